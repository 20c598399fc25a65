import JvmDerived
import JvmDerived.Pilot.@@N@@Statement
import JvmDerived.Pilot.@@N@@Code
set_option linter.unusedVariables false
set_option linter.unusedSimpArgs false
namespace Jvm.Pilot.@@N@@
open Jvm Jvm.ClassFile Sem Op Lib Jvm.Free Jvm.Stand Jvm.LawKit Jvm.RoadKit Bundle Jvm.Pilot.@@N@@.Jvm.D
abbrev y1 : MethodName := ⟨"com/example/minderd/minderd/process/Listings", "<init>", "()V"⟩
abbrev y2 : MethodName := ⟨"java/lang/Object", "<init>", "()V"⟩
abbrev y3 : MethodName := ⟨"java/util/ArrayDeque", "<init>", "()V"⟩
abbrev y4 : MethodName := ⟨"java/util/AbstractCollection", "<init>", "()V"⟩
abbrev y5 : MethodName := ⟨"com/example/minderd/minderd/process/Listings", "spans", "(JI)[I"⟩
abbrev y6 : MethodName := ⟨"java/util/ArrayDeque", "isEmpty", "()Z"⟩
abbrev y7 : MethodName := ⟨"com/example/minderd/minderd/process/Listings", "looked", "(JIZ)V"⟩
abbrev y8 : MethodName := ⟨"java/util/ArrayDeque", "addLast", "(Ljava/lang/Object;)V"⟩
abbrev y9 : MethodName := ⟨"java/util/ArrayDeque", "inc", "(II)I"⟩
abbrev y10 : MethodName := ⟨"java/util/ArrayDeque", "size", "()I"⟩
abbrev y11 : MethodName := ⟨"java/util/ArrayDeque", "sub", "(III)I"⟩
abbrev y12 : MethodName := ⟨"com/example/minderd/minderd/process/Listings", "secondOldest", "()J"⟩
abbrev y13 : MethodName := ⟨"java/util/ArrayDeque", "iterator", "()Ljava/util/Iterator;"⟩
abbrev y14 : MethodName := ⟨"java/util/ArrayDeque$DeqIterator", "<init>", "(Ljava/util/ArrayDeque;)V"⟩
abbrev y15 : MethodName := ⟨"java/util/ArrayDeque$DeqIterator", "next", "()Ljava/lang/Object;"⟩
abbrev y16 : MethodName := ⟨"java/util/ArrayDeque", "nonNullElementAt", "([Ljava/lang/Object;I)Ljava/lang/Object;"⟩
abbrev y17 : MethodName := ⟨"java/util/ArrayDeque", "getFirst", "()Ljava/lang/Object;"⟩
abbrev y18 : MethodName := ⟨"java/util/ArrayDeque", "elementAt", "([Ljava/lang/Object;I)Ljava/lang/Object;"⟩
abbrev y19 : MethodName := ⟨"com/example/minderd/minderd/process/ListingsSpansPinLaw", "same", "([IIIIII)Z"⟩

abbrev jv (x : Int64) : Slot := .val (.long x)
abbrev un : Slot := .unset
abbrev se : Slot := .second
abbrev AT (p : Program) (e : Env) (below : List Frame) (T : State) (m : MethodId) (pc : Nat) (ls : Array Slot) (st : List Value) (tg : State) : Prop := Steps p.tables e below (T.setTop (mkF m pc ls st)) tg
theorem ow {Z : State} {a0 : Array Value} (hw : ∀ d ∈ tables_1, d.before a0 Z = true) (i : Nat) {d : Jvm.Cond} (h : tables_1[i]? = some d) : d.before a0 Z = true := hw _ (List.mem_of_getElem? h)
theorem own_lrem {p : Program} {l : Launch} {e : Env} {R : Room} {s : State} {m : MethodId} {args : Array Value} {below : List Frame} {meth : Method} {c : Code} {T : State} {locs : List Loc} {cells slots : Nat} {g : JFrame} {target : State} (X : Stand p l e R s m args below meth c T locs cells slots) (hx : p.tables.exec = Jvm.exec) (hg : g.method = m) {x y : Int64} {rest : List Value} (hd : decode c.code g.pc = .ok (.lrem, 1)) (hs : g.stack = .long y :: .long x :: rest) (hy : y ≠ 0)
    (hr : Steps p.tables e below (T.setTop { g with pc := g.pc + 1, stack := .long (x % y) :: rest }) target) : Steps p.tables e below (T.setTop g) target :=
  XS.lrem X.here hx hg hd hs hy (by rw [lrem_mod]; exact hr)
theorem own_eqInt {args : Array Value} {first s : State} {o : Option Outcome} {idx : List Nat} {t : Term} {n : Int32} (h : (Jvm.Cond.eq t (.int n)).value args first o s idx = some true) : t.eval args first o idx s = some (.int n) := by
  simp only [Cond.value, Term.eval] at h
  cases ht : t.eval args first o idx s with
  | none => simp [ht] at h
  | some v => cases v <;> simp [ht] at h ⊢; exact h
theorem own_eqLong {args : Array Value} {first s : State} {o : Option Outcome} {idx : List Nat} {t : Term} {n : Int64} (h : (Jvm.Cond.eq t (.long n)).value args first o s idx = some true) : t.eval args first o idx s = some (.long n) := by
  simp only [Cond.value, Term.eval] at h
  cases ht : t.eval args first o idx s with
  | none => simp [ht] at h
  | some v => cases v <;> simp [ht] at h ⊢; exact h
theorem own_eqRef {args : Array Value} {first s : State} {o : Option Outcome} {idx : List Nat} {t u : Term} {a : Addr} (hu : u.eval args first o idx s = some (.ref a)) (h : (Jvm.Cond.eq t u).value args first o s idx = some true) : t.eval args first o idx s = some (.ref a) := by
  simp only [Cond.value, hu] at h
  cases ht : t.eval args first o idx s with
  | none => simp [ht] at h
  | some v => cases v <;> simp [ht] at h ⊢; exact h

theorem own_x32 {a b : Int} (h : (a - b) % 4294967296 = 0) (r : -2147483648 ≤ a ∧ a ≤ 2147483647) (q : -2147483648 ≤ b ∧ b ≤ 2147483647) : a = b := by omega
theorem own_x64 {a b : Int} (h : (a - b) % 18446744073709551616 = 0) (r : -9223372036854775808 ≤ a ∧ a ≤ 9223372036854775807) (q : -9223372036854775808 ≤ b ∧ b ≤ 9223372036854775807) : a = b := by omega
theorem own_in {c : Cell} {n : Int32} (j : Int32) (S : c.slots.size = n.toNatClampNeg) (q : ¬ j < 0 ∧ j < n) : ¬ (j < 0 ∨ c.slots.size ≤ j.toNatClampNeg) := inb_of S q
theorem own_up {x a b : Int32} (h : x < a) (q : a.toInt ≤ b.toInt) : x < b := Int32.lt_iff_toInt_lt.mpr (Int.lt_of_lt_of_le (Int32.lt_iff_toInt_lt.mp h) q)
theorem own_dn {x a b : Int32} (h : ¬ x < a) (q : b.toInt ≤ a.toInt) : ¬ x < b := fun z => h (own_up z q)
theorem own_neInt {args : Array Value} {first s : State} {o : Option Outcome} {idx : List Nat} {t : Term} {x n : Int32} (ht : t.eval args first o idx s = some (.int x)) (h : (Jvm.Cond.not (Jvm.Cond.eq t (.int n))).value args first o s idx = some true) : ¬ x = n := by
  simpa [Cond.value, Term.eval, ht] using h

theorem own_len {Z : State} {args : Array Value} {t : Term} {a : Addr} {cl : Cell} {ty : FieldType} {n : Int32} (ev : t.eval args Z none [] Z = some (.ref a)) (A : Arr Z Z.heap a cl ty) (h : (Term.length t).eval args Z none [] Z = some (.int n)) : cl.slots.size < 2 ^ 31 ∧ cl.slots.size.toInt32 = n := by
  have q := A.fin (U := Z) (Vm.Alike.refl _)
  simp only [Term.eval, ev, q, Option.bind_eq_bind, Option.bind_some, Option.pure_def] at h
  split at h
  · rename_i hlt; exact ⟨hlt, by simpa using h⟩
  · simp at h

theorem own_nar {v : Value} {c : String} (h : v.isRef = true) : narrow (.object c) v = v := by cases v <;> first | rfl | simp [Value.isRef] at h
theorem own_fits {v : Value} {c : String} (h : v.isRef = true) : fits (.object c) v = true := by cases v <;> first | rfl | simp [Value.isRef] at h
theorem own_cat {v : Value} (h : v.isRef = true) : v.category = 1 := by cases v <;> first | rfl | simp [Value.isRef] at h

theorem own_notOf {Z : State} {a0 : Array Value} {C S K : String} {n : Nat} (w : (Jvm.Cond.superclass C S).before a0 Z = true) (w0 : (Jvm.Cond.noSuperclass S).before a0 Z = true) (wk : (Jvm.Cond.instantiable K n).before a0 Z = true) (h1 : C ≠ K) (h2 : S ≠ K) :
    ∃ c t, Z.vm.findClass C = some c ∧ Z.vm.findClass K = some t ∧ Z.vm.assignable c t = false := by
  obtain ⟨t, k', g0, g2, g5, g7, -⟩ := Cond.instantiable_spec wk
  obtain ⟨c, h0⟩ := found_sup w
  obtain ⟨p, k, kp, q1, q2, q3, q4, q5, q6, q7⟩ := Cond.superclass_spec h0 w
  obtain ⟨c0, k0, r1, r2, r3, -, -⟩ := Cond.noSuperclass_spec w0
  cases q1.symm.trans r1
  have ne1 := ids_ne h0 g0 h1
  have ne2 := ids_ne r1 g0 h2
  have g8 := (Bool.or_eq_false_iff.mp g7).1
  have n3 : ∀ fuel, Z.vm.isSubclassAux fuel c t = false := by
    intro fuel
    cases fuel with
    | zero => rfl
    | succ f =>
      cases f with
      | zero => simp [Vm.isSubclassAux, ne1, q2, q4]
      | succ g => simp [Vm.isSubclassAux, ne1, ne2, q2, q4, r2, r3]
  refine ⟨c, t, h0, g0, ?_⟩
  show Z.vm.assignableAux (255 + 1) c t = false
  simp [Vm.assignableAux, ne1, q2, g2, q5, g5, g8, Vm.isSubclass, n3]

theorem own_selP {Z s : State} {a0 args : Array Value} {y : MethodName} {n : Nat} (hZ : Z.Warmed39 s.vm) (wi : (Jvm.Cond.instantiable y.cls n).before a0 Z = true) (wp : (Jvm.Cond.privateMethod y).before a0 Z = true) (wm : (Jvm.Cond.instanceMethod y).before a0 Z = true) (hy : y.cls ≠ "java/lang/invoke/MethodHandle" ∧ y.cls ≠ "java/lang/invoke/VarHandle") : (Jvm.Cond.selects y.cls y y).before args s = true := by
  obtain ⟨c, k, hc, hk, -, hni, -⟩ := Cond.instantiable_spec (mvT (s := s) (args := args) hZ wi)
  exact selects_self_of_private hc hk (Bool.or_eq_false_iff.mp hni).1 (Cond.privateMethod_at (mvP hZ wp (args := #[]))) (mvT hZ wm) hy

theorem own_neS {Z : State} {h : Heap} {a b u w : Addr} {C f d : String} {k k' : ClassId} {ty : FieldType} {z z' : Int32} {vs vs' : List Value} {dv dv' : Value} (Fa : Fld Z h a C f d (.ref u)) (Va : Arv Z h u k ty z vs dv) (Fb : Fld Z h b C f d (.ref w)) (Vb : Arv Z h w k' ty z' vs' dv') (hn : z ≠ z' ∨ ∃ i : Nat, i < z.toNatClampNeg ∧ vs.getD i dv ≠ vs'.getD i dv') : a ≠ b := fun e => by
  subst e
  have hu : u = w := by
    rcases Decidable.em (u = w) with q | q
    · exact q
    · exact absurd rfl (Fld.ne Fa Fb (fun x => q (Value.ref.inj x)))
  subst hu
  obtain ⟨c1, A1, -, S1, N1, H1, -⟩ := Va
  obtain ⟨c2, A2, -, S2, N2, H2, -⟩ := Vb
  cases A1.1.symm.trans A2.1
  rcases hn with hn | ⟨i, hi, hn⟩
  · exact hn ((len_of S1 N1).symm.trans (len_of S2 N2))
  · have q1 := H1 i (by rw [S1]; exact hi)
    have q2 := H2 i (by rw [S1]; exact hi)
    exact hn (Option.some.inj (q1.symm.trans q2))
def Wd (Z : State)  : Prop :=
  Sta Z Z.heap "com/example/minderd/minderd/process/Listings" "MAKING_NANOS" "J" (.long (2000000000 : Int64)) ∧
  Sta Z Z.heap "com/example/minderd/minderd/process/Listings" "WHOLE_NANOS" "J" (.long (600000000000 : Int64))
theorem pn_0 : plainName "java/util/AbstractCollection" = true := by first | (simp [plainName, overriddenIn]; done) | decide +kernel
theorem pn_1 : plainName "java/util/ArrayDeque" = true := by first | (simp [plainName, overriddenIn]; done) | decide +kernel
theorem pn_2 : plainName "com/example/minderd/minderd/process/Listings" = true := by first | (simp [plainName, overriddenIn]; done) | decide +kernel
theorem pn_3 : plainName "java/util/ArrayDeque$DeqIterator" = true := by first | (simp [plainName, overriddenIn]; done) | decide +kernel
theorem pn_4 : plainName "com/example/minderd/minderd/process/ListingsSpansPinLaw" = true := by first | (simp [plainName, overriddenIn]; done) | decide +kernel
theorem pd_0 : parseMethodDescriptor "()V" = some ⟨[], none⟩ := by decide +kernel
theorem pd_1 : parseMethodDescriptor "(III)I" = some ⟨[.int, .int, .int], some .int⟩ := by decide +kernel
theorem pd_2 : parseMethodDescriptor "(II)I" = some ⟨[.int, .int], some .int⟩ := by decide +kernel
theorem pd_3 : parseMethodDescriptor "([Ljava/lang/Object;I)Ljava/lang/Object;" = some ⟨[(.array (.object "java/lang/Object")), .int], some (.object "java/lang/Object")⟩ := by decide +kernel
theorem pd_4 : parseMethodDescriptor "()I" = some ⟨[], some .int⟩ := by decide +kernel
theorem pd_5 : parseMethodDescriptor "(Ljava/util/ArrayDeque;)V" = some ⟨[(.object "java/util/ArrayDeque")], none⟩ := by decide +kernel
theorem pd_6 : parseMethodDescriptor "()Ljava/util/Iterator;" = some ⟨[], some (.object "java/util/Iterator")⟩ := by decide +kernel
theorem pd_7 : parseMethodDescriptor "()Ljava/lang/Object;" = some ⟨[], some (.object "java/lang/Object")⟩ := by decide +kernel
theorem pd_8 : parseMethodDescriptor "(Ljava/lang/Object;)V" = some ⟨[(.object "java/lang/Object")], none⟩ := by decide +kernel
theorem pd_9 : parseMethodDescriptor "()J" = some ⟨[], some .long⟩ := by decide +kernel
theorem pd_10 : parseMethodDescriptor "()Z" = some ⟨[], some .boolean⟩ := by decide +kernel
theorem pd_11 : parseMethodDescriptor "(JI)[I" = some ⟨[.long, .int], some (.array .int)⟩ := by decide +kernel
theorem pd_12 : parseMethodDescriptor "(JIZ)V" = some ⟨[.long, .int, .boolean], none⟩ := by decide +kernel
theorem pd_13 : parseMethodDescriptor "([IIIIII)Z" = some ⟨[(.array .int), .int, .int, .int, .int, .int], some .boolean⟩ := by decide +kernel
theorem d4_0 : decode jdk_22_method_1_code 0 = .ok (.aload_n 0, 1) := by decide +kernel
theorem d4_1 : decode jdk_22_method_1_code 1 = .ok (.invokespecial 1, 3) := by decide +kernel
theorem d4_4 : decode jdk_22_method_1_code 4 = .ok (.return_, 1) := by decide +kernel
theorem ef_4 (m : MethodId) (a0 : Addr) : entryFrame m #[(.ref a0)] 1 = mkF m 0 #[rv a0] [] := by first | (simp [entryFrame, mkF, argsToLocals, Value.category]; done) | rfl
def Q4 (Z : State) (a0 : Addr) (h0 : Heap) (n0 : Nat) (v : Option Value) (h : Heap) (L : List Loc) : Prop := v = none ∧ Fr n0 L ∧ h = h0
set_option maxRecDepth 65536 in
set_option maxHeartbeats 40000000 in
theorem rm4 (l : Launch) (Z : State) (ar : Array Value) (hw : ∀ d ∈ tables_1, d.before ar Z = true) (ws : List Jvm.Cond) (a0 : Addr) (h0 : Heap) (n0 : Nat) (O0 : Old Z n0 h0) :
    MetFree l y4 (head1 (Jvm.Cond.code y4 jdk_22_method_1_code 1 none :: ws) ({ frames := 1, cells := 0, slots := 0, locals := 12 } : Room)) (fun a U => a = #[(.ref a0)] ∧ Z.Warmed39 U.vm ∧ U.heap = h0) (fun _ _ _ _ _ => True) (fun _ U o U' => ∃ v L, o = .returned v ∧ Q4 Z a0 h0 n0 v U'.heap L ∧ FrameEnd U o U' L ({ frames := 1, cells := 0, slots := 0, locals := 12 } : Room).cells ({ frames := 1, cells := 0, slots := 0, locals := 12 } : Room).slots) := by
 refine MetFree.of_bodySF (plainFor_of_name pn_0) hisR ?_
 intro p e s m args below meth c s₁ Bd hml0 hP hK
 obtain ⟨rfl, hZ, hh⟩ := hP
 have hx := Bd.exec
 have hby := Bd.bytes
 have hml : c.maxLocals = 1 := hml0
 have hown : s.vm.findClass "java/util/AbstractCollection" = some m.cls := findClass_of_methodNamed Bd.named
 have hnm := (name_of_methodNamed Bd.named Bd.method).1
 have X0 : Stand p l e ({ frames := 1, cells := 0, slots := 0, locals := 12 } : Room) s m #[(.ref a0)] below meth c s₁ [] 0 0 := Stand.of_body Bd
 have e0 : s₁.heap = h0 := by rw [← hh, Bd.state]; rfl
 have N0 := Fr.nil n0
 have Z0 : n0 ≤ h0.size := Nat.le_trans (Nat.le_of_eq O0.1.symm) O0.2.1
 obtain ⟨S0, hS0⟩ : ∃ z, z = s₁.setTop (entryFrame m #[(.ref a0)] 1) := ⟨_, rfl⟩
 have pre0 : ∀ tg, AT p e below s₁ m 0 #[rv a0] [] tg → Steps p.tables e below S0 tg := fun tg kg => by rw [hS0]; exact castTop (ef_4 m a0) kg
 obtain ⟨T1, X1, e1, st1⟩ := initO X0 hx hZ hown (ow hw 21 rfl) (ow hw 7 rfl) (ow hw 8 rfl) e0 (g := (mkF m 1 #[rv a0] [(.ref a0)])) rfl (by rw [hml]; rfl) rfl (hb hby d4_1) (by decide) (W := 0) (by show 2 * 0 + _ ≤ _; exact Nat.le_of_eq rfl) (by decide)
 obtain ⟨fs, hr, hrun, hended, hW, hsame⟩ := X1.leave (v := none) (fun _ => rfl)
 subst hS0
 refine ⟨_, _, pre0 _ ?_, hrun, hended, _, _, rfl, ?_, ⟨_, rfl⟩, hW, hsame.mono (by decide) (by decide)⟩
 ·
  refine XS.aloadN X0.here hx rfl (hb hby d4_0) rfl rfl ?_
  show AT p e below s₁ m 1 #[rv a0] [(.ref a0)] _
  refine st1 _ ?_
  show AT p e below T1 m 4 #[rv a0] [] _
  exact X1.returnOut hx Bd.returns (hb hby d4_4) hr
 ·
  show Q4 Z a0 h0 n0 _ T1.heap _
  rw [e1]
  exact ⟨rfl, N0, rfl⟩

theorem d3_0 : decode jdk_21_method_3_code 0 = .ok (.aload_n 0, 1) := by decide +kernel
theorem d3_1 : decode jdk_21_method_3_code 1 = .ok (.invokespecial 42, 3) := by decide +kernel
theorem d3_4 : decode jdk_21_method_3_code 4 = .ok (.aload_n 0, 1) := by decide +kernel
theorem d3_5 : decode jdk_21_method_3_code 5 = .ok (.bipush 17, 2) := by decide +kernel
theorem d3_7 : decode jdk_21_method_3_code 7 = .ok (.anewarray 47, 3) := by decide +kernel
theorem d3_10 : decode jdk_21_method_3_code 10 = .ok (.putfield 3, 3) := by decide +kernel
theorem d3_13 : decode jdk_21_method_3_code 13 = .ok (.return_, 1) := by decide +kernel
theorem ef_3 (m : MethodId) (a0 : Addr) : entryFrame m #[(.ref a0)] 1 = mkF m 0 #[rv a0] [] := by first | (simp [entryFrame, mkF, argsToLocals, Value.category]; done) | rfl
def Q3 (Z : State) (a0 : Addr) (h0 : Heap) (n0 : Nat) (v : Option Value) (h : Heap) (L : List Loc) : Prop := ∃ (es : Addr) (ke : ClassId), v = none ∧ Fr n0 L ∧ Keep h0 h [a0] ∧ Exa Z h a0 "java/util/ArrayDeque" ∧ Fld Z h a0 "java/util/ArrayDeque" "elements" "[Ljava/lang/Object;" (.ref es) ∧ Fld Z h a0 "java/util/ArrayDeque" "head" "I" (.int (0 : Int32)) ∧ Fld Z h a0 "java/util/ArrayDeque" "tail" "I" (.int (0 : Int32)) ∧ Arv Z h es ke (.object "java/lang/Object") (17 : Int32) [.null, .null] .null ∧ Ovr Z ke "java/lang/Object" ∧ h0.size ≤ es ∧ a0 ≠ es
set_option maxRecDepth 65536 in
set_option maxHeartbeats 40000000 in
theorem rm3 (l : Launch) (Z : State) (ar : Array Value) (hw : ∀ d ∈ tables_1, d.before ar Z = true) (ws : List Jvm.Cond) (a0 : Addr) (h0 : Heap) (n0 : Nat) (O0 : Old Z n0 h0) (pf0 : Exa Z h0 a0 "java/util/ArrayDeque") (pf1 : Fld Z h0 a0 "java/util/ArrayDeque" "elements" "[Ljava/lang/Object;" .null) (pf2 : Fld Z h0 a0 "java/util/ArrayDeque" "head" "I" (.int (0 : Int32))) (pf3 : Fld Z h0 a0 "java/util/ArrayDeque" "tail" "I" (.int (0 : Int32))) (pf4 : n0 ≤ a0) :
    MetFree l y3 (head1 (Jvm.Cond.code y3 jdk_21_method_3_code 1 none :: ws) ({ frames := 2, cells := 1, slots := 17, locals := 24 } : Room)) (fun a U => a = #[(.ref a0)] ∧ Z.Warmed39 U.vm ∧ U.heap = h0) (fun _ _ _ _ _ => True) (fun _ U o U' => ∃ v L, o = .returned v ∧ Q3 Z a0 h0 n0 v U'.heap L ∧ FrameEnd U o U' L ({ frames := 2, cells := 1, slots := 17, locals := 24 } : Room).cells ({ frames := 2, cells := 1, slots := 17, locals := 24 } : Room).slots) := by
 refine MetFree.of_bodySF (plainFor_of_name pn_1) hisR ?_
 intro p e s m args below meth c s₁ Bd hml0 hP hK
 obtain ⟨rfl, hZ, hh⟩ := hP
 have hx := Bd.exec
 have hby := Bd.bytes
 have hml : c.maxLocals = 1 := hml0
 have hown : s.vm.findClass "java/util/ArrayDeque" = some m.cls := findClass_of_methodNamed Bd.named
 have hnm := (name_of_methodNamed Bd.named Bd.method).1
 have X0 : Stand p l e ({ frames := 2, cells := 1, slots := 17, locals := 24 } : Room) s m #[(.ref a0)] below meth c s₁ [] 0 0 := Stand.of_body Bd
 have e0 : s₁.heap = h0 := by rw [← hh, Bd.state]; rfl
 have N0 := Fr.nil n0
 have Z0 : n0 ≤ h0.size := Nat.le_trans (Nat.le_of_eq O0.1.symm) O0.2.1
 obtain ⟨S0, hS0⟩ : ∃ z, z = s₁.setTop (entryFrame m #[(.ref a0)] 1) := ⟨_, rfl⟩
 have pre0 : ∀ tg, AT p e below s₁ m 0 #[rv a0] [] tg → Steps p.tables e below S0 tg := fun tg kg => by rw [hS0]; exact castTop (ef_3 m a0) kg
 obtain ⟨_, _, ⟨T1, L1, k1, n1⟩, -, X1, ⟨Lc1, hQ1, l1, y1, z1⟩, st1⟩ := X0.specialBack hx (y := y4) rfl hown (mvT hZ (ow hw 15 rfl)) (mvT hZ (ow hw 16 rfl)) (mvT hZ (ow hw 20 rfl)) (by decide) (backOf (W := 0) (rm4 l Z ar hw [] a0 h0 n0 O0) hZ (ow hw 20 rfl) (ow hw 19 rfl) (by decide) (by decide)) (g := (mkF m 1 #[rv a0] [(.ref a0)])) rfl (by rw [hml]; rfl) (Steps.refl _) (a := a0) (argsL := []) (rest := []) (lenOf pd_0 rfl) rfl (by show 2 * 0 + _ ≤ _; exact Nat.le_of_eq rfl) (hb hby d3_1) (fun _ _ => ⟨rfl, e0, (by decide : 0 + 0 ≤ _), (by decide : 0 + 0 ≤ _)⟩)
 dsimp only [Pt.U, Pt.locs, Pt.cells, Pt.slots] at X1 l1 y1 z1 st1 hQ1
 subst l1 y1 z1
 obtain ⟨rfl, N1q, e1⟩ := hQ1
 have N1 := Fr.app N0 N1q
 obtain ⟨T2, h2, k2, X2, e2, E2, A2, B2, st2⟩ := newR X1 hx hZ hown (ow hw 22 rfl) (ow hw 23 rfl) e1 (g := (mkF m 7 #[rv a0] [(.int (17 : Int32)), (.ref a0)])) rfl (hb hby d3_7) rfl (by decide) (cap := 17) (by decide) (by decide) (by decide) (by decide)
 obtain ⟨b2, g2⟩ : ∃ z, z = h0.size := ⟨_, rfl⟩
 rw [← g2] at A2 st2
 have ne2_3 : a0 ≠ b2 := Nat.ne_of_lt (Nat.lt_of_lt_of_le (pf0).lt (Nat.le_of_eq g2.symm))
 have gn2 : n0 ≤ b2 := Nat.le_trans (Nat.le_trans (Nat.le_of_eq O0.1.symm) O0.2.1) (Nat.le_of_eq g2.symm)
 have sz2 : h0.size ≤ b2 := Nat.le_trans (Keep.refl h0 [a0]).1 (Nat.le_of_eq g2.symm)
 have E2_4 := pf0.ext E2
 have F2_5 := pf1.ext E2
 have F2_6 := pf2.ext E2
 have F2_7 := pf3.ext E2
 have K2 := (Keep.refl h0 [a0]).ext E2
 have O2 := O0.ext E2
 have V2_8 : Arv Z h2 b2 k2 (.object "java/lang/Object") (17 : Int32) [.null, .null] .null := (Arv.new A2 (by decide)).pad (pad_rep [] .null 2)
 obtain ⟨T9, h9, X9, e9, W9, st9⟩ := putF X2 hx hZ hown (host := "") (Or.inl (ow hw 24 rfl)) Via.refl e2 F2_5 E2_4 (Or.inl (ow hw 25 rfl)) (ow hw 10 rfl) (ty := (.array (.object "java/lang/Object"))) (by decide) rfl rfl (g := (mkF m 10 #[rv a0] [(.ref b2), (.ref a0)])) rfl rfl (hb hby d3_10)
 have E9_10 := E2_4.wr W9
 have F9_11 : Fld Z h9 a0 "java/util/ArrayDeque" "elements" "[Ljava/lang/Object;" (.ref b2) := F2_5.same W9
 have F9_12 := F2_6.other W9 (Or.inr (slot_ne (Or.inl (ow hw 39 rfl)) (Or.inl (ow hw 25 rfl)) (by decide) (t := .int) (t' := (.array (.object "java/lang/Object"))) (by decide) (by decide)))
 have F9_13 := F2_7.other W9 (Or.inr (slot_ne (Or.inl (ow hw 41 rfl)) (Or.inl (ow hw 25 rfl)) (by decide) (t := .int) (t' := (.array (.object "java/lang/Object"))) (by decide) (by decide)))
 have V9_14 := V2_8.other W9 (Ne.symm ne2_3)
 have K9 := K2.wr W9 (Or.inl (List.mem_of_getElem? (i := 0) rfl))
 have O9 := O2.wr W9 pf4
 have N9 := Fr.snoc X9 N1 pf4
 obtain ⟨fs, hr, hrun, hended, hW, hsame⟩ := X9.leave (v := none) (fun _ => rfl)
 subst hS0
 refine ⟨_, _, pre0 _ ?_, hrun, hended, _, _, rfl, ?_, ⟨_, rfl⟩, hW, hsame.mono (by decide) (by decide)⟩
 ·
  refine XS.aloadN X0.here hx rfl (hb hby d3_0) rfl rfl ?_
  show AT p e below s₁ m 1 #[rv a0] [(.ref a0)] _
  refine st1.trans ?_
  show AT p e below T1 m 4 #[rv a0] [] _
  refine XS.aloadN X1.here hx rfl (hb hby d3_4) rfl rfl ?_
  show AT p e below T1 m 5 #[rv a0] [(.ref a0)] _
  refine XS.bipush X1.here hx rfl (hb hby d3_5) ?_
  show AT p e below T1 m 7 #[rv a0] [(.int (17 : Int32)), (.ref a0)] _
  refine st2 _ ?_
  show AT p e below T2 m 10 #[rv a0] [(.ref b2), (.ref a0)] _
  refine st9 _ ?_
  show AT p e below T9 m 13 #[rv a0] [] _
  exact X9.returnOut hx Bd.returns (hb hby d3_13) hr
 ·
  show Q3 Z a0 h0 n0 _ T9.heap _
  rw [e9]
  exact ⟨b2, k2, rfl, N9, K9, E9_10, F9_11, F9_12, F9_13, V9_14, B2, sz2, ne2_3⟩

theorem d1_0 : decode prog_29_method_1_code 0 = .ok (.aload_n 0, 1) := by decide +kernel
theorem d1_1 : decode prog_29_method_1_code 1 = .ok (.invokespecial 1, 3) := by decide +kernel
theorem d1_4 : decode prog_29_method_1_code 4 = .ok (.aload_n 0, 1) := by decide +kernel
theorem d1_5 : decode prog_29_method_1_code 5 = .ok (.new 7, 3) := by decide +kernel
theorem d1_8 : decode prog_29_method_1_code 8 = .ok (.dup, 1) := by decide +kernel
theorem d1_9 : decode prog_29_method_1_code 9 = .ok (.invokespecial 9, 3) := by decide +kernel
theorem d1_12 : decode prog_29_method_1_code 12 = .ok (.putfield 10, 3) := by decide +kernel
theorem d1_15 : decode prog_29_method_1_code 15 = .ok (.return_, 1) := by decide +kernel
theorem ef_1 (m : MethodId) (a0 : Addr) : entryFrame m #[(.ref a0)] 1 = mkF m 0 #[rv a0] [] := by first | (simp [entryFrame, mkF, argsToLocals, Value.category]; done) | rfl
def Q1 (Z : State) (a0 : Addr) (h0 : Heap) (n0 : Nat) (v : Option Value) (h : Heap) (L : List Loc) : Prop := ∃ (dq : Addr) (es : Addr) (ke : ClassId), v = none ∧ Fr n0 L ∧ Keep h0 h [a0] ∧ Exa Z h a0 "com/example/minderd/minderd/process/Listings" ∧ Fld Z h a0 "com/example/minderd/minderd/process/Listings" "recent" "Ljava/util/ArrayDeque;" (.ref dq) ∧ Fld Z h a0 "com/example/minderd/minderd/process/Listings" "wholeAt" "J" (.long (0 : Int64)) ∧ Exa Z h dq "java/util/ArrayDeque" ∧ Fld Z h dq "java/util/ArrayDeque" "elements" "[Ljava/lang/Object;" (.ref es) ∧ Fld Z h dq "java/util/ArrayDeque" "head" "I" (.int (0 : Int32)) ∧ Fld Z h dq "java/util/ArrayDeque" "tail" "I" (.int (0 : Int32)) ∧ Arv Z h es ke (.object "java/lang/Object") (17 : Int32) [.null, .null] .null ∧ Ovr Z ke "java/lang/Object" ∧ h0.size ≤ dq ∧ h0.size ≤ es ∧ a0 ≠ dq ∧ a0 ≠ es ∧ dq ≠ es
set_option maxRecDepth 65536 in
set_option maxHeartbeats 40000000 in
theorem rm1 (l : Launch) (Z : State) (ar : Array Value) (hw : ∀ d ∈ tables_1, d.before ar Z = true) (ws : List Jvm.Cond) (a0 : Addr) (h0 : Heap) (n0 : Nat) (O0 : Old Z n0 h0) (pf0 : Exa Z h0 a0 "com/example/minderd/minderd/process/Listings") (pf1 : Fld Z h0 a0 "com/example/minderd/minderd/process/Listings" "recent" "Ljava/util/ArrayDeque;" .null) (pf2 : Fld Z h0 a0 "com/example/minderd/minderd/process/Listings" "wholeAt" "J" (.long (0 : Int64))) (pf3 : n0 ≤ a0) :
    MetFree l y1 (head1 (Jvm.Cond.code y1 prog_29_method_1_code 1 none :: ws) ({ frames := 3, cells := 2, slots := 20, locals := 38 } : Room)) (fun a U => a = #[(.ref a0)] ∧ Z.Warmed39 U.vm ∧ U.heap = h0) (fun _ _ _ _ _ => True) (fun _ U o U' => ∃ v L, o = .returned v ∧ Q1 Z a0 h0 n0 v U'.heap L ∧ FrameEnd U o U' L ({ frames := 3, cells := 2, slots := 20, locals := 38 } : Room).cells ({ frames := 3, cells := 2, slots := 20, locals := 38 } : Room).slots) := by
 refine MetFree.of_bodySF (plainFor_of_name pn_2) hisR ?_
 intro p e s m args below meth c s₁ Bd hml0 hP hK
 obtain ⟨rfl, hZ, hh⟩ := hP
 have hx := Bd.exec
 have hby := Bd.bytes
 have hml : c.maxLocals = 1 := hml0
 have hown : s.vm.findClass "com/example/minderd/minderd/process/Listings" = some m.cls := findClass_of_methodNamed Bd.named
 have hnm := (name_of_methodNamed Bd.named Bd.method).1
 have X0 : Stand p l e ({ frames := 3, cells := 2, slots := 20, locals := 38 } : Room) s m #[(.ref a0)] below meth c s₁ [] 0 0 := Stand.of_body Bd
 have e0 : s₁.heap = h0 := by rw [← hh, Bd.state]; rfl
 have N0 := Fr.nil n0
 have Z0 : n0 ≤ h0.size := Nat.le_trans (Nat.le_of_eq O0.1.symm) O0.2.1
 obtain ⟨S0, hS0⟩ : ∃ z, z = s₁.setTop (entryFrame m #[(.ref a0)] 1) := ⟨_, rfl⟩
 have pre0 : ∀ tg, AT p e below s₁ m 0 #[rv a0] [] tg → Steps p.tables e below S0 tg := fun tg kg => by rw [hS0]; exact castTop (ef_1 m a0) kg
 obtain ⟨T1, X1, e1, st1⟩ := initO X0 hx hZ hown (ow hw 6 rfl) (ow hw 7 rfl) (ow hw 8 rfl) e0 (g := (mkF m 1 #[rv a0] [(.ref a0)])) rfl (by rw [hml]; rfl) rfl (hb hby d1_1) (by decide) (W := 0) (by show 2 * 0 + _ ≤ _; exact Nat.le_of_eq rfl) (by decide)
 obtain ⟨T2, h2, X2, e2, E2, A2, D2, -, st2⟩ := newO X1 hx hZ hown (ow hw 9 rfl) (ow hw 10 rfl) (ow hw 11 rfl) e1 (g := (mkF m 5 #[rv a0] [(.ref a0)])) rfl (hb hby d1_5) (by decide) (by decide)
 obtain ⟨b2, g2⟩ : ∃ z, z = h0.size := ⟨_, rfl⟩
 rw [← g2] at A2 D2 st2
 have ne2_3 : a0 ≠ b2 := Nat.ne_of_lt (Nat.lt_of_lt_of_le (pf0).lt (Nat.le_of_eq g2.symm))
 have gn2 : n0 ≤ b2 := Nat.le_trans (Nat.le_trans (Nat.le_of_eq O0.1.symm) O0.2.1) (Nat.le_of_eq g2.symm)
 have sz2 : h0.size ≤ b2 := Nat.le_trans (Keep.refl h0 [a0]).1 (Nat.le_of_eq g2.symm)
 have E2_4 := pf0.ext E2
 have F2_5 := pf1.ext E2
 have F2_6 := pf2.ext E2
 have K2 := (Keep.refl h0 [a0]).ext E2
 have O2 := O0.ext E2
 have F2_7 : Fld Z h2 b2 "java/util/ArrayDeque" "elements" "[Ljava/lang/Object;" .null := D2 (Or.inl (ow hw 25 rfl)) (ty := (.array (.object "java/lang/Object"))) (by decide)
 have F2_8 : Fld Z h2 b2 "java/util/ArrayDeque" "head" "I" (.int (0 : Int32)) := D2 (Or.inl (ow hw 39 rfl)) (ty := .int) (by decide)
 have F2_9 : Fld Z h2 b2 "java/util/ArrayDeque" "tail" "I" (.int (0 : Int32)) := D2 (Or.inl (ow hw 41 rfl)) (ty := .int) (by decide)
 obtain ⟨_, _, ⟨T10, L10, k10, n10⟩, -, X10, ⟨Lc10, hQ10, l10, y10, z10⟩, st10⟩ := X2.specialBack hx (y := y3) rfl hown (mvT hZ (ow hw 12 rfl)) (mvT hZ (ow hw 13 rfl)) (mvT hZ (ow hw 14 rfl)) (by decide) (backOf (W := 2) (rm3 l Z ar hw [] b2 h2 n0 O2 A2 F2_7 F2_8 F2_9 gn2) hZ (ow hw 14 rfl) (ow hw 11 rfl) (by decide) (by decide)) (g := (mkF m 9 #[rv a0] [(.ref b2), (.ref b2), (.ref a0)])) rfl (by rw [hml]; rfl) (Steps.refl _) (a := b2) (argsL := []) (rest := [(.ref b2), (.ref a0)]) (lenOf pd_0 rfl) rfl (by show 2 * 0 + _ ≤ _; exact Nat.le_of_eq rfl) (hb hby d1_9) (fun _ _ => ⟨rfl, e2, (by decide : 1 + 1 ≤ _), (by decide : 3 + 17 ≤ _)⟩)
 dsimp only [Pt.U, Pt.locs, Pt.cells, Pt.slots] at X10 l10 y10 z10 st10 hQ10
 subst l10 y10 z10
 obtain ⟨es_10, ke_10, rfl, N10q, Kq10, u10_0, u10_1, u10_2, u10_3, u10_4, u10_5, u10_6, u10_7⟩ := hQ10
 have N10 := Fr.app N0 N10q
 have E10_11 := E2_4.keep Kq10
 have F10_12 := F2_5.keep Kq10 (ninS ne2_3 nin0)
 have F10_13 := F2_6.keep Kq10 (ninS ne2_3 nin0)
 have E10_14 := A2.keep Kq10
 have K10 := K2.trans Kq10 (allS (Or.inr sz2) all0)
 have O10 := O2.keep Kq10 (allS gn2 all0)
 have sz15 : h0.size ≤ es_10 := Nat.le_trans K2.1 u10_6
 have gn15 : n0 ≤ es_10 := Nat.le_trans (Nat.le_trans (Nat.le_of_eq O2.1.symm) O2.2.1) u10_6
 have ne16 : a0 ≠ es_10 := Nat.ne_of_lt (Nat.lt_of_lt_of_le (E2_4).lt u10_6)
 have ne17 : b2 ≠ es_10 := Nat.ne_of_lt (Nat.lt_of_lt_of_le (A2).lt u10_6)
 obtain ⟨T18, h18, X18, e18, W18, st18⟩ := putF X10 hx hZ hown (host := "") (Or.inl (ow hw 26 rfl)) Via.refl rfl F10_12 E10_11 (Or.inr ⟨(ow hw 27 rfl), rfl, hnm⟩) (ow hw 1 rfl) (ty := (.object "java/util/ArrayDeque")) (by decide) rfl rfl (g := (mkF m 12 #[rv a0] [(.ref b2), (.ref a0)])) rfl rfl (hb hby d1_12)
 have E18_19 := E10_11.wr W18
 have F18_20 : Fld Z h18 a0 "com/example/minderd/minderd/process/Listings" "recent" "Ljava/util/ArrayDeque;" (.ref b2) := F10_12.same W18
 have F18_21 := F10_13.other W18 (Or.inr (slot_ne (Or.inl (ow hw 66 rfl)) (Or.inr (ow hw 27 rfl)) (by decide) (t := .long) (t' := (.object "java/util/ArrayDeque")) (by decide) (by decide)))
 have E18_22 := E10_14.wr W18
 have F18_23 := u10_1.other W18 (Or.inl (Ne.symm ne2_3))
 have F18_24 := u10_2.other W18 (Or.inl (Ne.symm ne2_3))
 have F18_25 := u10_3.other W18 (Or.inl (Ne.symm ne2_3))
 have V18_26 := u10_4.other W18 (Ne.symm ne16)
 have K18 := K10.wr W18 (Or.inl (List.mem_of_getElem? (i := 0) rfl))
 have O18 := O10.wr W18 pf3
 have N18 := Fr.snoc X18 N10 pf3
 obtain ⟨fs, hr, hrun, hended, hW, hsame⟩ := X18.leave (v := none) (fun _ => rfl)
 subst hS0
 refine ⟨_, _, pre0 _ ?_, hrun, hended, _, _, rfl, ?_, ⟨_, rfl⟩, hW, hsame.mono (by decide) (by decide)⟩
 ·
  refine XS.aloadN X0.here hx rfl (hb hby d1_0) rfl rfl ?_
  show AT p e below s₁ m 1 #[rv a0] [(.ref a0)] _
  refine st1 _ ?_
  show AT p e below T1 m 4 #[rv a0] [] _
  refine XS.aloadN X1.here hx rfl (hb hby d1_4) rfl rfl ?_
  show AT p e below T1 m 5 #[rv a0] [(.ref a0)] _
  refine st2 _ ?_
  show AT p e below T2 m 8 #[rv a0] [(.ref b2), (.ref a0)] _
  refine XS.dup X2.here hx rfl (hb hby d1_8) rfl rfl ?_
  show AT p e below T2 m 9 #[rv a0] [(.ref b2), (.ref b2), (.ref a0)] _
  refine st10.trans ?_
  show AT p e below T10 m 12 #[rv a0] [(.ref b2), (.ref a0)] _
  refine st18 _ ?_
  show AT p e below T18 m 15 #[rv a0] [] _
  exact X18.returnOut hx Bd.returns (hb hby d1_15) hr
 ·
  show Q1 Z a0 h0 n0 _ T18.heap _
  rw [e18]
  exact ⟨b2, es_10, ke_10, rfl, N18, K18, E18_19, F18_20, F18_21, E18_22, F18_23, F18_24, F18_25, V18_26, u10_5, sz2, sz15, ne2_3, ne16, u10_7⟩

theorem d9_0 : decode jdk_21_method_6_code 0 = .ok (.iinc 0 1, 3) := by decide +kernel
theorem d9_3 : decode jdk_21_method_6_code 3 = .ok (.iload_n 0, 1) := by decide +kernel
theorem d9_4 : decode jdk_21_method_6_code 4 = .ok (.iload_n 1, 1) := by decide +kernel
theorem d9_5 : decode jdk_21_method_6_code 5 = .ok (.if_icmp .lt 5, 3) := by decide +kernel
theorem d9_8 : decode jdk_21_method_6_code 8 = .ok (.iconst 0, 1) := by decide +kernel
theorem d9_9 : decode jdk_21_method_6_code 9 = .ok (.istore_n 0, 1) := by decide +kernel
theorem d9_10 : decode jdk_21_method_6_code 10 = .ok (.iload_n 0, 1) := by decide +kernel
theorem d9_11 : decode jdk_21_method_6_code 11 = .ok (.ireturn, 1) := by decide +kernel
theorem ef_9 (m : MethodId) (p0 : Int32) (p1 : Int32) : entryFrame m #[(.int p0), (.int p1)] 2 = mkF m 0 #[iv p0, iv p1] [] := by first | (simp [entryFrame, mkF, argsToLocals, Value.category]; done) | rfl
def f9 (p0 : Int32) (p1 : Int32) : Int32 := if (p0 + (1 : Int32)) < p1 then (p0 + (1 : Int32)) else (0 : Int32)
def Q9 (Z : State) (p0 : Int32) (p1 : Int32) (h0 : Heap) (n0 : Nat) (v : Option Value) (h : Heap) (L : List Loc) : Prop := v = some (.int (f9 p0 p1)) ∧ Fr n0 L ∧ h = h0
set_option maxRecDepth 65536 in
set_option maxHeartbeats 40000000 in
theorem rm9 (l : Launch) (Z : State) (ar : Array Value) (hw : ∀ d ∈ tables_1, d.before ar Z = true) (ws : List Jvm.Cond) (p0 : Int32) (p1 : Int32) (h0 : Heap) (n0 : Nat) (O0 : Old Z n0 h0) :
    MetFree l y9 (head1 (Jvm.Cond.code y9 jdk_21_method_6_code 2 (some .int) :: ws) ({ frames := 0, cells := 0, slots := 0, locals := 0 } : Room)) (fun a U => a = #[(.int p0), (.int p1)] ∧ Z.Warmed39 U.vm ∧ U.heap = h0) (fun _ _ _ _ _ => True) (fun _ U o U' => ∃ v L, o = .returned v ∧ Q9 Z p0 p1 h0 n0 v U'.heap L ∧ FrameEnd U o U' L ({ frames := 0, cells := 0, slots := 0, locals := 0 } : Room).cells ({ frames := 0, cells := 0, slots := 0, locals := 0 } : Room).slots) := by
 refine MetFree.of_bodySF (plainFor_of_name pn_1) hisR ?_
 intro p e s m args below meth c s₁ Bd hml0 hP hK
 obtain ⟨rfl, hZ, hh⟩ := hP
 have hx := Bd.exec
 have hby := Bd.bytes
 have hml : c.maxLocals = 2 := hml0
 have hown : s.vm.findClass "java/util/ArrayDeque" = some m.cls := findClass_of_methodNamed Bd.named
 have hnm := (name_of_methodNamed Bd.named Bd.method).1
 have X0 : Stand p l e ({ frames := 0, cells := 0, slots := 0, locals := 0 } : Room) s m #[(.int p0), (.int p1)] below meth c s₁ [] 0 0 := Stand.of_body Bd
 have e0 : s₁.heap = h0 := by rw [← hh, Bd.state]; rfl
 have N0 := Fr.nil n0
 have Z0 : n0 ≤ h0.size := Nat.le_trans (Nat.le_of_eq O0.1.symm) O0.2.1
 obtain ⟨S0, hS0⟩ : ∃ z, z = s₁.setTop (entryFrame m #[(.int p0), (.int p1)] 2) := ⟨_, rfl⟩
 have pre0 : ∀ tg, AT p e below s₁ m 0 #[iv p0, iv p1] [] tg → Steps p.tables e below S0 tg := fun tg kg => by rw [hS0]; exact castTop (ef_9 m p0 p1) kg
 have pre1 : ∀ tg, AT p e below s₁ m 5 #[iv (p0 + (1 : Int32)), iv p1] [(.int p1), (.int (p0 + (1 : Int32)))] tg → Steps p.tables e below S0 tg := fun tg kg => pre0 tg (by
  refine XS.iinc X0.here hx rfl (hb hby d9_0) rfl (l' := #[iv (p0 + (1 : Int32)), iv p1]) rfl ?_
  show AT p e below s₁ m 3 #[iv (p0 + (1 : Int32)), iv p1] [] _
  refine XS.iloadN X0.here hx rfl (hb hby d9_3) rfl ?_
  show AT p e below s₁ m 4 #[iv (p0 + (1 : Int32)), iv p1] [(.int (p0 + (1 : Int32)))] _
  refine XS.iloadN X0.here hx rfl (hb hby d9_4) rfl ?_
  exact kg)
 rcases Decidable.em ((p0 + (1 : Int32)) < p1) with hc2 | hc2
 ·
  obtain ⟨fs, hr, hrun, hended, hW, hsame⟩ := X0.leave (v := some (.int (p0 + (1 : Int32)))) (fun h => by rw [Bd.returns] at h; cases h)
  subst hS0
  refine ⟨_, _, pre1 _ ?_, hrun, hended, _, _, rfl, ?_, ⟨_, rfl⟩, hW, hsame.mono (by decide) (by decide)⟩
  ·
   refine XS.icmpYes X0.here hx rfl (pc0 := 5) (pc' := 10) rfl (hb hby d9_5) rfl (XT.ii_lt_t hc2) (by decide) (by decide) ?_
   show AT p e below s₁ m 10 #[iv (p0 + (1 : Int32)), iv p1] [] _
   refine XS.iloadN X0.here hx rfl (hb hby d9_10) rfl ?_
   show AT p e below s₁ m 11 #[iv (p0 + (1 : Int32)), iv p1] [(.int (p0 + (1 : Int32)))] _
   exact retOut X0 hx (t := .int) (i := .ireturn) Bd.returns rfl (Or.inl ⟨rfl, Or.inl rfl, _, rfl⟩) (hb hby d9_11) hr
  ·
   show Q9 Z p0 p1 h0 n0 _ s₁.heap _
   rw [e0]
   exact ⟨(by rw [f9, if_pos hc2]), N0, rfl⟩
 ·
  obtain ⟨fs, hr, hrun, hended, hW, hsame⟩ := X0.leave (v := some (.int (0 : Int32))) (fun h => by rw [Bd.returns] at h; cases h)
  subst hS0
  refine ⟨_, _, pre1 _ ?_, hrun, hended, _, _, rfl, ?_, ⟨_, rfl⟩, hW, hsame.mono (by decide) (by decide)⟩
  ·
   refine XS.icmpNo X0.here hx rfl (hb hby d9_5) rfl (XT.ii_lt_f hc2) ?_
   show AT p e below s₁ m 8 #[iv (p0 + (1 : Int32)), iv p1] [] _
   refine XS.iconst X0.here hx rfl (hb hby d9_8) ?_
   show AT p e below s₁ m 9 #[iv (p0 + (1 : Int32)), iv p1] [(.int (0 : Int32))] _
   refine XS.istoreN X0.here hx rfl (hb hby d9_9) rfl (l' := #[iv (0 : Int32), iv p1]) rfl ?_
   show AT p e below s₁ m 10 #[iv (0 : Int32), iv p1] [] _
   refine XS.iloadN X0.here hx rfl (hb hby d9_10) rfl ?_
   show AT p e below s₁ m 11 #[iv (0 : Int32), iv p1] [(.int (0 : Int32))] _
   exact retOut X0 hx (t := .int) (i := .ireturn) Bd.returns rfl (Or.inl ⟨rfl, Or.inl rfl, _, rfl⟩) (hb hby d9_11) hr
  ·
   show Q9 Z p0 p1 h0 n0 _ s₁.heap _
   rw [e0]
   exact ⟨(by rw [f9, if_neg hc2]), N0, rfl⟩

theorem d11_0 : decode jdk_21_method_9_code 0 = .ok (.iload_n 0, 1) := by decide +kernel
theorem d11_1 : decode jdk_21_method_9_code 1 = .ok (.iload_n 1, 1) := by decide +kernel
theorem d11_2 : decode jdk_21_method_9_code 2 = .ok (.isub, 1) := by decide +kernel
theorem d11_3 : decode jdk_21_method_9_code 3 = .ok (.dup, 1) := by decide +kernel
theorem d11_4 : decode jdk_21_method_9_code 4 = .ok (.istore_n 0, 1) := by decide +kernel
theorem d11_5 : decode jdk_21_method_9_code 5 = .ok (.ifCond .ge 7, 3) := by decide +kernel
theorem d11_8 : decode jdk_21_method_9_code 8 = .ok (.iload_n 0, 1) := by decide +kernel
theorem d11_9 : decode jdk_21_method_9_code 9 = .ok (.iload_n 2, 1) := by decide +kernel
theorem d11_10 : decode jdk_21_method_9_code 10 = .ok (.iadd, 1) := by decide +kernel
theorem d11_11 : decode jdk_21_method_9_code 11 = .ok (.istore_n 0, 1) := by decide +kernel
theorem d11_12 : decode jdk_21_method_9_code 12 = .ok (.iload_n 0, 1) := by decide +kernel
theorem d11_13 : decode jdk_21_method_9_code 13 = .ok (.ireturn, 1) := by decide +kernel
theorem ef_11 (m : MethodId) (p0 : Int32) (p1 : Int32) (p2 : Int32) : entryFrame m #[(.int p0), (.int p1), (.int p2)] 3 = mkF m 0 #[iv p0, iv p1, iv p2] [] := by first | (simp [entryFrame, mkF, argsToLocals, Value.category]; done) | rfl
def f11 (p0 : Int32) (p1 : Int32) (p2 : Int32) : Int32 := if (p0 - p1) < (0 : Int32) then ((p0 - p1) + p2) else (p0 - p1)
def Q11 (Z : State) (p0 : Int32) (p1 : Int32) (p2 : Int32) (h0 : Heap) (n0 : Nat) (v : Option Value) (h : Heap) (L : List Loc) : Prop := v = some (.int (f11 p0 p1 p2)) ∧ Fr n0 L ∧ h = h0
set_option maxRecDepth 65536 in
set_option maxHeartbeats 40000000 in
theorem rm11 (l : Launch) (Z : State) (ar : Array Value) (hw : ∀ d ∈ tables_1, d.before ar Z = true) (ws : List Jvm.Cond) (p0 : Int32) (p1 : Int32) (p2 : Int32) (h0 : Heap) (n0 : Nat) (O0 : Old Z n0 h0) :
    MetFree l y11 (head1 (Jvm.Cond.code y11 jdk_21_method_9_code 3 (some .int) :: ws) ({ frames := 0, cells := 0, slots := 0, locals := 0 } : Room)) (fun a U => a = #[(.int p0), (.int p1), (.int p2)] ∧ Z.Warmed39 U.vm ∧ U.heap = h0) (fun _ _ _ _ _ => True) (fun _ U o U' => ∃ v L, o = .returned v ∧ Q11 Z p0 p1 p2 h0 n0 v U'.heap L ∧ FrameEnd U o U' L ({ frames := 0, cells := 0, slots := 0, locals := 0 } : Room).cells ({ frames := 0, cells := 0, slots := 0, locals := 0 } : Room).slots) := by
 refine MetFree.of_bodySF (plainFor_of_name pn_1) hisR ?_
 intro p e s m args below meth c s₁ Bd hml0 hP hK
 obtain ⟨rfl, hZ, hh⟩ := hP
 have hx := Bd.exec
 have hby := Bd.bytes
 have hml : c.maxLocals = 3 := hml0
 have hown : s.vm.findClass "java/util/ArrayDeque" = some m.cls := findClass_of_methodNamed Bd.named
 have hnm := (name_of_methodNamed Bd.named Bd.method).1
 have X0 : Stand p l e ({ frames := 0, cells := 0, slots := 0, locals := 0 } : Room) s m #[(.int p0), (.int p1), (.int p2)] below meth c s₁ [] 0 0 := Stand.of_body Bd
 have e0 : s₁.heap = h0 := by rw [← hh, Bd.state]; rfl
 have N0 := Fr.nil n0
 have Z0 : n0 ≤ h0.size := Nat.le_trans (Nat.le_of_eq O0.1.symm) O0.2.1
 obtain ⟨S0, hS0⟩ : ∃ z, z = s₁.setTop (entryFrame m #[(.int p0), (.int p1), (.int p2)] 3) := ⟨_, rfl⟩
 have pre0 : ∀ tg, AT p e below s₁ m 0 #[iv p0, iv p1, iv p2] [] tg → Steps p.tables e below S0 tg := fun tg kg => by rw [hS0]; exact castTop (ef_11 m p0 p1 p2) kg
 have pre1 : ∀ tg, AT p e below s₁ m 5 #[iv (p0 - p1), iv p1, iv p2] [(.int (p0 - p1))] tg → Steps p.tables e below S0 tg := fun tg kg => pre0 tg (by
  refine XS.iloadN X0.here hx rfl (hb hby d11_0) rfl ?_
  show AT p e below s₁ m 1 #[iv p0, iv p1, iv p2] [(.int p0)] _
  refine XS.iloadN X0.here hx rfl (hb hby d11_1) rfl ?_
  show AT p e below s₁ m 2 #[iv p0, iv p1, iv p2] [(.int p1), (.int p0)] _
  refine XS.isub X0.here hx rfl (hb hby d11_2) rfl ?_
  show AT p e below s₁ m 3 #[iv p0, iv p1, iv p2] [(.int (p0 - p1))] _
  refine XS.dup X0.here hx rfl (hb hby d11_3) rfl rfl ?_
  show AT p e below s₁ m 4 #[iv p0, iv p1, iv p2] [(.int (p0 - p1)), (.int (p0 - p1))] _
  refine XS.istoreN X0.here hx rfl (hb hby d11_4) rfl (l' := #[iv (p0 - p1), iv p1, iv p2]) rfl ?_
  exact kg)
 rcases Decidable.em ((p0 - p1) < (0 : Int32)) with hc2 | hc2
 ·
  obtain ⟨fs, hr, hrun, hended, hW, hsame⟩ := X0.leave (v := some (.int ((p0 - p1) + p2))) (fun h => by rw [Bd.returns] at h; cases h)
  subst hS0
  refine ⟨_, _, pre1 _ ?_, hrun, hended, _, _, rfl, ?_, ⟨_, rfl⟩, hW, hsame.mono (by decide) (by decide)⟩
  ·
   refine XS.ifNo X0.here hx rfl (hb hby d11_5) rfl (XT.i0_ge_f hc2) ?_
   show AT p e below s₁ m 8 #[iv (p0 - p1), iv p1, iv p2] [] _
   refine XS.iloadN X0.here hx rfl (hb hby d11_8) rfl ?_
   show AT p e below s₁ m 9 #[iv (p0 - p1), iv p1, iv p2] [(.int (p0 - p1))] _
   refine XS.iloadN X0.here hx rfl (hb hby d11_9) rfl ?_
   show AT p e below s₁ m 10 #[iv (p0 - p1), iv p1, iv p2] [(.int p2), (.int (p0 - p1))] _
   refine XS.iadd X0.here hx rfl (hb hby d11_10) rfl ?_
   show AT p e below s₁ m 11 #[iv (p0 - p1), iv p1, iv p2] [(.int ((p0 - p1) + p2))] _
   refine XS.istoreN X0.here hx rfl (hb hby d11_11) rfl (l' := #[iv ((p0 - p1) + p2), iv p1, iv p2]) rfl ?_
   show AT p e below s₁ m 12 #[iv ((p0 - p1) + p2), iv p1, iv p2] [] _
   refine XS.iloadN X0.here hx rfl (hb hby d11_12) rfl ?_
   show AT p e below s₁ m 13 #[iv ((p0 - p1) + p2), iv p1, iv p2] [(.int ((p0 - p1) + p2))] _
   exact retOut X0 hx (t := .int) (i := .ireturn) Bd.returns rfl (Or.inl ⟨rfl, Or.inl rfl, _, rfl⟩) (hb hby d11_13) hr
  ·
   show Q11 Z p0 p1 p2 h0 n0 _ s₁.heap _
   rw [e0]
   exact ⟨(by rw [f11, if_pos hc2]), N0, rfl⟩
 ·
  obtain ⟨fs, hr, hrun, hended, hW, hsame⟩ := X0.leave (v := some (.int (p0 - p1))) (fun h => by rw [Bd.returns] at h; cases h)
  subst hS0
  refine ⟨_, _, pre1 _ ?_, hrun, hended, _, _, rfl, ?_, ⟨_, rfl⟩, hW, hsame.mono (by decide) (by decide)⟩
  ·
   refine XS.ifYes X0.here hx rfl (pc0 := 5) (pc' := 12) rfl (hb hby d11_5) rfl (XT.i0_ge_t hc2) (by decide) (by decide) ?_
   show AT p e below s₁ m 12 #[iv (p0 - p1), iv p1, iv p2] [] _
   refine XS.iloadN X0.here hx rfl (hb hby d11_12) rfl ?_
   show AT p e below s₁ m 13 #[iv (p0 - p1), iv p1, iv p2] [(.int (p0 - p1))] _
   exact retOut X0 hx (t := .int) (i := .ireturn) Bd.returns rfl (Or.inl ⟨rfl, Or.inl rfl, _, rfl⟩) (hb hby d11_13) hr
  ·
   show Q11 Z p0 p1 p2 h0 n0 _ s₁.heap _
   rw [e0]
   exact ⟨(by rw [f11, if_neg hc2]), N0, rfl⟩

theorem d6_0 : decode jdk_21_method_38_code 0 = .ok (.aload_n 0, 1) := by decide +kernel
theorem d6_1 : decode jdk_21_method_38_code 1 = .ok (.getfield 24, 3) := by decide +kernel
theorem d6_4 : decode jdk_21_method_38_code 4 = .ok (.aload_n 0, 1) := by decide +kernel
theorem d6_5 : decode jdk_21_method_38_code 5 = .ok (.getfield 20, 3) := by decide +kernel
theorem d6_8 : decode jdk_21_method_38_code 8 = .ok (.if_icmp .ne 7, 3) := by decide +kernel
theorem d6_11 : decode jdk_21_method_38_code 11 = .ok (.iconst 1, 1) := by decide +kernel
theorem d6_12 : decode jdk_21_method_38_code 12 = .ok (.goto 4, 3) := by decide +kernel
theorem d6_16 : decode jdk_21_method_38_code 16 = .ok (.ireturn, 1) := by decide +kernel
theorem ef_6_0 (m : MethodId) (a0 : Addr) : entryFrame m #[(.ref a0)] 1 = mkF m 0 #[rv a0] [] := by first | (simp [entryFrame, mkF, argsToLocals, Value.category]; done) | rfl
def Q6_0 (Z : State) (a0 : Addr) (h0 : Heap) (n0 : Nat) (v : Option Value) (h : Heap) (L : List Loc) : Prop := v = some (.int (1 : Int32)) ∧ Fr n0 L ∧ h = h0
set_option maxRecDepth 65536 in
set_option maxHeartbeats 40000000 in
theorem rm6_0 (l : Launch) (Z : State) (ar : Array Value) (hw : ∀ d ∈ tables_1, d.before ar Z = true) (ws : List Jvm.Cond) (a0 : Addr) (h0 : Heap) (n0 : Nat) (O0 : Old Z n0 h0) (pf0 : Fld Z h0 a0 "java/util/ArrayDeque" "head" "I" (.int (0 : Int32))) (pf1 : Fld Z h0 a0 "java/util/ArrayDeque" "tail" "I" (.int (0 : Int32))) :
    MetFree l y6 (head1 (Jvm.Cond.code y6 jdk_21_method_38_code 1 (some .boolean) :: ws) ({ frames := 0, cells := 0, slots := 0, locals := 0 } : Room)) (fun a U => a = #[(.ref a0)] ∧ Z.Warmed39 U.vm ∧ U.heap = h0) (fun _ _ _ _ _ => True) (fun _ U o U' => ∃ v L, o = .returned v ∧ Q6_0 Z a0 h0 n0 v U'.heap L ∧ FrameEnd U o U' L ({ frames := 0, cells := 0, slots := 0, locals := 0 } : Room).cells ({ frames := 0, cells := 0, slots := 0, locals := 0 } : Room).slots) := by
 refine MetFree.of_bodySF (plainFor_of_name pn_1) hisR ?_
 intro p e s m args below meth c s₁ Bd hml0 hP hK
 obtain ⟨rfl, hZ, hh⟩ := hP
 have hx := Bd.exec
 have hby := Bd.bytes
 have hml : c.maxLocals = 1 := hml0
 have hown : s.vm.findClass "java/util/ArrayDeque" = some m.cls := findClass_of_methodNamed Bd.named
 have hnm := (name_of_methodNamed Bd.named Bd.method).1
 have X0 : Stand p l e ({ frames := 0, cells := 0, slots := 0, locals := 0 } : Room) s m #[(.ref a0)] below meth c s₁ [] 0 0 := Stand.of_body Bd
 have e0 : s₁.heap = h0 := by rw [← hh, Bd.state]; rfl
 have N0 := Fr.nil n0
 have Z0 : n0 ≤ h0.size := Nat.le_trans (Nat.le_of_eq O0.1.symm) O0.2.1
 obtain ⟨S0, hS0⟩ : ∃ z, z = s₁.setTop (entryFrame m #[(.ref a0)] 1) := ⟨_, rfl⟩
 have pre0 : ∀ tg, AT p e below s₁ m 0 #[rv a0] [] tg → Steps p.tables e below S0 tg := fun tg kg => by rw [hS0]; exact castTop (ef_6_0 m a0) kg
 obtain ⟨T1, X1, e1, st1⟩ := getF X0 hx hZ hown (host := "") (Or.inl (ow hw 38 rfl)) Via.refl e0 pf0 (g := (mkF m 1 #[rv a0] [(.ref a0)])) rfl rfl (hb hby d6_1)
 obtain ⟨T2, X2, e2, st2⟩ := getF X1 hx hZ hown (host := "") (Or.inl (ow hw 40 rfl)) Via.refl e1 pf1 (g := (mkF m 5 #[rv a0] [(.ref a0), (.int (0 : Int32))])) rfl rfl (hb hby d6_5)
 obtain ⟨fs, hr, hrun, hended, hW, hsame⟩ := X2.leave (v := some (.int (1 : Int32))) (fun h => by rw [Bd.returns] at h; cases h)
 subst hS0
 refine ⟨_, _, pre0 _ ?_, hrun, hended, _, _, rfl, ?_, ⟨_, rfl⟩, hW, hsame.mono (by decide) (by decide)⟩
 ·
  refine XS.aloadN X0.here hx rfl (hb hby d6_0) rfl rfl ?_
  show AT p e below s₁ m 1 #[rv a0] [(.ref a0)] _
  refine st1 _ ?_
  show AT p e below T1 m 4 #[rv a0] [(.int (0 : Int32))] _
  refine XS.aloadN X1.here hx rfl (hb hby d6_4) rfl rfl ?_
  show AT p e below T1 m 5 #[rv a0] [(.ref a0), (.int (0 : Int32))] _
  refine st2 _ ?_
  show AT p e below T2 m 8 #[rv a0] [(.int (0 : Int32)), (.int (0 : Int32))] _
  refine XS.icmpNo X2.here hx rfl (hb hby d6_8) rfl (XT.ii_ne_f ((by decide) : (0 : Int32) = (0 : Int32))) ?_
  show AT p e below T2 m 11 #[rv a0] [] _
  refine XS.iconst X2.here hx rfl (hb hby d6_11) ?_
  show AT p e below T2 m 12 #[rv a0] [(.int (1 : Int32))] _
  refine XS.goto X2.here hx rfl (pc0 := 12) (pc' := 16) rfl (hb hby d6_12) (by decide) (by decide) ?_
  show AT p e below T2 m 16 #[rv a0] [(.int (1 : Int32))] _
  exact retN X2 hx (t := .boolean) Bd.returns (by simp) (hb hby d6_16) hr
 ·
  show Q6_0 Z a0 h0 n0 _ T2.heap _
  rw [e2]
  exact ⟨rfl, N0, rfl⟩

theorem d10_0 : decode jdk_21_method_37_code 0 = .ok (.aload_n 0, 1) := by decide +kernel
theorem d10_1 : decode jdk_21_method_37_code 1 = .ok (.getfield 20, 3) := by decide +kernel
theorem d10_4 : decode jdk_21_method_37_code 4 = .ok (.aload_n 0, 1) := by decide +kernel
theorem d10_5 : decode jdk_21_method_37_code 5 = .ok (.getfield 24, 3) := by decide +kernel
theorem d10_8 : decode jdk_21_method_37_code 8 = .ok (.aload_n 0, 1) := by decide +kernel
theorem d10_9 : decode jdk_21_method_37_code 9 = .ok (.getfield 3, 3) := by decide +kernel
theorem d10_12 : decode jdk_21_method_37_code 12 = .ok (.arraylength, 1) := by decide +kernel
theorem d10_13 : decode jdk_21_method_37_code 13 = .ok (.invokestatic 127, 3) := by decide +kernel
theorem d10_16 : decode jdk_21_method_37_code 16 = .ok (.ireturn, 1) := by decide +kernel
theorem ef_10_0 (m : MethodId) (a0 : Addr) : entryFrame m #[(.ref a0)] 1 = mkF m 0 #[rv a0] [] := by first | (simp [entryFrame, mkF, argsToLocals, Value.category]; done) | rfl
def Q10_0 (Z : State) (a0 : Addr) (es : Addr) (ke : ClassId) (h0 : Heap) (n0 : Nat) (v : Option Value) (h : Heap) (L : List Loc) : Prop := v = some (.int (0 : Int32)) ∧ Fr n0 L ∧ h = h0
set_option maxRecDepth 65536 in
set_option maxHeartbeats 40000000 in
theorem rm10_0 (l : Launch) (Z : State) (ar : Array Value) (hw : ∀ d ∈ tables_1, d.before ar Z = true) (ws : List Jvm.Cond) (a0 : Addr) (es : Addr) (ke : ClassId) (h0 : Heap) (n0 : Nat) (O0 : Old Z n0 h0) (pf0 : Fld Z h0 a0 "java/util/ArrayDeque" "elements" "[Ljava/lang/Object;" (.ref es)) (pf1 : Fld Z h0 a0 "java/util/ArrayDeque" "head" "I" (.int (0 : Int32))) (pf2 : Fld Z h0 a0 "java/util/ArrayDeque" "tail" "I" (.int (0 : Int32))) (pf3 : Arv Z h0 es ke (.object "java/lang/Object") (17 : Int32) [.null, .null] .null) :
    MetFree l y10 (head1 (Jvm.Cond.code y10 jdk_21_method_37_code 1 (some .int) :: ws) ({ frames := 1, cells := 0, slots := 0, locals := 14 } : Room)) (fun a U => a = #[(.ref a0)] ∧ Z.Warmed39 U.vm ∧ U.heap = h0) (fun _ _ _ _ _ => True) (fun _ U o U' => ∃ v L, o = .returned v ∧ Q10_0 Z a0 es ke h0 n0 v U'.heap L ∧ FrameEnd U o U' L ({ frames := 1, cells := 0, slots := 0, locals := 14 } : Room).cells ({ frames := 1, cells := 0, slots := 0, locals := 14 } : Room).slots) := by
 refine MetFree.of_bodySF (plainFor_of_name pn_1) hisR ?_
 intro p e s m args below meth c s₁ Bd hml0 hP hK
 obtain ⟨rfl, hZ, hh⟩ := hP
 have hx := Bd.exec
 have hby := Bd.bytes
 have hml : c.maxLocals = 1 := hml0
 have hown : s.vm.findClass "java/util/ArrayDeque" = some m.cls := findClass_of_methodNamed Bd.named
 have hnm := (name_of_methodNamed Bd.named Bd.method).1
 have X0 : Stand p l e ({ frames := 1, cells := 0, slots := 0, locals := 14 } : Room) s m #[(.ref a0)] below meth c s₁ [] 0 0 := Stand.of_body Bd
 have e0 : s₁.heap = h0 := by rw [← hh, Bd.state]; rfl
 have N0 := Fr.nil n0
 have Z0 : n0 ≤ h0.size := Nat.le_trans (Nat.le_of_eq O0.1.symm) O0.2.1
 obtain ⟨S0, hS0⟩ : ∃ z, z = s₁.setTop (entryFrame m #[(.ref a0)] 1) := ⟨_, rfl⟩
 have pre0 : ∀ tg, AT p e below s₁ m 0 #[rv a0] [] tg → Steps p.tables e below S0 tg := fun tg kg => by rw [hS0]; exact castTop (ef_10_0 m a0) kg
 obtain ⟨T1, X1, e1, st1⟩ := getF X0 hx hZ hown (host := "") (Or.inl (ow hw 40 rfl)) Via.refl e0 pf2 (g := (mkF m 1 #[rv a0] [(.ref a0)])) rfl rfl (hb hby d10_1)
 obtain ⟨T2, X2, e2, st2⟩ := getF X1 hx hZ hown (host := "") (Or.inl (ow hw 38 rfl)) Via.refl e1 pf1 (g := (mkF m 5 #[rv a0] [(.ref a0), (.int (0 : Int32))])) rfl rfl (hb hby d10_5)
 obtain ⟨T3, X3, e3, st3⟩ := getF X2 hx hZ hown (host := "") (Or.inl (ow hw 24 rfl)) Via.refl e2 pf0 (g := (mkF m 9 #[rv a0] [(.ref a0), (.int (0 : Int32)), (.int (0 : Int32))])) rfl rfl (hb hby d10_9)
 obtain ⟨cl4, Ar4, q4, S4, N4, H4, G4⟩ := id pf3
 obtain ⟨_, _, ⟨T5, L5, k5, n5⟩, -, X5, ⟨Lc5, hQ5, l5, y5, z5⟩, st5⟩ := Jvm.LawKit.callS X3 hx (y := y11) hown (mvT hZ (ow hw 62 rfl)) (mvT hZ (ow hw 63 rfl)) (mvT hZ (ow hw 11 rfl)) (mvT hZ (ow hw 64 rfl)) (by decide) (backOf (W := 0) (rm11 l Z ar hw [] (0 : Int32) (0 : Int32) (17 : Int32) h0 n0 O0) hZ (ow hw 64 rfl) (ow hw 11 rfl) (by decide) (by decide)) (g := (mkF m 13 #[rv a0] [(.int (17 : Int32)), (.int (0 : Int32)), (.int (0 : Int32))])) rfl (by rw [hml]; rfl) (argsL := [(.int (0 : Int32)), (.int (0 : Int32)), (.int (17 : Int32))]) (rest := []) (lenOf pd_1 rfl) rfl (by show 2 * 0 + _ ≤ _; exact Nat.le_of_eq rfl) (hb hby d10_13) (fun _ _ => ⟨rfl, e3, (by decide : 0 + 0 ≤ _), (by decide : 0 + 0 ≤ _)⟩)
 dsimp only [Pt.U, Pt.locs, Pt.cells, Pt.slots] at X5 l5 y5 z5 st5 hQ5
 subst l5 y5 z5
 obtain ⟨rfl, N5q, e5⟩ := hQ5
 have N5 := Fr.app N0 N5q
 have r5 : (f11 (0 : Int32) (0 : Int32) (17 : Int32)) = (0 : Int32) := by rw [f11, if_neg ((by decide) : ¬ (((0 : Int32) - (0 : Int32)) < (0 : Int32)))] <;> decide
 rw [r5] at st5
 obtain ⟨fs, hr, hrun, hended, hW, hsame⟩ := X5.leave (v := some (.int (0 : Int32))) (fun h => by rw [Bd.returns] at h; cases h)
 subst hS0
 refine ⟨_, _, pre0 _ ?_, hrun, hended, _, _, rfl, ?_, ⟨_, rfl⟩, hW, hsame.mono (by decide) (by decide)⟩
 ·
  refine XS.aloadN X0.here hx rfl (hb hby d10_0) rfl rfl ?_
  show AT p e below s₁ m 1 #[rv a0] [(.ref a0)] _
  refine st1 _ ?_
  show AT p e below T1 m 4 #[rv a0] [(.int (0 : Int32))] _
  refine XS.aloadN X1.here hx rfl (hb hby d10_4) rfl rfl ?_
  show AT p e below T1 m 5 #[rv a0] [(.ref a0), (.int (0 : Int32))] _
  refine st2 _ ?_
  show AT p e below T2 m 8 #[rv a0] [(.int (0 : Int32)), (.int (0 : Int32))] _
  refine XS.aloadN X2.here hx rfl (hb hby d10_8) rfl rfl ?_
  show AT p e below T2 m 9 #[rv a0] [(.ref a0), (.int (0 : Int32)), (.int (0 : Int32))] _
  refine st3 _ ?_
  show AT p e below T3 m 12 #[rv a0] [(.ref es), (.int (0 : Int32)), (.int (0 : Int32))] _
  refine X3.arraylength hx (by rw [e3]; exact Ar4.1) (State.isArrayOf_alike hZ.alike Ar4.2.1) (g := (mkF m 12 #[rv a0] [(.ref es), (.int (0 : Int32)), (.int (0 : Int32))])) rfl rfl (hb hby d10_12) _ ?_
  rw [len_of S4 N4]
  show AT p e below T3 m 13 #[rv a0] [(.int (17 : Int32)), (.int (0 : Int32)), (.int (0 : Int32))] _
  refine st5 _ ?_
  show AT p e below T5 m 16 #[rv a0] [(.int (0 : Int32))] _
  exact retOut X5 hx (t := .int) (i := .ireturn) Bd.returns rfl (Or.inl ⟨rfl, Or.inl rfl, _, rfl⟩) (hb hby d10_16) hr
 ·
  show Q10_0 Z a0 es ke h0 n0 _ T5.heap _
  rw [e5]
  exact ⟨rfl, N5, rfl⟩

theorem d8_0 : decode jdk_21_method_13_code 0 = .ok (.aload_n 1, 1) := by decide +kernel
theorem d8_1 : decode jdk_21_method_13_code 1 = .ok (.ifnonnull 11, 3) := by decide +kernel
theorem d8_12 : decode jdk_21_method_13_code 12 = .ok (.aload_n 0, 1) := by decide +kernel
theorem d8_13 : decode jdk_21_method_13_code 13 = .ok (.getfield 3, 3) := by decide +kernel
theorem d8_16 : decode jdk_21_method_13_code 16 = .ok (.astore_n 2, 1) := by decide +kernel
theorem d8_17 : decode jdk_21_method_13_code 17 = .ok (.aload_n 2, 1) := by decide +kernel
theorem d8_18 : decode jdk_21_method_13_code 18 = .ok (.aload_n 0, 1) := by decide +kernel
theorem d8_19 : decode jdk_21_method_13_code 19 = .ok (.getfield 20, 3) := by decide +kernel
theorem d8_22 : decode jdk_21_method_13_code 22 = .ok (.aload_n 1, 1) := by decide +kernel
theorem d8_23 : decode jdk_21_method_13_code 23 = .ok (.aastore, 1) := by decide +kernel
theorem d8_24 : decode jdk_21_method_13_code 24 = .ok (.aload_n 0, 1) := by decide +kernel
theorem d8_25 : decode jdk_21_method_13_code 25 = .ok (.getfield 24, 3) := by decide +kernel
theorem d8_28 : decode jdk_21_method_13_code 28 = .ok (.aload_n 0, 1) := by decide +kernel
theorem d8_29 : decode jdk_21_method_13_code 29 = .ok (.aload_n 0, 1) := by decide +kernel
theorem d8_30 : decode jdk_21_method_13_code 30 = .ok (.getfield 20, 3) := by decide +kernel
theorem d8_33 : decode jdk_21_method_13_code 33 = .ok (.aload_n 2, 1) := by decide +kernel
theorem d8_34 : decode jdk_21_method_13_code 34 = .ok (.arraylength, 1) := by decide +kernel
theorem d8_35 : decode jdk_21_method_13_code 35 = .ok (.invokestatic 74, 3) := by decide +kernel
theorem d8_38 : decode jdk_21_method_13_code 38 = .ok (.dup_x1, 1) := by decide +kernel
theorem d8_39 : decode jdk_21_method_13_code 39 = .ok (.putfield 20, 3) := by decide +kernel
theorem d8_42 : decode jdk_21_method_13_code 42 = .ok (.if_icmp .ne 8, 3) := by decide +kernel
theorem d8_50 : decode jdk_21_method_13_code 50 = .ok (.return_, 1) := by decide +kernel
theorem ef_8_0 (m : MethodId) (a0 : Addr) (a1 : Addr) : entryFrame m #[(.ref a0), (.ref a1)] 3 = mkF m 0 #[rv a0, rv a1, un] [] := by first | (simp [entryFrame, mkF, argsToLocals, Value.category]; done) | rfl
def Q8_0 (Z : State) (a0 : Addr) (a1 : Addr) (es : Addr) (ke : ClassId) (h0 : Heap) (n0 : Nat) (v : Option Value) (h : Heap) (L : List Loc) : Prop := v = none ∧ Fr n0 L ∧ Keep h0 h [a0, es] ∧ Exa Z h a0 "java/util/ArrayDeque" ∧ Fld Z h a0 "java/util/ArrayDeque" "elements" "[Ljava/lang/Object;" (.ref es) ∧ Fld Z h a0 "java/util/ArrayDeque" "head" "I" (.int (0 : Int32)) ∧ Fld Z h a0 "java/util/ArrayDeque" "tail" "I" (.int (1 : Int32)) ∧ Arv Z h es ke (.object "java/lang/Object") (17 : Int32) [(.ref a1), .null] .null
set_option maxRecDepth 65536 in
set_option maxHeartbeats 40000000 in
theorem rm8_0 (l : Launch) (Z : State) (ar : Array Value) (hw : ∀ d ∈ tables_1, d.before ar Z = true) (ws : List Jvm.Cond) (a0 : Addr) (a1 : Addr) (es : Addr) (ke : ClassId) (h0 : Heap) (n0 : Nat) (O0 : Old Z n0 h0) (pf0 : Exa Z h0 a0 "java/util/ArrayDeque") (pf1 : Fld Z h0 a0 "java/util/ArrayDeque" "elements" "[Ljava/lang/Object;" (.ref es)) (pf2 : Fld Z h0 a0 "java/util/ArrayDeque" "head" "I" (.int (0 : Int32))) (pf3 : Fld Z h0 a0 "java/util/ArrayDeque" "tail" "I" (.int (0 : Int32))) (pf4 : Arv Z h0 es ke (.object "java/lang/Object") (17 : Int32) [.null, .null] .null) (pf5 : Ovr Z ke "java/lang/Object") (pf6 : Exa Z h0 a1 "[J") (pf7 : n0 ≤ a0) (pf8 : n0 ≤ es) (pf9 : a0 ≠ es) (pf10 : a0 ≠ a1) (pf11 : es ≠ a1) :
    MetFree l y8 (head1 (Jvm.Cond.code y8 jdk_21_method_13_code 3 none :: ws) ({ frames := 1, cells := 0, slots := 0, locals := 15 } : Room)) (fun a U => a = #[(.ref a0), (.ref a1)] ∧ Z.Warmed39 U.vm ∧ U.heap = h0) (fun _ _ _ _ _ => True) (fun _ U o U' => ∃ v L, o = .returned v ∧ Q8_0 Z a0 a1 es ke h0 n0 v U'.heap L ∧ FrameEnd U o U' L ({ frames := 1, cells := 0, slots := 0, locals := 15 } : Room).cells ({ frames := 1, cells := 0, slots := 0, locals := 15 } : Room).slots) := by
 refine MetFree.of_bodySF (plainFor_of_name pn_1) hisR ?_
 intro p e s m args below meth c s₁ Bd hml0 hP hK
 obtain ⟨rfl, hZ, hh⟩ := hP
 have hx := Bd.exec
 have hby := Bd.bytes
 have hml : c.maxLocals = 3 := hml0
 have hown : s.vm.findClass "java/util/ArrayDeque" = some m.cls := findClass_of_methodNamed Bd.named
 have hnm := (name_of_methodNamed Bd.named Bd.method).1
 have X0 : Stand p l e ({ frames := 1, cells := 0, slots := 0, locals := 15 } : Room) s m #[(.ref a0), (.ref a1)] below meth c s₁ [] 0 0 := Stand.of_body Bd
 have e0 : s₁.heap = h0 := by rw [← hh, Bd.state]; rfl
 have N0 := Fr.nil n0
 have Z0 : n0 ≤ h0.size := Nat.le_trans (Nat.le_of_eq O0.1.symm) O0.2.1
 obtain ⟨S0, hS0⟩ : ∃ z, z = s₁.setTop (entryFrame m #[(.ref a0), (.ref a1)] 3) := ⟨_, rfl⟩
 have pre0 : ∀ tg, AT p e below s₁ m 0 #[rv a0, rv a1, un] [] tg → Steps p.tables e below S0 tg := fun tg kg => by rw [hS0]; exact castTop (ef_8_0 m a0 a1) kg
 obtain ⟨T1, X1, e1, st1⟩ := getF X0 hx hZ hown (host := "") (Or.inl (ow hw 24 rfl)) Via.refl e0 pf1 (g := (mkF m 13 #[rv a0, rv a1, un] [(.ref a0)])) rfl rfl (hb hby d8_13)
 obtain ⟨T2, X2, e2, st2⟩ := getF X1 hx hZ hown (host := "") (Or.inl (ow hw 40 rfl)) Via.refl e1 pf3 (g := (mkF m 19 #[rv a0, rv a1, rv es] [(.ref a0), (.ref es)])) rfl rfl (hb hby d8_19)
 obtain ⟨cl3, Ar3, q3, S3, M3, H3, G3⟩ := id pf4
 have hin3 := own_in (0 : Int32) S3 ⟨by decide, by decide⟩
 obtain ⟨T3, h3, X3, e3, W3, st3⟩ := stR X2 hx hZ e2 Ar3 (j := (0 : Int32)) hin3 rfl (Sto.ofV Ar3 q3 pf5 (Ins.of_exa pf6 (ow hw 53 rfl))) (g := (mkF m 23 #[rv a0, rv a1, rv es] [(.ref a1), (.int (0 : Int32)), (.ref es)])) rfl rfl (hb hby d8_23)
 have V3_4 : Arv Z h3 es ke (.object "java/lang/Object") (17 : Int32) [(.ref a1), .null] .null := Arv.set Ar3 q3 S3 M3 H3 G3 rfl W3 0 rfl (Nat.le_of_ble_eq_true rfl)
 have E3_5 := pf0.wr W3
 have F3_6 := pf1.other W3 (Or.inl pf9)
 have F3_7 := pf2.other W3 (Or.inl pf9)
 have F3_8 := pf3.other W3 (Or.inl pf9)
 have E3_9 := pf6.wr W3
 have K3 := (Keep.refl h0 [a0, es]).wr W3 (Or.inl (List.mem_of_getElem? (i := 1) rfl))
 have O3 := O0.wr W3 pf8
 have N3 := Fr.snoc X3 N0 pf8
 obtain ⟨T10, X10, e10, st10⟩ := getF X3 hx hZ hown (host := "") (Or.inl (ow hw 38 rfl)) Via.refl e3 F3_7 (g := (mkF m 25 #[rv a0, rv a1, rv es] [(.ref a0)])) rfl rfl (hb hby d8_25)
 obtain ⟨T11, X11, e11, st11⟩ := getF X10 hx hZ hown (host := "") (Or.inl (ow hw 40 rfl)) Via.refl e10 F3_8 (g := (mkF m 30 #[rv a0, rv a1, rv es] [(.ref a0), (.ref a0), (.int (0 : Int32))])) rfl rfl (hb hby d8_30)
 obtain ⟨cl12, Ar12, q12, S12, N12, H12, G12⟩ := id V3_4
 obtain ⟨_, _, ⟨T13, L13, k13, n13⟩, -, X13, ⟨Lc13, hQ13, l13, y13, z13⟩, st13⟩ := Jvm.LawKit.callS X11 hx (y := y9) hown (mvT hZ (ow hw 54 rfl)) (mvT hZ (ow hw 55 rfl)) (mvT hZ (ow hw 11 rfl)) (mvT hZ (ow hw 56 rfl)) (by decide) (backOf (W := 2) (rm9 l Z ar hw [] (0 : Int32) (17 : Int32) h3 n0 O3) hZ (ow hw 56 rfl) (ow hw 11 rfl) (by decide) (by decide)) (g := (mkF m 35 #[rv a0, rv a1, rv es] [(.int (17 : Int32)), (.int (0 : Int32)), (.ref a0), (.int (0 : Int32))])) rfl (by rw [hml]; rfl) (argsL := [(.int (0 : Int32)), (.int (17 : Int32))]) (rest := [(.ref a0), (.int (0 : Int32))]) (lenOf pd_2 rfl) rfl (by show 2 * 0 + _ ≤ _; exact Nat.le_of_eq rfl) (hb hby d8_35) (fun _ _ => ⟨rfl, e11, (by decide : 0 + 0 ≤ _), (by decide : 0 + 0 ≤ _)⟩)
 dsimp only [Pt.U, Pt.locs, Pt.cells, Pt.slots] at X13 l13 y13 z13 st13 hQ13
 subst l13 y13 z13
 obtain ⟨rfl, N13q, e13⟩ := hQ13
 have N13 := Fr.app N3 N13q
 have r13 : (f9 (0 : Int32) (17 : Int32)) = (1 : Int32) := by rw [f9, if_pos ((by decide) : ((0 : Int32) + (1 : Int32)) < (17 : Int32))] <;> decide
 rw [r13] at st13
 obtain ⟨T14, h14, X14, e14, W14, st14⟩ := putF X13 hx hZ hown (host := "") (Or.inl (ow hw 40 rfl)) Via.refl e13 F3_8 E3_5 (Or.inl (ow hw 41 rfl)) (ow hw 10 rfl) (ty := .int) (by decide) rfl rfl (g := (mkF m 39 #[rv a0, rv a1, rv es] [(.int (1 : Int32)), (.ref a0), (.int (1 : Int32)), (.int (0 : Int32))])) rfl rfl (hb hby d8_39)
 have E14_15 := E3_5.wr W14
 have F14_16 := F3_6.other W14 (Or.inr (slot_ne (Or.inl (ow hw 25 rfl)) (Or.inl (ow hw 41 rfl)) (by decide) (t := (.array (.object "java/lang/Object"))) (t' := .int) (by decide) (by decide)))
 have F14_17 := F3_7.other W14 (Or.inr (slot_ne (Or.inl (ow hw 39 rfl)) (Or.inl (ow hw 41 rfl)) (by decide) (t := .int) (t' := .int) (by decide) (by decide)))
 have F14_18 : Fld Z h14 a0 "java/util/ArrayDeque" "tail" "I" (.int (1 : Int32)) := F3_8.same W14
 have V14_19 := V3_4.other W14 (Ne.symm pf9)
 have E14_20 := E3_9.wr W14
 have K14 := K3.wr W14 (Or.inl (List.mem_of_getElem? (i := 0) rfl))
 have O14 := O3.wr W14 pf7
 have N14 := Fr.snoc X14 N13 pf7
 obtain ⟨fs, hr, hrun, hended, hW, hsame⟩ := X14.leave (v := none) (fun _ => rfl)
 subst hS0
 refine ⟨_, _, pre0 _ ?_, hrun, hended, _, _, rfl, ?_, ⟨_, rfl⟩, hW, hsame.mono (by decide) (by decide)⟩
 ·
  refine XS.aloadN X0.here hx rfl (hb hby d8_0) rfl rfl ?_
  show AT p e below s₁ m 1 #[rv a0, rv a1, un] [(.ref a1)] _
  refine XS.ifnonnullYes X0.here hx rfl (pc0 := 1) (pc' := 12) rfl (hb hby d8_1) rfl (by decide) (by decide) ?_
  show AT p e below s₁ m 12 #[rv a0, rv a1, un] [] _
  refine XS.aloadN X0.here hx rfl (hb hby d8_12) rfl rfl ?_
  show AT p e below s₁ m 13 #[rv a0, rv a1, un] [(.ref a0)] _
  refine st1 _ ?_
  show AT p e below T1 m 16 #[rv a0, rv a1, un] [(.ref es)] _
  refine XS.astoreN X1.here hx rfl (hb hby d8_16) rfl rfl (l' := #[rv a0, rv a1, rv es]) rfl ?_
  show AT p e below T1 m 17 #[rv a0, rv a1, rv es] [] _
  refine XS.aloadN X1.here hx rfl (hb hby d8_17) rfl rfl ?_
  show AT p e below T1 m 18 #[rv a0, rv a1, rv es] [(.ref es)] _
  refine XS.aloadN X1.here hx rfl (hb hby d8_18) rfl rfl ?_
  show AT p e below T1 m 19 #[rv a0, rv a1, rv es] [(.ref a0), (.ref es)] _
  refine st2 _ ?_
  show AT p e below T2 m 22 #[rv a0, rv a1, rv es] [(.int (0 : Int32)), (.ref es)] _
  refine XS.aloadN X2.here hx rfl (hb hby d8_22) rfl rfl ?_
  show AT p e below T2 m 23 #[rv a0, rv a1, rv es] [(.ref a1), (.int (0 : Int32)), (.ref es)] _
  refine st3 _ ?_
  show AT p e below T3 m 24 #[rv a0, rv a1, rv es] [] _
  refine XS.aloadN X3.here hx rfl (hb hby d8_24) rfl rfl ?_
  show AT p e below T3 m 25 #[rv a0, rv a1, rv es] [(.ref a0)] _
  refine st10 _ ?_
  show AT p e below T10 m 28 #[rv a0, rv a1, rv es] [(.int (0 : Int32))] _
  refine XS.aloadN X10.here hx rfl (hb hby d8_28) rfl rfl ?_
  show AT p e below T10 m 29 #[rv a0, rv a1, rv es] [(.ref a0), (.int (0 : Int32))] _
  refine XS.aloadN X10.here hx rfl (hb hby d8_29) rfl rfl ?_
  show AT p e below T10 m 30 #[rv a0, rv a1, rv es] [(.ref a0), (.ref a0), (.int (0 : Int32))] _
  refine st11 _ ?_
  show AT p e below T11 m 33 #[rv a0, rv a1, rv es] [(.int (0 : Int32)), (.ref a0), (.int (0 : Int32))] _
  refine XS.aloadN X11.here hx rfl (hb hby d8_33) rfl rfl ?_
  show AT p e below T11 m 34 #[rv a0, rv a1, rv es] [(.ref es), (.int (0 : Int32)), (.ref a0), (.int (0 : Int32))] _
  refine X11.arraylength hx (by rw [e11]; exact Ar12.1) (State.isArrayOf_alike hZ.alike Ar12.2.1) (g := (mkF m 34 #[rv a0, rv a1, rv es] [(.ref es), (.int (0 : Int32)), (.ref a0), (.int (0 : Int32))])) rfl rfl (hb hby d8_34) _ ?_
  rw [len_of S12 N12]
  show AT p e below T11 m 35 #[rv a0, rv a1, rv es] [(.int (17 : Int32)), (.int (0 : Int32)), (.ref a0), (.int (0 : Int32))] _
  refine st13 _ ?_
  show AT p e below T13 m 38 #[rv a0, rv a1, rv es] [(.int (1 : Int32)), (.ref a0), (.int (0 : Int32))] _
  refine XS.dupX1 X13.here hx rfl (hb hby d8_38) rfl rfl rfl ?_
  show AT p e below T13 m 39 #[rv a0, rv a1, rv es] [(.int (1 : Int32)), (.ref a0), (.int (1 : Int32)), (.int (0 : Int32))] _
  refine st14 _ ?_
  show AT p e below T14 m 42 #[rv a0, rv a1, rv es] [(.int (1 : Int32)), (.int (0 : Int32))] _
  refine XS.icmpYes X14.here hx rfl (pc0 := 42) (pc' := 50) rfl (hb hby d8_42) rfl (XT.ii_ne_t ((by decide) : ¬ ((0 : Int32) = (1 : Int32)))) (by decide) (by decide) ?_
  show AT p e below T14 m 50 #[rv a0, rv a1, rv es] [] _
  exact X14.returnOut hx Bd.returns (hb hby d8_50) hr
 ·
  show Q8_0 Z a0 a1 es ke h0 n0 _ T14.heap _
  rw [e14]
  exact ⟨rfl, N14, K14, E14_15, F14_16, F14_17, F14_18, V14_19⟩

theorem d6_15 : decode jdk_21_method_38_code 15 = .ok (.iconst 0, 1) := by decide +kernel
theorem ef_6_1 (m : MethodId) (a0 : Addr) : entryFrame m #[(.ref a0)] 1 = mkF m 0 #[rv a0] [] := by first | (simp [entryFrame, mkF, argsToLocals, Value.category]; done) | rfl
def Q6_1 (Z : State) (a0 : Addr) (h0 : Heap) (n0 : Nat) (v : Option Value) (h : Heap) (L : List Loc) : Prop := v = some (.int (0 : Int32)) ∧ Fr n0 L ∧ h = h0
set_option maxRecDepth 65536 in
set_option maxHeartbeats 40000000 in
theorem rm6_1 (l : Launch) (Z : State) (ar : Array Value) (hw : ∀ d ∈ tables_1, d.before ar Z = true) (ws : List Jvm.Cond) (a0 : Addr) (h0 : Heap) (n0 : Nat) (O0 : Old Z n0 h0) (pf0 : Fld Z h0 a0 "java/util/ArrayDeque" "head" "I" (.int (0 : Int32))) (pf1 : Fld Z h0 a0 "java/util/ArrayDeque" "tail" "I" (.int (1 : Int32))) :
    MetFree l y6 (head1 (Jvm.Cond.code y6 jdk_21_method_38_code 1 (some .boolean) :: ws) ({ frames := 0, cells := 0, slots := 0, locals := 0 } : Room)) (fun a U => a = #[(.ref a0)] ∧ Z.Warmed39 U.vm ∧ U.heap = h0) (fun _ _ _ _ _ => True) (fun _ U o U' => ∃ v L, o = .returned v ∧ Q6_1 Z a0 h0 n0 v U'.heap L ∧ FrameEnd U o U' L ({ frames := 0, cells := 0, slots := 0, locals := 0 } : Room).cells ({ frames := 0, cells := 0, slots := 0, locals := 0 } : Room).slots) := by
 refine MetFree.of_bodySF (plainFor_of_name pn_1) hisR ?_
 intro p e s m args below meth c s₁ Bd hml0 hP hK
 obtain ⟨rfl, hZ, hh⟩ := hP
 have hx := Bd.exec
 have hby := Bd.bytes
 have hml : c.maxLocals = 1 := hml0
 have hown : s.vm.findClass "java/util/ArrayDeque" = some m.cls := findClass_of_methodNamed Bd.named
 have hnm := (name_of_methodNamed Bd.named Bd.method).1
 have X0 : Stand p l e ({ frames := 0, cells := 0, slots := 0, locals := 0 } : Room) s m #[(.ref a0)] below meth c s₁ [] 0 0 := Stand.of_body Bd
 have e0 : s₁.heap = h0 := by rw [← hh, Bd.state]; rfl
 have N0 := Fr.nil n0
 have Z0 : n0 ≤ h0.size := Nat.le_trans (Nat.le_of_eq O0.1.symm) O0.2.1
 obtain ⟨S0, hS0⟩ : ∃ z, z = s₁.setTop (entryFrame m #[(.ref a0)] 1) := ⟨_, rfl⟩
 have pre0 : ∀ tg, AT p e below s₁ m 0 #[rv a0] [] tg → Steps p.tables e below S0 tg := fun tg kg => by rw [hS0]; exact castTop (ef_6_1 m a0) kg
 obtain ⟨T1, X1, e1, st1⟩ := getF X0 hx hZ hown (host := "") (Or.inl (ow hw 38 rfl)) Via.refl e0 pf0 (g := (mkF m 1 #[rv a0] [(.ref a0)])) rfl rfl (hb hby d6_1)
 obtain ⟨T2, X2, e2, st2⟩ := getF X1 hx hZ hown (host := "") (Or.inl (ow hw 40 rfl)) Via.refl e1 pf1 (g := (mkF m 5 #[rv a0] [(.ref a0), (.int (0 : Int32))])) rfl rfl (hb hby d6_5)
 obtain ⟨fs, hr, hrun, hended, hW, hsame⟩ := X2.leave (v := some (.int (0 : Int32))) (fun h => by rw [Bd.returns] at h; cases h)
 subst hS0
 refine ⟨_, _, pre0 _ ?_, hrun, hended, _, _, rfl, ?_, ⟨_, rfl⟩, hW, hsame.mono (by decide) (by decide)⟩
 ·
  refine XS.aloadN X0.here hx rfl (hb hby d6_0) rfl rfl ?_
  show AT p e below s₁ m 1 #[rv a0] [(.ref a0)] _
  refine st1 _ ?_
  show AT p e below T1 m 4 #[rv a0] [(.int (0 : Int32))] _
  refine XS.aloadN X1.here hx rfl (hb hby d6_4) rfl rfl ?_
  show AT p e below T1 m 5 #[rv a0] [(.ref a0), (.int (0 : Int32))] _
  refine st2 _ ?_
  show AT p e below T2 m 8 #[rv a0] [(.int (1 : Int32)), (.int (0 : Int32))] _
  refine XS.icmpYes X2.here hx rfl (pc0 := 8) (pc' := 15) rfl (hb hby d6_8) rfl (XT.ii_ne_t ((by decide) : ¬ ((0 : Int32) = (1 : Int32)))) (by decide) (by decide) ?_
  show AT p e below T2 m 15 #[rv a0] [] _
  refine XS.iconst X2.here hx rfl (hb hby d6_15) ?_
  show AT p e below T2 m 16 #[rv a0] [(.int (0 : Int32))] _
  exact retN X2 hx (t := .boolean) Bd.returns (by simp) (hb hby d6_16) hr
 ·
  show Q6_1 Z a0 h0 n0 _ T2.heap _
  rw [e2]
  exact ⟨rfl, N0, rfl⟩

theorem ef_10_1 (m : MethodId) (a0 : Addr) : entryFrame m #[(.ref a0)] 1 = mkF m 0 #[rv a0] [] := by first | (simp [entryFrame, mkF, argsToLocals, Value.category]; done) | rfl
def Q10_1 (Z : State) (a0 : Addr) (es : Addr) (ke : ClassId) (i0 : Addr) (h0 : Heap) (n0 : Nat) (v : Option Value) (h : Heap) (L : List Loc) : Prop := v = some (.int (1 : Int32)) ∧ Fr n0 L ∧ h = h0
set_option maxRecDepth 65536 in
set_option maxHeartbeats 40000000 in
theorem rm10_1 (l : Launch) (Z : State) (ar : Array Value) (hw : ∀ d ∈ tables_1, d.before ar Z = true) (ws : List Jvm.Cond) (a0 : Addr) (es : Addr) (ke : ClassId) (i0 : Addr) (h0 : Heap) (n0 : Nat) (O0 : Old Z n0 h0) (pf0 : Fld Z h0 a0 "java/util/ArrayDeque" "elements" "[Ljava/lang/Object;" (.ref es)) (pf1 : Fld Z h0 a0 "java/util/ArrayDeque" "head" "I" (.int (0 : Int32))) (pf2 : Fld Z h0 a0 "java/util/ArrayDeque" "tail" "I" (.int (1 : Int32))) (pf3 : Arv Z h0 es ke (.object "java/lang/Object") (17 : Int32) [(.ref i0), .null] .null) :
    MetFree l y10 (head1 (Jvm.Cond.code y10 jdk_21_method_37_code 1 (some .int) :: ws) ({ frames := 1, cells := 0, slots := 0, locals := 14 } : Room)) (fun a U => a = #[(.ref a0)] ∧ Z.Warmed39 U.vm ∧ U.heap = h0) (fun _ _ _ _ _ => True) (fun _ U o U' => ∃ v L, o = .returned v ∧ Q10_1 Z a0 es ke i0 h0 n0 v U'.heap L ∧ FrameEnd U o U' L ({ frames := 1, cells := 0, slots := 0, locals := 14 } : Room).cells ({ frames := 1, cells := 0, slots := 0, locals := 14 } : Room).slots) := by
 refine MetFree.of_bodySF (plainFor_of_name pn_1) hisR ?_
 intro p e s m args below meth c s₁ Bd hml0 hP hK
 obtain ⟨rfl, hZ, hh⟩ := hP
 have hx := Bd.exec
 have hby := Bd.bytes
 have hml : c.maxLocals = 1 := hml0
 have hown : s.vm.findClass "java/util/ArrayDeque" = some m.cls := findClass_of_methodNamed Bd.named
 have hnm := (name_of_methodNamed Bd.named Bd.method).1
 have X0 : Stand p l e ({ frames := 1, cells := 0, slots := 0, locals := 14 } : Room) s m #[(.ref a0)] below meth c s₁ [] 0 0 := Stand.of_body Bd
 have e0 : s₁.heap = h0 := by rw [← hh, Bd.state]; rfl
 have N0 := Fr.nil n0
 have Z0 : n0 ≤ h0.size := Nat.le_trans (Nat.le_of_eq O0.1.symm) O0.2.1
 obtain ⟨S0, hS0⟩ : ∃ z, z = s₁.setTop (entryFrame m #[(.ref a0)] 1) := ⟨_, rfl⟩
 have pre0 : ∀ tg, AT p e below s₁ m 0 #[rv a0] [] tg → Steps p.tables e below S0 tg := fun tg kg => by rw [hS0]; exact castTop (ef_10_1 m a0) kg
 obtain ⟨T1, X1, e1, st1⟩ := getF X0 hx hZ hown (host := "") (Or.inl (ow hw 40 rfl)) Via.refl e0 pf2 (g := (mkF m 1 #[rv a0] [(.ref a0)])) rfl rfl (hb hby d10_1)
 obtain ⟨T2, X2, e2, st2⟩ := getF X1 hx hZ hown (host := "") (Or.inl (ow hw 38 rfl)) Via.refl e1 pf1 (g := (mkF m 5 #[rv a0] [(.ref a0), (.int (1 : Int32))])) rfl rfl (hb hby d10_5)
 obtain ⟨T3, X3, e3, st3⟩ := getF X2 hx hZ hown (host := "") (Or.inl (ow hw 24 rfl)) Via.refl e2 pf0 (g := (mkF m 9 #[rv a0] [(.ref a0), (.int (0 : Int32)), (.int (1 : Int32))])) rfl rfl (hb hby d10_9)
 obtain ⟨cl4, Ar4, q4, S4, N4, H4, G4⟩ := id pf3
 obtain ⟨_, _, ⟨T5, L5, k5, n5⟩, -, X5, ⟨Lc5, hQ5, l5, y5, z5⟩, st5⟩ := Jvm.LawKit.callS X3 hx (y := y11) hown (mvT hZ (ow hw 62 rfl)) (mvT hZ (ow hw 63 rfl)) (mvT hZ (ow hw 11 rfl)) (mvT hZ (ow hw 64 rfl)) (by decide) (backOf (W := 0) (rm11 l Z ar hw [] (1 : Int32) (0 : Int32) (17 : Int32) h0 n0 O0) hZ (ow hw 64 rfl) (ow hw 11 rfl) (by decide) (by decide)) (g := (mkF m 13 #[rv a0] [(.int (17 : Int32)), (.int (0 : Int32)), (.int (1 : Int32))])) rfl (by rw [hml]; rfl) (argsL := [(.int (1 : Int32)), (.int (0 : Int32)), (.int (17 : Int32))]) (rest := []) (lenOf pd_1 rfl) rfl (by show 2 * 0 + _ ≤ _; exact Nat.le_of_eq rfl) (hb hby d10_13) (fun _ _ => ⟨rfl, e3, (by decide : 0 + 0 ≤ _), (by decide : 0 + 0 ≤ _)⟩)
 dsimp only [Pt.U, Pt.locs, Pt.cells, Pt.slots] at X5 l5 y5 z5 st5 hQ5
 subst l5 y5 z5
 obtain ⟨rfl, N5q, e5⟩ := hQ5
 have N5 := Fr.app N0 N5q
 have r5 : (f11 (1 : Int32) (0 : Int32) (17 : Int32)) = (1 : Int32) := by rw [f11, if_neg ((by decide) : ¬ (((1 : Int32) - (0 : Int32)) < (0 : Int32)))] <;> decide
 rw [r5] at st5
 obtain ⟨fs, hr, hrun, hended, hW, hsame⟩ := X5.leave (v := some (.int (1 : Int32))) (fun h => by rw [Bd.returns] at h; cases h)
 subst hS0
 refine ⟨_, _, pre0 _ ?_, hrun, hended, _, _, rfl, ?_, ⟨_, rfl⟩, hW, hsame.mono (by decide) (by decide)⟩
 ·
  refine XS.aloadN X0.here hx rfl (hb hby d10_0) rfl rfl ?_
  show AT p e below s₁ m 1 #[rv a0] [(.ref a0)] _
  refine st1 _ ?_
  show AT p e below T1 m 4 #[rv a0] [(.int (1 : Int32))] _
  refine XS.aloadN X1.here hx rfl (hb hby d10_4) rfl rfl ?_
  show AT p e below T1 m 5 #[rv a0] [(.ref a0), (.int (1 : Int32))] _
  refine st2 _ ?_
  show AT p e below T2 m 8 #[rv a0] [(.int (0 : Int32)), (.int (1 : Int32))] _
  refine XS.aloadN X2.here hx rfl (hb hby d10_8) rfl rfl ?_
  show AT p e below T2 m 9 #[rv a0] [(.ref a0), (.int (0 : Int32)), (.int (1 : Int32))] _
  refine st3 _ ?_
  show AT p e below T3 m 12 #[rv a0] [(.ref es), (.int (0 : Int32)), (.int (1 : Int32))] _
  refine X3.arraylength hx (by rw [e3]; exact Ar4.1) (State.isArrayOf_alike hZ.alike Ar4.2.1) (g := (mkF m 12 #[rv a0] [(.ref es), (.int (0 : Int32)), (.int (1 : Int32))])) rfl rfl (hb hby d10_12) _ ?_
  rw [len_of S4 N4]
  show AT p e below T3 m 13 #[rv a0] [(.int (17 : Int32)), (.int (0 : Int32)), (.int (1 : Int32))] _
  refine st5 _ ?_
  show AT p e below T5 m 16 #[rv a0] [(.int (1 : Int32))] _
  exact retOut X5 hx (t := .int) (i := .ireturn) Bd.returns rfl (Or.inl ⟨rfl, Or.inl rfl, _, rfl⟩) (hb hby d10_16) hr
 ·
  show Q10_1 Z a0 es ke i0 h0 n0 _ T5.heap _
  rw [e5]
  exact ⟨rfl, N5, rfl⟩

theorem ef_8_1 (m : MethodId) (a0 : Addr) (a1 : Addr) : entryFrame m #[(.ref a0), (.ref a1)] 3 = mkF m 0 #[rv a0, rv a1, un] [] := by first | (simp [entryFrame, mkF, argsToLocals, Value.category]; done) | rfl
def Q8_1 (Z : State) (a0 : Addr) (a1 : Addr) (es : Addr) (ke : ClassId) (i0 : Addr) (h0 : Heap) (n0 : Nat) (v : Option Value) (h : Heap) (L : List Loc) : Prop := v = none ∧ Fr n0 L ∧ Keep h0 h [a0, es] ∧ Exa Z h a0 "java/util/ArrayDeque" ∧ Fld Z h a0 "java/util/ArrayDeque" "elements" "[Ljava/lang/Object;" (.ref es) ∧ Fld Z h a0 "java/util/ArrayDeque" "head" "I" (.int (0 : Int32)) ∧ Fld Z h a0 "java/util/ArrayDeque" "tail" "I" (.int (2 : Int32)) ∧ Arv Z h es ke (.object "java/lang/Object") (17 : Int32) [(.ref i0), (.ref a1)] .null
set_option maxRecDepth 65536 in
set_option maxHeartbeats 40000000 in
theorem rm8_1 (l : Launch) (Z : State) (ar : Array Value) (hw : ∀ d ∈ tables_1, d.before ar Z = true) (ws : List Jvm.Cond) (a0 : Addr) (a1 : Addr) (es : Addr) (ke : ClassId) (i0 : Addr) (h0 : Heap) (n0 : Nat) (O0 : Old Z n0 h0) (pf0 : Exa Z h0 a0 "java/util/ArrayDeque") (pf1 : Fld Z h0 a0 "java/util/ArrayDeque" "elements" "[Ljava/lang/Object;" (.ref es)) (pf2 : Fld Z h0 a0 "java/util/ArrayDeque" "head" "I" (.int (0 : Int32))) (pf3 : Fld Z h0 a0 "java/util/ArrayDeque" "tail" "I" (.int (1 : Int32))) (pf4 : Arv Z h0 es ke (.object "java/lang/Object") (17 : Int32) [(.ref i0), .null] .null) (pf5 : Ovr Z ke "java/lang/Object") (pf6 : Exa Z h0 a1 "[J") (pf7 : n0 ≤ a0) (pf8 : n0 ≤ es) (pf9 : a0 ≠ es) (pf10 : a0 ≠ a1) (pf11 : es ≠ a1) :
    MetFree l y8 (head1 (Jvm.Cond.code y8 jdk_21_method_13_code 3 none :: ws) ({ frames := 1, cells := 0, slots := 0, locals := 15 } : Room)) (fun a U => a = #[(.ref a0), (.ref a1)] ∧ Z.Warmed39 U.vm ∧ U.heap = h0) (fun _ _ _ _ _ => True) (fun _ U o U' => ∃ v L, o = .returned v ∧ Q8_1 Z a0 a1 es ke i0 h0 n0 v U'.heap L ∧ FrameEnd U o U' L ({ frames := 1, cells := 0, slots := 0, locals := 15 } : Room).cells ({ frames := 1, cells := 0, slots := 0, locals := 15 } : Room).slots) := by
 refine MetFree.of_bodySF (plainFor_of_name pn_1) hisR ?_
 intro p e s m args below meth c s₁ Bd hml0 hP hK
 obtain ⟨rfl, hZ, hh⟩ := hP
 have hx := Bd.exec
 have hby := Bd.bytes
 have hml : c.maxLocals = 3 := hml0
 have hown : s.vm.findClass "java/util/ArrayDeque" = some m.cls := findClass_of_methodNamed Bd.named
 have hnm := (name_of_methodNamed Bd.named Bd.method).1
 have X0 : Stand p l e ({ frames := 1, cells := 0, slots := 0, locals := 15 } : Room) s m #[(.ref a0), (.ref a1)] below meth c s₁ [] 0 0 := Stand.of_body Bd
 have e0 : s₁.heap = h0 := by rw [← hh, Bd.state]; rfl
 have N0 := Fr.nil n0
 have Z0 : n0 ≤ h0.size := Nat.le_trans (Nat.le_of_eq O0.1.symm) O0.2.1
 obtain ⟨S0, hS0⟩ : ∃ z, z = s₁.setTop (entryFrame m #[(.ref a0), (.ref a1)] 3) := ⟨_, rfl⟩
 have pre0 : ∀ tg, AT p e below s₁ m 0 #[rv a0, rv a1, un] [] tg → Steps p.tables e below S0 tg := fun tg kg => by rw [hS0]; exact castTop (ef_8_1 m a0 a1) kg
 obtain ⟨T1, X1, e1, st1⟩ := getF X0 hx hZ hown (host := "") (Or.inl (ow hw 24 rfl)) Via.refl e0 pf1 (g := (mkF m 13 #[rv a0, rv a1, un] [(.ref a0)])) rfl rfl (hb hby d8_13)
 obtain ⟨T2, X2, e2, st2⟩ := getF X1 hx hZ hown (host := "") (Or.inl (ow hw 40 rfl)) Via.refl e1 pf3 (g := (mkF m 19 #[rv a0, rv a1, rv es] [(.ref a0), (.ref es)])) rfl rfl (hb hby d8_19)
 obtain ⟨cl3, Ar3, q3, S3, M3, H3, G3⟩ := id pf4
 have hin3 := own_in (1 : Int32) S3 ⟨by decide, by decide⟩
 obtain ⟨T3, h3, X3, e3, W3, st3⟩ := stR X2 hx hZ e2 Ar3 (j := (1 : Int32)) hin3 rfl (Sto.ofV Ar3 q3 pf5 (Ins.of_exa pf6 (ow hw 53 rfl))) (g := (mkF m 23 #[rv a0, rv a1, rv es] [(.ref a1), (.int (1 : Int32)), (.ref es)])) rfl rfl (hb hby d8_23)
 have V3_4 : Arv Z h3 es ke (.object "java/lang/Object") (17 : Int32) [(.ref i0), (.ref a1)] .null := Arv.set Ar3 q3 S3 M3 H3 G3 rfl W3 1 rfl (Nat.le_of_ble_eq_true rfl)
 have E3_5 := pf0.wr W3
 have F3_6 := pf1.other W3 (Or.inl pf9)
 have F3_7 := pf2.other W3 (Or.inl pf9)
 have F3_8 := pf3.other W3 (Or.inl pf9)
 have E3_9 := pf6.wr W3
 have K3 := (Keep.refl h0 [a0, es]).wr W3 (Or.inl (List.mem_of_getElem? (i := 1) rfl))
 have O3 := O0.wr W3 pf8
 have N3 := Fr.snoc X3 N0 pf8
 obtain ⟨T10, X10, e10, st10⟩ := getF X3 hx hZ hown (host := "") (Or.inl (ow hw 38 rfl)) Via.refl e3 F3_7 (g := (mkF m 25 #[rv a0, rv a1, rv es] [(.ref a0)])) rfl rfl (hb hby d8_25)
 obtain ⟨T11, X11, e11, st11⟩ := getF X10 hx hZ hown (host := "") (Or.inl (ow hw 40 rfl)) Via.refl e10 F3_8 (g := (mkF m 30 #[rv a0, rv a1, rv es] [(.ref a0), (.ref a0), (.int (0 : Int32))])) rfl rfl (hb hby d8_30)
 obtain ⟨cl12, Ar12, q12, S12, N12, H12, G12⟩ := id V3_4
 obtain ⟨_, _, ⟨T13, L13, k13, n13⟩, -, X13, ⟨Lc13, hQ13, l13, y13, z13⟩, st13⟩ := Jvm.LawKit.callS X11 hx (y := y9) hown (mvT hZ (ow hw 54 rfl)) (mvT hZ (ow hw 55 rfl)) (mvT hZ (ow hw 11 rfl)) (mvT hZ (ow hw 56 rfl)) (by decide) (backOf (W := 2) (rm9 l Z ar hw [] (1 : Int32) (17 : Int32) h3 n0 O3) hZ (ow hw 56 rfl) (ow hw 11 rfl) (by decide) (by decide)) (g := (mkF m 35 #[rv a0, rv a1, rv es] [(.int (17 : Int32)), (.int (1 : Int32)), (.ref a0), (.int (0 : Int32))])) rfl (by rw [hml]; rfl) (argsL := [(.int (1 : Int32)), (.int (17 : Int32))]) (rest := [(.ref a0), (.int (0 : Int32))]) (lenOf pd_2 rfl) rfl (by show 2 * 0 + _ ≤ _; exact Nat.le_of_eq rfl) (hb hby d8_35) (fun _ _ => ⟨rfl, e11, (by decide : 0 + 0 ≤ _), (by decide : 0 + 0 ≤ _)⟩)
 dsimp only [Pt.U, Pt.locs, Pt.cells, Pt.slots] at X13 l13 y13 z13 st13 hQ13
 subst l13 y13 z13
 obtain ⟨rfl, N13q, e13⟩ := hQ13
 have N13 := Fr.app N3 N13q
 have r13 : (f9 (1 : Int32) (17 : Int32)) = (2 : Int32) := by rw [f9, if_pos ((by decide) : ((1 : Int32) + (1 : Int32)) < (17 : Int32))] <;> decide
 rw [r13] at st13
 obtain ⟨T14, h14, X14, e14, W14, st14⟩ := putF X13 hx hZ hown (host := "") (Or.inl (ow hw 40 rfl)) Via.refl e13 F3_8 E3_5 (Or.inl (ow hw 41 rfl)) (ow hw 10 rfl) (ty := .int) (by decide) rfl rfl (g := (mkF m 39 #[rv a0, rv a1, rv es] [(.int (2 : Int32)), (.ref a0), (.int (2 : Int32)), (.int (0 : Int32))])) rfl rfl (hb hby d8_39)
 have E14_15 := E3_5.wr W14
 have F14_16 := F3_6.other W14 (Or.inr (slot_ne (Or.inl (ow hw 25 rfl)) (Or.inl (ow hw 41 rfl)) (by decide) (t := (.array (.object "java/lang/Object"))) (t' := .int) (by decide) (by decide)))
 have F14_17 := F3_7.other W14 (Or.inr (slot_ne (Or.inl (ow hw 39 rfl)) (Or.inl (ow hw 41 rfl)) (by decide) (t := .int) (t' := .int) (by decide) (by decide)))
 have F14_18 : Fld Z h14 a0 "java/util/ArrayDeque" "tail" "I" (.int (2 : Int32)) := F3_8.same W14
 have V14_19 := V3_4.other W14 (Ne.symm pf9)
 have E14_20 := E3_9.wr W14
 have K14 := K3.wr W14 (Or.inl (List.mem_of_getElem? (i := 0) rfl))
 have O14 := O3.wr W14 pf7
 have N14 := Fr.snoc X14 N13 pf7
 obtain ⟨fs, hr, hrun, hended, hW, hsame⟩ := X14.leave (v := none) (fun _ => rfl)
 subst hS0
 refine ⟨_, _, pre0 _ ?_, hrun, hended, _, _, rfl, ?_, ⟨_, rfl⟩, hW, hsame.mono (by decide) (by decide)⟩
 ·
  refine XS.aloadN X0.here hx rfl (hb hby d8_0) rfl rfl ?_
  show AT p e below s₁ m 1 #[rv a0, rv a1, un] [(.ref a1)] _
  refine XS.ifnonnullYes X0.here hx rfl (pc0 := 1) (pc' := 12) rfl (hb hby d8_1) rfl (by decide) (by decide) ?_
  show AT p e below s₁ m 12 #[rv a0, rv a1, un] [] _
  refine XS.aloadN X0.here hx rfl (hb hby d8_12) rfl rfl ?_
  show AT p e below s₁ m 13 #[rv a0, rv a1, un] [(.ref a0)] _
  refine st1 _ ?_
  show AT p e below T1 m 16 #[rv a0, rv a1, un] [(.ref es)] _
  refine XS.astoreN X1.here hx rfl (hb hby d8_16) rfl rfl (l' := #[rv a0, rv a1, rv es]) rfl ?_
  show AT p e below T1 m 17 #[rv a0, rv a1, rv es] [] _
  refine XS.aloadN X1.here hx rfl (hb hby d8_17) rfl rfl ?_
  show AT p e below T1 m 18 #[rv a0, rv a1, rv es] [(.ref es)] _
  refine XS.aloadN X1.here hx rfl (hb hby d8_18) rfl rfl ?_
  show AT p e below T1 m 19 #[rv a0, rv a1, rv es] [(.ref a0), (.ref es)] _
  refine st2 _ ?_
  show AT p e below T2 m 22 #[rv a0, rv a1, rv es] [(.int (1 : Int32)), (.ref es)] _
  refine XS.aloadN X2.here hx rfl (hb hby d8_22) rfl rfl ?_
  show AT p e below T2 m 23 #[rv a0, rv a1, rv es] [(.ref a1), (.int (1 : Int32)), (.ref es)] _
  refine st3 _ ?_
  show AT p e below T3 m 24 #[rv a0, rv a1, rv es] [] _
  refine XS.aloadN X3.here hx rfl (hb hby d8_24) rfl rfl ?_
  show AT p e below T3 m 25 #[rv a0, rv a1, rv es] [(.ref a0)] _
  refine st10 _ ?_
  show AT p e below T10 m 28 #[rv a0, rv a1, rv es] [(.int (0 : Int32))] _
  refine XS.aloadN X10.here hx rfl (hb hby d8_28) rfl rfl ?_
  show AT p e below T10 m 29 #[rv a0, rv a1, rv es] [(.ref a0), (.int (0 : Int32))] _
  refine XS.aloadN X10.here hx rfl (hb hby d8_29) rfl rfl ?_
  show AT p e below T10 m 30 #[rv a0, rv a1, rv es] [(.ref a0), (.ref a0), (.int (0 : Int32))] _
  refine st11 _ ?_
  show AT p e below T11 m 33 #[rv a0, rv a1, rv es] [(.int (1 : Int32)), (.ref a0), (.int (0 : Int32))] _
  refine XS.aloadN X11.here hx rfl (hb hby d8_33) rfl rfl ?_
  show AT p e below T11 m 34 #[rv a0, rv a1, rv es] [(.ref es), (.int (1 : Int32)), (.ref a0), (.int (0 : Int32))] _
  refine X11.arraylength hx (by rw [e11]; exact Ar12.1) (State.isArrayOf_alike hZ.alike Ar12.2.1) (g := (mkF m 34 #[rv a0, rv a1, rv es] [(.ref es), (.int (1 : Int32)), (.ref a0), (.int (0 : Int32))])) rfl rfl (hb hby d8_34) _ ?_
  rw [len_of S12 N12]
  show AT p e below T11 m 35 #[rv a0, rv a1, rv es] [(.int (17 : Int32)), (.int (1 : Int32)), (.ref a0), (.int (0 : Int32))] _
  refine st13 _ ?_
  show AT p e below T13 m 38 #[rv a0, rv a1, rv es] [(.int (2 : Int32)), (.ref a0), (.int (0 : Int32))] _
  refine XS.dupX1 X13.here hx rfl (hb hby d8_38) rfl rfl rfl ?_
  show AT p e below T13 m 39 #[rv a0, rv a1, rv es] [(.int (2 : Int32)), (.ref a0), (.int (2 : Int32)), (.int (0 : Int32))] _
  refine st14 _ ?_
  show AT p e below T14 m 42 #[rv a0, rv a1, rv es] [(.int (2 : Int32)), (.int (0 : Int32))] _
  refine XS.icmpYes X14.here hx rfl (pc0 := 42) (pc' := 50) rfl (hb hby d8_42) rfl (XT.ii_ne_t ((by decide) : ¬ ((0 : Int32) = (2 : Int32)))) (by decide) (by decide) ?_
  show AT p e below T14 m 50 #[rv a0, rv a1, rv es] [] _
  exact X14.returnOut hx Bd.returns (hb hby d8_50) hr
 ·
  show Q8_1 Z a0 a1 es ke i0 h0 n0 _ T14.heap _
  rw [e14]
  exact ⟨rfl, N14, K14, E14_15, F14_16, F14_17, F14_18, V14_19⟩

theorem ef_6_2 (m : MethodId) (a0 : Addr) : entryFrame m #[(.ref a0)] 1 = mkF m 0 #[rv a0] [] := by first | (simp [entryFrame, mkF, argsToLocals, Value.category]; done) | rfl
def Q6_2 (Z : State) (a0 : Addr) (h0 : Heap) (n0 : Nat) (v : Option Value) (h : Heap) (L : List Loc) : Prop := v = some (.int (0 : Int32)) ∧ Fr n0 L ∧ h = h0
set_option maxRecDepth 65536 in
set_option maxHeartbeats 40000000 in
theorem rm6_2 (l : Launch) (Z : State) (ar : Array Value) (hw : ∀ d ∈ tables_1, d.before ar Z = true) (ws : List Jvm.Cond) (a0 : Addr) (h0 : Heap) (n0 : Nat) (O0 : Old Z n0 h0) (pf0 : Fld Z h0 a0 "java/util/ArrayDeque" "head" "I" (.int (0 : Int32))) (pf1 : Fld Z h0 a0 "java/util/ArrayDeque" "tail" "I" (.int (2 : Int32))) :
    MetFree l y6 (head1 (Jvm.Cond.code y6 jdk_21_method_38_code 1 (some .boolean) :: ws) ({ frames := 0, cells := 0, slots := 0, locals := 0 } : Room)) (fun a U => a = #[(.ref a0)] ∧ Z.Warmed39 U.vm ∧ U.heap = h0) (fun _ _ _ _ _ => True) (fun _ U o U' => ∃ v L, o = .returned v ∧ Q6_2 Z a0 h0 n0 v U'.heap L ∧ FrameEnd U o U' L ({ frames := 0, cells := 0, slots := 0, locals := 0 } : Room).cells ({ frames := 0, cells := 0, slots := 0, locals := 0 } : Room).slots) := by
 refine MetFree.of_bodySF (plainFor_of_name pn_1) hisR ?_
 intro p e s m args below meth c s₁ Bd hml0 hP hK
 obtain ⟨rfl, hZ, hh⟩ := hP
 have hx := Bd.exec
 have hby := Bd.bytes
 have hml : c.maxLocals = 1 := hml0
 have hown : s.vm.findClass "java/util/ArrayDeque" = some m.cls := findClass_of_methodNamed Bd.named
 have hnm := (name_of_methodNamed Bd.named Bd.method).1
 have X0 : Stand p l e ({ frames := 0, cells := 0, slots := 0, locals := 0 } : Room) s m #[(.ref a0)] below meth c s₁ [] 0 0 := Stand.of_body Bd
 have e0 : s₁.heap = h0 := by rw [← hh, Bd.state]; rfl
 have N0 := Fr.nil n0
 have Z0 : n0 ≤ h0.size := Nat.le_trans (Nat.le_of_eq O0.1.symm) O0.2.1
 obtain ⟨S0, hS0⟩ : ∃ z, z = s₁.setTop (entryFrame m #[(.ref a0)] 1) := ⟨_, rfl⟩
 have pre0 : ∀ tg, AT p e below s₁ m 0 #[rv a0] [] tg → Steps p.tables e below S0 tg := fun tg kg => by rw [hS0]; exact castTop (ef_6_2 m a0) kg
 obtain ⟨T1, X1, e1, st1⟩ := getF X0 hx hZ hown (host := "") (Or.inl (ow hw 38 rfl)) Via.refl e0 pf0 (g := (mkF m 1 #[rv a0] [(.ref a0)])) rfl rfl (hb hby d6_1)
 obtain ⟨T2, X2, e2, st2⟩ := getF X1 hx hZ hown (host := "") (Or.inl (ow hw 40 rfl)) Via.refl e1 pf1 (g := (mkF m 5 #[rv a0] [(.ref a0), (.int (0 : Int32))])) rfl rfl (hb hby d6_5)
 obtain ⟨fs, hr, hrun, hended, hW, hsame⟩ := X2.leave (v := some (.int (0 : Int32))) (fun h => by rw [Bd.returns] at h; cases h)
 subst hS0
 refine ⟨_, _, pre0 _ ?_, hrun, hended, _, _, rfl, ?_, ⟨_, rfl⟩, hW, hsame.mono (by decide) (by decide)⟩
 ·
  refine XS.aloadN X0.here hx rfl (hb hby d6_0) rfl rfl ?_
  show AT p e below s₁ m 1 #[rv a0] [(.ref a0)] _
  refine st1 _ ?_
  show AT p e below T1 m 4 #[rv a0] [(.int (0 : Int32))] _
  refine XS.aloadN X1.here hx rfl (hb hby d6_4) rfl rfl ?_
  show AT p e below T1 m 5 #[rv a0] [(.ref a0), (.int (0 : Int32))] _
  refine st2 _ ?_
  show AT p e below T2 m 8 #[rv a0] [(.int (2 : Int32)), (.int (0 : Int32))] _
  refine XS.icmpYes X2.here hx rfl (pc0 := 8) (pc' := 15) rfl (hb hby d6_8) rfl (XT.ii_ne_t ((by decide) : ¬ ((0 : Int32) = (2 : Int32)))) (by decide) (by decide) ?_
  show AT p e below T2 m 15 #[rv a0] [] _
  refine XS.iconst X2.here hx rfl (hb hby d6_15) ?_
  show AT p e below T2 m 16 #[rv a0] [(.int (0 : Int32))] _
  exact retN X2 hx (t := .boolean) Bd.returns (by simp) (hb hby d6_16) hr
 ·
  show Q6_2 Z a0 h0 n0 _ T2.heap _
  rw [e2]
  exact ⟨rfl, N0, rfl⟩

theorem ef_10_2 (m : MethodId) (a0 : Addr) : entryFrame m #[(.ref a0)] 1 = mkF m 0 #[rv a0] [] := by first | (simp [entryFrame, mkF, argsToLocals, Value.category]; done) | rfl
def Q10_2 (Z : State) (a0 : Addr) (es : Addr) (ke : ClassId) (i0 : Addr) (i1 : Addr) (h0 : Heap) (n0 : Nat) (v : Option Value) (h : Heap) (L : List Loc) : Prop := v = some (.int (2 : Int32)) ∧ Fr n0 L ∧ h = h0
set_option maxRecDepth 65536 in
set_option maxHeartbeats 40000000 in
theorem rm10_2 (l : Launch) (Z : State) (ar : Array Value) (hw : ∀ d ∈ tables_1, d.before ar Z = true) (ws : List Jvm.Cond) (a0 : Addr) (es : Addr) (ke : ClassId) (i0 : Addr) (i1 : Addr) (h0 : Heap) (n0 : Nat) (O0 : Old Z n0 h0) (pf0 : Fld Z h0 a0 "java/util/ArrayDeque" "elements" "[Ljava/lang/Object;" (.ref es)) (pf1 : Fld Z h0 a0 "java/util/ArrayDeque" "head" "I" (.int (0 : Int32))) (pf2 : Fld Z h0 a0 "java/util/ArrayDeque" "tail" "I" (.int (2 : Int32))) (pf3 : Arv Z h0 es ke (.object "java/lang/Object") (17 : Int32) [(.ref i0), (.ref i1)] .null) :
    MetFree l y10 (head1 (Jvm.Cond.code y10 jdk_21_method_37_code 1 (some .int) :: ws) ({ frames := 1, cells := 0, slots := 0, locals := 14 } : Room)) (fun a U => a = #[(.ref a0)] ∧ Z.Warmed39 U.vm ∧ U.heap = h0) (fun _ _ _ _ _ => True) (fun _ U o U' => ∃ v L, o = .returned v ∧ Q10_2 Z a0 es ke i0 i1 h0 n0 v U'.heap L ∧ FrameEnd U o U' L ({ frames := 1, cells := 0, slots := 0, locals := 14 } : Room).cells ({ frames := 1, cells := 0, slots := 0, locals := 14 } : Room).slots) := by
 refine MetFree.of_bodySF (plainFor_of_name pn_1) hisR ?_
 intro p e s m args below meth c s₁ Bd hml0 hP hK
 obtain ⟨rfl, hZ, hh⟩ := hP
 have hx := Bd.exec
 have hby := Bd.bytes
 have hml : c.maxLocals = 1 := hml0
 have hown : s.vm.findClass "java/util/ArrayDeque" = some m.cls := findClass_of_methodNamed Bd.named
 have hnm := (name_of_methodNamed Bd.named Bd.method).1
 have X0 : Stand p l e ({ frames := 1, cells := 0, slots := 0, locals := 14 } : Room) s m #[(.ref a0)] below meth c s₁ [] 0 0 := Stand.of_body Bd
 have e0 : s₁.heap = h0 := by rw [← hh, Bd.state]; rfl
 have N0 := Fr.nil n0
 have Z0 : n0 ≤ h0.size := Nat.le_trans (Nat.le_of_eq O0.1.symm) O0.2.1
 obtain ⟨S0, hS0⟩ : ∃ z, z = s₁.setTop (entryFrame m #[(.ref a0)] 1) := ⟨_, rfl⟩
 have pre0 : ∀ tg, AT p e below s₁ m 0 #[rv a0] [] tg → Steps p.tables e below S0 tg := fun tg kg => by rw [hS0]; exact castTop (ef_10_2 m a0) kg
 obtain ⟨T1, X1, e1, st1⟩ := getF X0 hx hZ hown (host := "") (Or.inl (ow hw 40 rfl)) Via.refl e0 pf2 (g := (mkF m 1 #[rv a0] [(.ref a0)])) rfl rfl (hb hby d10_1)
 obtain ⟨T2, X2, e2, st2⟩ := getF X1 hx hZ hown (host := "") (Or.inl (ow hw 38 rfl)) Via.refl e1 pf1 (g := (mkF m 5 #[rv a0] [(.ref a0), (.int (2 : Int32))])) rfl rfl (hb hby d10_5)
 obtain ⟨T3, X3, e3, st3⟩ := getF X2 hx hZ hown (host := "") (Or.inl (ow hw 24 rfl)) Via.refl e2 pf0 (g := (mkF m 9 #[rv a0] [(.ref a0), (.int (0 : Int32)), (.int (2 : Int32))])) rfl rfl (hb hby d10_9)
 obtain ⟨cl4, Ar4, q4, S4, N4, H4, G4⟩ := id pf3
 obtain ⟨_, _, ⟨T5, L5, k5, n5⟩, -, X5, ⟨Lc5, hQ5, l5, y5, z5⟩, st5⟩ := Jvm.LawKit.callS X3 hx (y := y11) hown (mvT hZ (ow hw 62 rfl)) (mvT hZ (ow hw 63 rfl)) (mvT hZ (ow hw 11 rfl)) (mvT hZ (ow hw 64 rfl)) (by decide) (backOf (W := 0) (rm11 l Z ar hw [] (2 : Int32) (0 : Int32) (17 : Int32) h0 n0 O0) hZ (ow hw 64 rfl) (ow hw 11 rfl) (by decide) (by decide)) (g := (mkF m 13 #[rv a0] [(.int (17 : Int32)), (.int (0 : Int32)), (.int (2 : Int32))])) rfl (by rw [hml]; rfl) (argsL := [(.int (2 : Int32)), (.int (0 : Int32)), (.int (17 : Int32))]) (rest := []) (lenOf pd_1 rfl) rfl (by show 2 * 0 + _ ≤ _; exact Nat.le_of_eq rfl) (hb hby d10_13) (fun _ _ => ⟨rfl, e3, (by decide : 0 + 0 ≤ _), (by decide : 0 + 0 ≤ _)⟩)
 dsimp only [Pt.U, Pt.locs, Pt.cells, Pt.slots] at X5 l5 y5 z5 st5 hQ5
 subst l5 y5 z5
 obtain ⟨rfl, N5q, e5⟩ := hQ5
 have N5 := Fr.app N0 N5q
 have r5 : (f11 (2 : Int32) (0 : Int32) (17 : Int32)) = (2 : Int32) := by rw [f11, if_neg ((by decide) : ¬ (((2 : Int32) - (0 : Int32)) < (0 : Int32)))] <;> decide
 rw [r5] at st5
 obtain ⟨fs, hr, hrun, hended, hW, hsame⟩ := X5.leave (v := some (.int (2 : Int32))) (fun h => by rw [Bd.returns] at h; cases h)
 subst hS0
 refine ⟨_, _, pre0 _ ?_, hrun, hended, _, _, rfl, ?_, ⟨_, rfl⟩, hW, hsame.mono (by decide) (by decide)⟩
 ·
  refine XS.aloadN X0.here hx rfl (hb hby d10_0) rfl rfl ?_
  show AT p e below s₁ m 1 #[rv a0] [(.ref a0)] _
  refine st1 _ ?_
  show AT p e below T1 m 4 #[rv a0] [(.int (2 : Int32))] _
  refine XS.aloadN X1.here hx rfl (hb hby d10_4) rfl rfl ?_
  show AT p e below T1 m 5 #[rv a0] [(.ref a0), (.int (2 : Int32))] _
  refine st2 _ ?_
  show AT p e below T2 m 8 #[rv a0] [(.int (0 : Int32)), (.int (2 : Int32))] _
  refine XS.aloadN X2.here hx rfl (hb hby d10_8) rfl rfl ?_
  show AT p e below T2 m 9 #[rv a0] [(.ref a0), (.int (0 : Int32)), (.int (2 : Int32))] _
  refine st3 _ ?_
  show AT p e below T3 m 12 #[rv a0] [(.ref es), (.int (0 : Int32)), (.int (2 : Int32))] _
  refine X3.arraylength hx (by rw [e3]; exact Ar4.1) (State.isArrayOf_alike hZ.alike Ar4.2.1) (g := (mkF m 12 #[rv a0] [(.ref es), (.int (0 : Int32)), (.int (2 : Int32))])) rfl rfl (hb hby d10_12) _ ?_
  rw [len_of S4 N4]
  show AT p e below T3 m 13 #[rv a0] [(.int (17 : Int32)), (.int (0 : Int32)), (.int (2 : Int32))] _
  refine st5 _ ?_
  show AT p e below T5 m 16 #[rv a0] [(.int (2 : Int32))] _
  exact retOut X5 hx (t := .int) (i := .ireturn) Bd.returns rfl (Or.inl ⟨rfl, Or.inl rfl, _, rfl⟩) (hb hby d10_16) hr
 ·
  show Q10_2 Z a0 es ke i0 i1 h0 n0 _ T5.heap _
  rw [e5]
  exact ⟨rfl, N5, rfl⟩

theorem d18_0 : decode jdk_21_method_10_code 0 = .ok (.aload_n 0, 1) := by decide +kernel
theorem d18_1 : decode jdk_21_method_10_code 1 = .ok (.iload_n 1, 1) := by decide +kernel
theorem d18_2 : decode jdk_21_method_10_code 2 = .ok (.aaload, 1) := by decide +kernel
theorem d18_3 : decode jdk_21_method_10_code 3 = .ok (.areturn, 1) := by decide +kernel
theorem ef_18 (m : MethodId) (a0 : Addr) : entryFrame m #[(.ref a0), (.int (0 : Int32))] 2 = mkF m 0 #[rv a0, iv (0 : Int32)] [] := by first | (simp [entryFrame, mkF, argsToLocals, Value.category]; done) | rfl
def Q18 (Z : State) (a0 : Addr) (ke : ClassId) (i0 : Addr) (h0 : Heap) (n0 : Nat) (v : Option Value) (h : Heap) (L : List Loc) : Prop := v = some (.ref i0) ∧ Fr n0 L ∧ h = h0
set_option maxRecDepth 65536 in
set_option maxHeartbeats 40000000 in
theorem rm18 (l : Launch) (Z : State) (ar : Array Value) (hw : ∀ d ∈ tables_1, d.before ar Z = true) (ws : List Jvm.Cond) (a0 : Addr) (ke : ClassId) (i0 : Addr) (h0 : Heap) (n0 : Nat) (O0 : Old Z n0 h0) (pf0 : Arv Z h0 a0 ke (.object "java/lang/Object") (17 : Int32) [(.ref i0), .null] .null) :
    MetFree l y18 (head1 (Jvm.Cond.code y18 jdk_21_method_10_code 2 (some (.object "java/lang/Object")) :: ws) ({ frames := 0, cells := 0, slots := 0, locals := 0 } : Room)) (fun a U => a = #[(.ref a0), (.int (0 : Int32))] ∧ Z.Warmed39 U.vm ∧ U.heap = h0) (fun _ _ _ _ _ => True) (fun _ U o U' => ∃ v L, o = .returned v ∧ Q18 Z a0 ke i0 h0 n0 v U'.heap L ∧ FrameEnd U o U' L ({ frames := 0, cells := 0, slots := 0, locals := 0 } : Room).cells ({ frames := 0, cells := 0, slots := 0, locals := 0 } : Room).slots) := by
 refine MetFree.of_bodySF (plainFor_of_name pn_1) hisR ?_
 intro p e s m args below meth c s₁ Bd hml0 hP hK
 obtain ⟨rfl, hZ, hh⟩ := hP
 have hx := Bd.exec
 have hby := Bd.bytes
 have hml : c.maxLocals = 2 := hml0
 have hown : s.vm.findClass "java/util/ArrayDeque" = some m.cls := findClass_of_methodNamed Bd.named
 have hnm := (name_of_methodNamed Bd.named Bd.method).1
 have X0 : Stand p l e ({ frames := 0, cells := 0, slots := 0, locals := 0 } : Room) s m #[(.ref a0), (.int (0 : Int32))] below meth c s₁ [] 0 0 := Stand.of_body Bd
 have e0 : s₁.heap = h0 := by rw [← hh, Bd.state]; rfl
 have N0 := Fr.nil n0
 have Z0 : n0 ≤ h0.size := Nat.le_trans (Nat.le_of_eq O0.1.symm) O0.2.1
 obtain ⟨S0, hS0⟩ : ∃ z, z = s₁.setTop (entryFrame m #[(.ref a0), (.int (0 : Int32))] 2) := ⟨_, rfl⟩
 have pre0 : ∀ tg, AT p e below s₁ m 0 #[rv a0, iv (0 : Int32)] [] tg → Steps p.tables e below S0 tg := fun tg kg => by rw [hS0]; exact castTop (ef_18 m a0) kg
 obtain ⟨cl1, Ar1, q1, S1, N1, H1, G1⟩ := id pf0
 have hin1 := own_in (0 : Int32) S1 ⟨by decide, by decide⟩
 have hat1 : cl1.slots[((0 : Int32)).toNatClampNeg]? = some (.ref i0) := Has.at H1 hin1 rfl
 obtain ⟨fs, hr, hrun, hended, hW, hsame⟩ := X0.leave (v := some (.ref i0)) (fun h => by rw [Bd.returns] at h; cases h)
 subst hS0
 refine ⟨_, _, pre0 _ ?_, hrun, hended, _, _, rfl, ?_, ⟨_, rfl⟩, hW, hsame.mono (by decide) (by decide)⟩
 ·
  refine XS.aloadN X0.here hx rfl (hb hby d18_0) rfl rfl ?_
  show AT p e below s₁ m 1 #[rv a0, iv (0 : Int32)] [(.ref a0)] _
  refine XS.iloadN X0.here hx rfl (hb hby d18_1) rfl ?_
  show AT p e below s₁ m 2 #[rv a0, iv (0 : Int32)] [(.int (0 : Int32)), (.ref a0)] _
  refine X0.aaload hx (j := (0 : Int32)) (v := (.ref i0)) (by rw [e0]; exact Ar1.1) (State.isArrayOf_alike hZ.alike Ar1.2.1) rfl Ar1.2.2 hin1 hat1 (g := (mkF m 2 #[rv a0, iv (0 : Int32)] [(.int (0 : Int32)), (.ref a0)])) rfl rfl (hb hby d18_2) _ ?_
  show AT p e below s₁ m 3 #[rv a0, iv (0 : Int32)] [(.ref i0)] _
  exact retOut X0 hx (t := (.object "java/lang/Object")) (i := .areturn) Bd.returns rfl (Or.inr (Or.inr (Or.inr (Or.inr ⟨rfl, rfl, rfl⟩)))) (hb hby d18_3) hr
 ·
  show Q18 Z a0 ke i0 h0 n0 _ s₁.heap _
  rw [e0]
  exact ⟨rfl, N0, rfl⟩

theorem ef_18_2 (m : MethodId) (a0 : Addr) : entryFrame m #[(.ref a0), (.int (0 : Int32))] 2 = mkF m 0 #[rv a0, iv (0 : Int32)] [] := by first | (simp [entryFrame, mkF, argsToLocals, Value.category]; done) | rfl
def Q18_2 (Z : State) (a0 : Addr) (ke : ClassId) (i0 : Addr) (i1 : Addr) (h0 : Heap) (n0 : Nat) (v : Option Value) (h : Heap) (L : List Loc) : Prop := v = some (.ref i0) ∧ Fr n0 L ∧ h = h0
set_option maxRecDepth 65536 in
set_option maxHeartbeats 40000000 in
theorem rm18_2 (l : Launch) (Z : State) (ar : Array Value) (hw : ∀ d ∈ tables_1, d.before ar Z = true) (ws : List Jvm.Cond) (a0 : Addr) (ke : ClassId) (i0 : Addr) (i1 : Addr) (h0 : Heap) (n0 : Nat) (O0 : Old Z n0 h0) (pf0 : Arv Z h0 a0 ke (.object "java/lang/Object") (17 : Int32) [(.ref i0), (.ref i1)] .null) :
    MetFree l y18 (head1 (Jvm.Cond.code y18 jdk_21_method_10_code 2 (some (.object "java/lang/Object")) :: ws) ({ frames := 0, cells := 0, slots := 0, locals := 0 } : Room)) (fun a U => a = #[(.ref a0), (.int (0 : Int32))] ∧ Z.Warmed39 U.vm ∧ U.heap = h0) (fun _ _ _ _ _ => True) (fun _ U o U' => ∃ v L, o = .returned v ∧ Q18_2 Z a0 ke i0 i1 h0 n0 v U'.heap L ∧ FrameEnd U o U' L ({ frames := 0, cells := 0, slots := 0, locals := 0 } : Room).cells ({ frames := 0, cells := 0, slots := 0, locals := 0 } : Room).slots) := by
 refine MetFree.of_bodySF (plainFor_of_name pn_1) hisR ?_
 intro p e s m args below meth c s₁ Bd hml0 hP hK
 obtain ⟨rfl, hZ, hh⟩ := hP
 have hx := Bd.exec
 have hby := Bd.bytes
 have hml : c.maxLocals = 2 := hml0
 have hown : s.vm.findClass "java/util/ArrayDeque" = some m.cls := findClass_of_methodNamed Bd.named
 have hnm := (name_of_methodNamed Bd.named Bd.method).1
 have X0 : Stand p l e ({ frames := 0, cells := 0, slots := 0, locals := 0 } : Room) s m #[(.ref a0), (.int (0 : Int32))] below meth c s₁ [] 0 0 := Stand.of_body Bd
 have e0 : s₁.heap = h0 := by rw [← hh, Bd.state]; rfl
 have N0 := Fr.nil n0
 have Z0 : n0 ≤ h0.size := Nat.le_trans (Nat.le_of_eq O0.1.symm) O0.2.1
 obtain ⟨S0, hS0⟩ : ∃ z, z = s₁.setTop (entryFrame m #[(.ref a0), (.int (0 : Int32))] 2) := ⟨_, rfl⟩
 have pre0 : ∀ tg, AT p e below s₁ m 0 #[rv a0, iv (0 : Int32)] [] tg → Steps p.tables e below S0 tg := fun tg kg => by rw [hS0]; exact castTop (ef_18_2 m a0) kg
 obtain ⟨cl1, Ar1, q1, S1, N1, H1, G1⟩ := id pf0
 have hin1 := own_in (0 : Int32) S1 ⟨by decide, by decide⟩
 have hat1 : cl1.slots[((0 : Int32)).toNatClampNeg]? = some (.ref i0) := Has.at H1 hin1 rfl
 obtain ⟨fs, hr, hrun, hended, hW, hsame⟩ := X0.leave (v := some (.ref i0)) (fun h => by rw [Bd.returns] at h; cases h)
 subst hS0
 refine ⟨_, _, pre0 _ ?_, hrun, hended, _, _, rfl, ?_, ⟨_, rfl⟩, hW, hsame.mono (by decide) (by decide)⟩
 ·
  refine XS.aloadN X0.here hx rfl (hb hby d18_0) rfl rfl ?_
  show AT p e below s₁ m 1 #[rv a0, iv (0 : Int32)] [(.ref a0)] _
  refine XS.iloadN X0.here hx rfl (hb hby d18_1) rfl ?_
  show AT p e below s₁ m 2 #[rv a0, iv (0 : Int32)] [(.int (0 : Int32)), (.ref a0)] _
  refine X0.aaload hx (j := (0 : Int32)) (v := (.ref i0)) (by rw [e0]; exact Ar1.1) (State.isArrayOf_alike hZ.alike Ar1.2.1) rfl Ar1.2.2 hin1 hat1 (g := (mkF m 2 #[rv a0, iv (0 : Int32)] [(.int (0 : Int32)), (.ref a0)])) rfl rfl (hb hby d18_2) _ ?_
  show AT p e below s₁ m 3 #[rv a0, iv (0 : Int32)] [(.ref i0)] _
  exact retOut X0 hx (t := (.object "java/lang/Object")) (i := .areturn) Bd.returns rfl (Or.inr (Or.inr (Or.inr (Or.inr ⟨rfl, rfl, rfl⟩)))) (hb hby d18_3) hr
 ·
  show Q18_2 Z a0 ke i0 i1 h0 n0 _ s₁.heap _
  rw [e0]
  exact ⟨rfl, N0, rfl⟩

theorem d16_0 : decode jdk_21_method_11_code 0 = .ok (.aload_n 0, 1) := by decide +kernel
theorem d16_1 : decode jdk_21_method_11_code 1 = .ok (.iload_n 1, 1) := by decide +kernel
theorem d16_2 : decode jdk_21_method_11_code 2 = .ok (.aaload, 1) := by decide +kernel
theorem d16_3 : decode jdk_21_method_11_code 3 = .ok (.astore_n 2, 1) := by decide +kernel
theorem d16_4 : decode jdk_21_method_11_code 4 = .ok (.aload_n 2, 1) := by decide +kernel
theorem d16_5 : decode jdk_21_method_11_code 5 = .ok (.ifnonnull 11, 3) := by decide +kernel
theorem d16_16 : decode jdk_21_method_11_code 16 = .ok (.aload_n 2, 1) := by decide +kernel
theorem d16_17 : decode jdk_21_method_11_code 17 = .ok (.areturn, 1) := by decide +kernel
theorem ef_16_0 (m : MethodId) (a0 : Addr) : entryFrame m #[(.ref a0), (.int (0 : Int32))] 3 = mkF m 0 #[rv a0, iv (0 : Int32), un] [] := by first | (simp [entryFrame, mkF, argsToLocals, Value.category]; done) | rfl
def Q16_0 (Z : State) (a0 : Addr) (ke : ClassId) (i0 : Addr) (i1 : Addr) (h0 : Heap) (n0 : Nat) (v : Option Value) (h : Heap) (L : List Loc) : Prop := v = some (.ref i0) ∧ Fr n0 L ∧ h = h0
set_option maxRecDepth 65536 in
set_option maxHeartbeats 40000000 in
theorem rm16_0 (l : Launch) (Z : State) (ar : Array Value) (hw : ∀ d ∈ tables_1, d.before ar Z = true) (ws : List Jvm.Cond) (a0 : Addr) (ke : ClassId) (i0 : Addr) (i1 : Addr) (h0 : Heap) (n0 : Nat) (O0 : Old Z n0 h0) (pf0 : Arv Z h0 a0 ke (.object "java/lang/Object") (17 : Int32) [(.ref i0), (.ref i1)] .null) :
    MetFree l y16 (head1 (Jvm.Cond.code y16 jdk_21_method_11_code 3 (some (.object "java/lang/Object")) :: ws) ({ frames := 0, cells := 0, slots := 0, locals := 0 } : Room)) (fun a U => a = #[(.ref a0), (.int (0 : Int32))] ∧ Z.Warmed39 U.vm ∧ U.heap = h0) (fun _ _ _ _ _ => True) (fun _ U o U' => ∃ v L, o = .returned v ∧ Q16_0 Z a0 ke i0 i1 h0 n0 v U'.heap L ∧ FrameEnd U o U' L ({ frames := 0, cells := 0, slots := 0, locals := 0 } : Room).cells ({ frames := 0, cells := 0, slots := 0, locals := 0 } : Room).slots) := by
 refine MetFree.of_bodySF (plainFor_of_name pn_1) hisR ?_
 intro p e s m args below meth c s₁ Bd hml0 hP hK
 obtain ⟨rfl, hZ, hh⟩ := hP
 have hx := Bd.exec
 have hby := Bd.bytes
 have hml : c.maxLocals = 3 := hml0
 have hown : s.vm.findClass "java/util/ArrayDeque" = some m.cls := findClass_of_methodNamed Bd.named
 have hnm := (name_of_methodNamed Bd.named Bd.method).1
 have X0 : Stand p l e ({ frames := 0, cells := 0, slots := 0, locals := 0 } : Room) s m #[(.ref a0), (.int (0 : Int32))] below meth c s₁ [] 0 0 := Stand.of_body Bd
 have e0 : s₁.heap = h0 := by rw [← hh, Bd.state]; rfl
 have N0 := Fr.nil n0
 have Z0 : n0 ≤ h0.size := Nat.le_trans (Nat.le_of_eq O0.1.symm) O0.2.1
 obtain ⟨S0, hS0⟩ : ∃ z, z = s₁.setTop (entryFrame m #[(.ref a0), (.int (0 : Int32))] 3) := ⟨_, rfl⟩
 have pre0 : ∀ tg, AT p e below s₁ m 0 #[rv a0, iv (0 : Int32), un] [] tg → Steps p.tables e below S0 tg := fun tg kg => by rw [hS0]; exact castTop (ef_16_0 m a0) kg
 obtain ⟨cl1, Ar1, q1, S1, N1, H1, G1⟩ := id pf0
 have hin1 := own_in (0 : Int32) S1 ⟨by decide, by decide⟩
 have hat1 : cl1.slots[((0 : Int32)).toNatClampNeg]? = some (.ref i0) := Has.at H1 hin1 rfl
 obtain ⟨fs, hr, hrun, hended, hW, hsame⟩ := X0.leave (v := some (.ref i0)) (fun h => by rw [Bd.returns] at h; cases h)
 subst hS0
 refine ⟨_, _, pre0 _ ?_, hrun, hended, _, _, rfl, ?_, ⟨_, rfl⟩, hW, hsame.mono (by decide) (by decide)⟩
 ·
  refine XS.aloadN X0.here hx rfl (hb hby d16_0) rfl rfl ?_
  show AT p e below s₁ m 1 #[rv a0, iv (0 : Int32), un] [(.ref a0)] _
  refine XS.iloadN X0.here hx rfl (hb hby d16_1) rfl ?_
  show AT p e below s₁ m 2 #[rv a0, iv (0 : Int32), un] [(.int (0 : Int32)), (.ref a0)] _
  refine X0.aaload hx (j := (0 : Int32)) (v := (.ref i0)) (by rw [e0]; exact Ar1.1) (State.isArrayOf_alike hZ.alike Ar1.2.1) rfl Ar1.2.2 hin1 hat1 (g := (mkF m 2 #[rv a0, iv (0 : Int32), un] [(.int (0 : Int32)), (.ref a0)])) rfl rfl (hb hby d16_2) _ ?_
  show AT p e below s₁ m 3 #[rv a0, iv (0 : Int32), un] [(.ref i0)] _
  refine XS.astoreN X0.here hx rfl (hb hby d16_3) rfl rfl (l' := #[rv a0, iv (0 : Int32), rv i0]) rfl ?_
  show AT p e below s₁ m 4 #[rv a0, iv (0 : Int32), rv i0] [] _
  refine XS.aloadN X0.here hx rfl (hb hby d16_4) rfl rfl ?_
  show AT p e below s₁ m 5 #[rv a0, iv (0 : Int32), rv i0] [(.ref i0)] _
  refine XS.ifnonnullYes X0.here hx rfl (pc0 := 5) (pc' := 16) rfl (hb hby d16_5) rfl (by decide) (by decide) ?_
  show AT p e below s₁ m 16 #[rv a0, iv (0 : Int32), rv i0] [] _
  refine XS.aloadN X0.here hx rfl (hb hby d16_16) rfl rfl ?_
  show AT p e below s₁ m 17 #[rv a0, iv (0 : Int32), rv i0] [(.ref i0)] _
  exact retOut X0 hx (t := (.object "java/lang/Object")) (i := .areturn) Bd.returns rfl (Or.inr (Or.inr (Or.inr (Or.inr ⟨rfl, rfl, rfl⟩)))) (hb hby d16_17) hr
 ·
  show Q16_0 Z a0 ke i0 i1 h0 n0 _ s₁.heap _
  rw [e0]
  exact ⟨rfl, N0, rfl⟩

theorem ef_16_1 (m : MethodId) (a0 : Addr) : entryFrame m #[(.ref a0), (.int (1 : Int32))] 3 = mkF m 0 #[rv a0, iv (1 : Int32), un] [] := by first | (simp [entryFrame, mkF, argsToLocals, Value.category]; done) | rfl
def Q16_1 (Z : State) (a0 : Addr) (ke : ClassId) (i0 : Addr) (i1 : Addr) (h0 : Heap) (n0 : Nat) (v : Option Value) (h : Heap) (L : List Loc) : Prop := v = some (.ref i1) ∧ Fr n0 L ∧ h = h0
set_option maxRecDepth 65536 in
set_option maxHeartbeats 40000000 in
theorem rm16_1 (l : Launch) (Z : State) (ar : Array Value) (hw : ∀ d ∈ tables_1, d.before ar Z = true) (ws : List Jvm.Cond) (a0 : Addr) (ke : ClassId) (i0 : Addr) (i1 : Addr) (h0 : Heap) (n0 : Nat) (O0 : Old Z n0 h0) (pf0 : Arv Z h0 a0 ke (.object "java/lang/Object") (17 : Int32) [(.ref i0), (.ref i1)] .null) :
    MetFree l y16 (head1 (Jvm.Cond.code y16 jdk_21_method_11_code 3 (some (.object "java/lang/Object")) :: ws) ({ frames := 0, cells := 0, slots := 0, locals := 0 } : Room)) (fun a U => a = #[(.ref a0), (.int (1 : Int32))] ∧ Z.Warmed39 U.vm ∧ U.heap = h0) (fun _ _ _ _ _ => True) (fun _ U o U' => ∃ v L, o = .returned v ∧ Q16_1 Z a0 ke i0 i1 h0 n0 v U'.heap L ∧ FrameEnd U o U' L ({ frames := 0, cells := 0, slots := 0, locals := 0 } : Room).cells ({ frames := 0, cells := 0, slots := 0, locals := 0 } : Room).slots) := by
 refine MetFree.of_bodySF (plainFor_of_name pn_1) hisR ?_
 intro p e s m args below meth c s₁ Bd hml0 hP hK
 obtain ⟨rfl, hZ, hh⟩ := hP
 have hx := Bd.exec
 have hby := Bd.bytes
 have hml : c.maxLocals = 3 := hml0
 have hown : s.vm.findClass "java/util/ArrayDeque" = some m.cls := findClass_of_methodNamed Bd.named
 have hnm := (name_of_methodNamed Bd.named Bd.method).1
 have X0 : Stand p l e ({ frames := 0, cells := 0, slots := 0, locals := 0 } : Room) s m #[(.ref a0), (.int (1 : Int32))] below meth c s₁ [] 0 0 := Stand.of_body Bd
 have e0 : s₁.heap = h0 := by rw [← hh, Bd.state]; rfl
 have N0 := Fr.nil n0
 have Z0 : n0 ≤ h0.size := Nat.le_trans (Nat.le_of_eq O0.1.symm) O0.2.1
 obtain ⟨S0, hS0⟩ : ∃ z, z = s₁.setTop (entryFrame m #[(.ref a0), (.int (1 : Int32))] 3) := ⟨_, rfl⟩
 have pre0 : ∀ tg, AT p e below s₁ m 0 #[rv a0, iv (1 : Int32), un] [] tg → Steps p.tables e below S0 tg := fun tg kg => by rw [hS0]; exact castTop (ef_16_1 m a0) kg
 obtain ⟨cl1, Ar1, q1, S1, N1, H1, G1⟩ := id pf0
 have hin1 := own_in (1 : Int32) S1 ⟨by decide, by decide⟩
 have hat1 : cl1.slots[((1 : Int32)).toNatClampNeg]? = some (.ref i1) := Has.at H1 hin1 rfl
 obtain ⟨fs, hr, hrun, hended, hW, hsame⟩ := X0.leave (v := some (.ref i1)) (fun h => by rw [Bd.returns] at h; cases h)
 subst hS0
 refine ⟨_, _, pre0 _ ?_, hrun, hended, _, _, rfl, ?_, ⟨_, rfl⟩, hW, hsame.mono (by decide) (by decide)⟩
 ·
  refine XS.aloadN X0.here hx rfl (hb hby d16_0) rfl rfl ?_
  show AT p e below s₁ m 1 #[rv a0, iv (1 : Int32), un] [(.ref a0)] _
  refine XS.iloadN X0.here hx rfl (hb hby d16_1) rfl ?_
  show AT p e below s₁ m 2 #[rv a0, iv (1 : Int32), un] [(.int (1 : Int32)), (.ref a0)] _
  refine X0.aaload hx (j := (1 : Int32)) (v := (.ref i1)) (by rw [e0]; exact Ar1.1) (State.isArrayOf_alike hZ.alike Ar1.2.1) rfl Ar1.2.2 hin1 hat1 (g := (mkF m 2 #[rv a0, iv (1 : Int32), un] [(.int (1 : Int32)), (.ref a0)])) rfl rfl (hb hby d16_2) _ ?_
  show AT p e below s₁ m 3 #[rv a0, iv (1 : Int32), un] [(.ref i1)] _
  refine XS.astoreN X0.here hx rfl (hb hby d16_3) rfl rfl (l' := #[rv a0, iv (1 : Int32), rv i1]) rfl ?_
  show AT p e below s₁ m 4 #[rv a0, iv (1 : Int32), rv i1] [] _
  refine XS.aloadN X0.here hx rfl (hb hby d16_4) rfl rfl ?_
  show AT p e below s₁ m 5 #[rv a0, iv (1 : Int32), rv i1] [(.ref i1)] _
  refine XS.ifnonnullYes X0.here hx rfl (pc0 := 5) (pc' := 16) rfl (hb hby d16_5) rfl (by decide) (by decide) ?_
  show AT p e below s₁ m 16 #[rv a0, iv (1 : Int32), rv i1] [] _
  refine XS.aloadN X0.here hx rfl (hb hby d16_16) rfl rfl ?_
  show AT p e below s₁ m 17 #[rv a0, iv (1 : Int32), rv i1] [(.ref i1)] _
  exact retOut X0 hx (t := (.object "java/lang/Object")) (i := .areturn) Bd.returns rfl (Or.inr (Or.inr (Or.inr (Or.inr ⟨rfl, rfl, rfl⟩)))) (hb hby d16_17) hr
 ·
  show Q16_1 Z a0 ke i0 i1 h0 n0 _ s₁.heap _
  rw [e0]
  exact ⟨rfl, N0, rfl⟩

theorem d17_0 : decode jdk_21_method_22_code 0 = .ok (.aload_n 0, 1) := by decide +kernel
theorem d17_1 : decode jdk_21_method_22_code 1 = .ok (.getfield 3, 3) := by decide +kernel
theorem d17_4 : decode jdk_21_method_22_code 4 = .ok (.aload_n 0, 1) := by decide +kernel
theorem d17_5 : decode jdk_21_method_22_code 5 = .ok (.getfield 24, 3) := by decide +kernel
theorem d17_8 : decode jdk_21_method_22_code 8 = .ok (.invokestatic 103, 3) := by decide +kernel
theorem d17_11 : decode jdk_21_method_22_code 11 = .ok (.astore_n 1, 1) := by decide +kernel
theorem d17_12 : decode jdk_21_method_22_code 12 = .ok (.aload_n 1, 1) := by decide +kernel
theorem d17_13 : decode jdk_21_method_22_code 13 = .ok (.ifnonnull 11, 3) := by decide +kernel
theorem d17_24 : decode jdk_21_method_22_code 24 = .ok (.aload_n 1, 1) := by decide +kernel
theorem d17_25 : decode jdk_21_method_22_code 25 = .ok (.areturn, 1) := by decide +kernel
theorem ef_17_1 (m : MethodId) (a0 : Addr) : entryFrame m #[(.ref a0)] 2 = mkF m 0 #[rv a0, un] [] := by first | (simp [entryFrame, mkF, argsToLocals, Value.category]; done) | rfl
def Q17_1 (Z : State) (a0 : Addr) (es : Addr) (ke : ClassId) (i0 : Addr) (h0 : Heap) (n0 : Nat) (v : Option Value) (h : Heap) (L : List Loc) : Prop := v = some (.ref i0) ∧ Fr n0 L ∧ h = h0
set_option maxRecDepth 65536 in
set_option maxHeartbeats 40000000 in
theorem rm17_1 (l : Launch) (Z : State) (ar : Array Value) (hw : ∀ d ∈ tables_1, d.before ar Z = true) (ws : List Jvm.Cond) (a0 : Addr) (es : Addr) (ke : ClassId) (i0 : Addr) (h0 : Heap) (n0 : Nat) (O0 : Old Z n0 h0) (pf0 : Fld Z h0 a0 "java/util/ArrayDeque" "elements" "[Ljava/lang/Object;" (.ref es)) (pf1 : Fld Z h0 a0 "java/util/ArrayDeque" "head" "I" (.int (0 : Int32))) (pf2 : Fld Z h0 a0 "java/util/ArrayDeque" "tail" "I" (.int (1 : Int32))) (pf3 : Arv Z h0 es ke (.object "java/lang/Object") (17 : Int32) [(.ref i0), .null] .null) :
    MetFree l y17 (head1 (Jvm.Cond.code y17 jdk_21_method_22_code 2 (some (.object "java/lang/Object")) :: ws) ({ frames := 1, cells := 0, slots := 0, locals := 13 } : Room)) (fun a U => a = #[(.ref a0)] ∧ Z.Warmed39 U.vm ∧ U.heap = h0) (fun _ _ _ _ _ => True) (fun _ U o U' => ∃ v L, o = .returned v ∧ Q17_1 Z a0 es ke i0 h0 n0 v U'.heap L ∧ FrameEnd U o U' L ({ frames := 1, cells := 0, slots := 0, locals := 13 } : Room).cells ({ frames := 1, cells := 0, slots := 0, locals := 13 } : Room).slots) := by
 refine MetFree.of_bodySF (plainFor_of_name pn_1) hisR ?_
 intro p e s m args below meth c s₁ Bd hml0 hP hK
 obtain ⟨rfl, hZ, hh⟩ := hP
 have hx := Bd.exec
 have hby := Bd.bytes
 have hml : c.maxLocals = 2 := hml0
 have hown : s.vm.findClass "java/util/ArrayDeque" = some m.cls := findClass_of_methodNamed Bd.named
 have hnm := (name_of_methodNamed Bd.named Bd.method).1
 have X0 : Stand p l e ({ frames := 1, cells := 0, slots := 0, locals := 13 } : Room) s m #[(.ref a0)] below meth c s₁ [] 0 0 := Stand.of_body Bd
 have e0 : s₁.heap = h0 := by rw [← hh, Bd.state]; rfl
 have N0 := Fr.nil n0
 have Z0 : n0 ≤ h0.size := Nat.le_trans (Nat.le_of_eq O0.1.symm) O0.2.1
 obtain ⟨S0, hS0⟩ : ∃ z, z = s₁.setTop (entryFrame m #[(.ref a0)] 2) := ⟨_, rfl⟩
 have pre0 : ∀ tg, AT p e below s₁ m 0 #[rv a0, un] [] tg → Steps p.tables e below S0 tg := fun tg kg => by rw [hS0]; exact castTop (ef_17_1 m a0) kg
 obtain ⟨T1, X1, e1, st1⟩ := getF X0 hx hZ hown (host := "") (Or.inl (ow hw 24 rfl)) Via.refl e0 pf0 (g := (mkF m 1 #[rv a0, un] [(.ref a0)])) rfl rfl (hb hby d17_1)
 obtain ⟨T2, X2, e2, st2⟩ := getF X1 hx hZ hown (host := "") (Or.inl (ow hw 38 rfl)) Via.refl e1 pf1 (g := (mkF m 5 #[rv a0, un] [(.ref a0), (.ref es)])) rfl rfl (hb hby d17_5)
 obtain ⟨_, _, ⟨T3, L3, k3, n3⟩, -, X3, ⟨Lc3, hQ3, l3, y3, z3⟩, st3⟩ := Jvm.LawKit.callS X2 hx (y := y18) hown (mvT hZ (ow hw 119 rfl)) (mvT hZ (ow hw 120 rfl)) (mvT hZ (ow hw 11 rfl)) (mvT hZ (ow hw 121 rfl)) (by decide) (backOf (W := 0) (rm18 l Z ar hw [] es ke i0 h0 n0 O0 pf3) hZ (ow hw 121 rfl) (ow hw 11 rfl) (by decide) (by decide)) (g := (mkF m 8 #[rv a0, un] [(.int (0 : Int32)), (.ref es)])) rfl (by rw [hml]; rfl) (argsL := [(.ref es), (.int (0 : Int32))]) (rest := []) (lenOf pd_3 rfl) rfl (by show 2 * 0 + _ ≤ _; exact Nat.le_of_eq rfl) (hb hby d17_8) (fun _ _ => ⟨rfl, e2, (by decide : 0 + 0 ≤ _), (by decide : 0 + 0 ≤ _)⟩)
 dsimp only [Pt.U, Pt.locs, Pt.cells, Pt.slots] at X3 l3 y3 z3 st3 hQ3
 subst l3 y3 z3
 obtain ⟨rfl, N3q, e3⟩ := hQ3
 have N3 := Fr.app N0 N3q
 obtain ⟨fs, hr, hrun, hended, hW, hsame⟩ := X3.leave (v := some (.ref i0)) (fun h => by rw [Bd.returns] at h; cases h)
 subst hS0
 refine ⟨_, _, pre0 _ ?_, hrun, hended, _, _, rfl, ?_, ⟨_, rfl⟩, hW, hsame.mono (by decide) (by decide)⟩
 ·
  refine XS.aloadN X0.here hx rfl (hb hby d17_0) rfl rfl ?_
  show AT p e below s₁ m 1 #[rv a0, un] [(.ref a0)] _
  refine st1 _ ?_
  show AT p e below T1 m 4 #[rv a0, un] [(.ref es)] _
  refine XS.aloadN X1.here hx rfl (hb hby d17_4) rfl rfl ?_
  show AT p e below T1 m 5 #[rv a0, un] [(.ref a0), (.ref es)] _
  refine st2 _ ?_
  show AT p e below T2 m 8 #[rv a0, un] [(.int (0 : Int32)), (.ref es)] _
  refine st3 _ ?_
  show AT p e below T3 m 11 #[rv a0, un] [(.ref i0)] _
  refine XS.astoreN X3.here hx rfl (hb hby d17_11) rfl rfl (l' := #[rv a0, rv i0]) rfl ?_
  show AT p e below T3 m 12 #[rv a0, rv i0] [] _
  refine XS.aloadN X3.here hx rfl (hb hby d17_12) rfl rfl ?_
  show AT p e below T3 m 13 #[rv a0, rv i0] [(.ref i0)] _
  refine XS.ifnonnullYes X3.here hx rfl (pc0 := 13) (pc' := 24) rfl (hb hby d17_13) rfl (by decide) (by decide) ?_
  show AT p e below T3 m 24 #[rv a0, rv i0] [] _
  refine XS.aloadN X3.here hx rfl (hb hby d17_24) rfl rfl ?_
  show AT p e below T3 m 25 #[rv a0, rv i0] [(.ref i0)] _
  exact retOut X3 hx (t := (.object "java/lang/Object")) (i := .areturn) Bd.returns rfl (Or.inr (Or.inr (Or.inr (Or.inr ⟨rfl, rfl, rfl⟩)))) (hb hby d17_25) hr
 ·
  show Q17_1 Z a0 es ke i0 h0 n0 _ T3.heap _
  rw [e3]
  exact ⟨rfl, N3, rfl⟩

theorem ef_17_2 (m : MethodId) (a0 : Addr) : entryFrame m #[(.ref a0)] 2 = mkF m 0 #[rv a0, un] [] := by first | (simp [entryFrame, mkF, argsToLocals, Value.category]; done) | rfl
def Q17_2 (Z : State) (a0 : Addr) (es : Addr) (ke : ClassId) (i0 : Addr) (i1 : Addr) (h0 : Heap) (n0 : Nat) (v : Option Value) (h : Heap) (L : List Loc) : Prop := v = some (.ref i0) ∧ Fr n0 L ∧ h = h0
set_option maxRecDepth 65536 in
set_option maxHeartbeats 40000000 in
theorem rm17_2 (l : Launch) (Z : State) (ar : Array Value) (hw : ∀ d ∈ tables_1, d.before ar Z = true) (ws : List Jvm.Cond) (a0 : Addr) (es : Addr) (ke : ClassId) (i0 : Addr) (i1 : Addr) (h0 : Heap) (n0 : Nat) (O0 : Old Z n0 h0) (pf0 : Fld Z h0 a0 "java/util/ArrayDeque" "elements" "[Ljava/lang/Object;" (.ref es)) (pf1 : Fld Z h0 a0 "java/util/ArrayDeque" "head" "I" (.int (0 : Int32))) (pf2 : Fld Z h0 a0 "java/util/ArrayDeque" "tail" "I" (.int (2 : Int32))) (pf3 : Arv Z h0 es ke (.object "java/lang/Object") (17 : Int32) [(.ref i0), (.ref i1)] .null) :
    MetFree l y17 (head1 (Jvm.Cond.code y17 jdk_21_method_22_code 2 (some (.object "java/lang/Object")) :: ws) ({ frames := 1, cells := 0, slots := 0, locals := 13 } : Room)) (fun a U => a = #[(.ref a0)] ∧ Z.Warmed39 U.vm ∧ U.heap = h0) (fun _ _ _ _ _ => True) (fun _ U o U' => ∃ v L, o = .returned v ∧ Q17_2 Z a0 es ke i0 i1 h0 n0 v U'.heap L ∧ FrameEnd U o U' L ({ frames := 1, cells := 0, slots := 0, locals := 13 } : Room).cells ({ frames := 1, cells := 0, slots := 0, locals := 13 } : Room).slots) := by
 refine MetFree.of_bodySF (plainFor_of_name pn_1) hisR ?_
 intro p e s m args below meth c s₁ Bd hml0 hP hK
 obtain ⟨rfl, hZ, hh⟩ := hP
 have hx := Bd.exec
 have hby := Bd.bytes
 have hml : c.maxLocals = 2 := hml0
 have hown : s.vm.findClass "java/util/ArrayDeque" = some m.cls := findClass_of_methodNamed Bd.named
 have hnm := (name_of_methodNamed Bd.named Bd.method).1
 have X0 : Stand p l e ({ frames := 1, cells := 0, slots := 0, locals := 13 } : Room) s m #[(.ref a0)] below meth c s₁ [] 0 0 := Stand.of_body Bd
 have e0 : s₁.heap = h0 := by rw [← hh, Bd.state]; rfl
 have N0 := Fr.nil n0
 have Z0 : n0 ≤ h0.size := Nat.le_trans (Nat.le_of_eq O0.1.symm) O0.2.1
 obtain ⟨S0, hS0⟩ : ∃ z, z = s₁.setTop (entryFrame m #[(.ref a0)] 2) := ⟨_, rfl⟩
 have pre0 : ∀ tg, AT p e below s₁ m 0 #[rv a0, un] [] tg → Steps p.tables e below S0 tg := fun tg kg => by rw [hS0]; exact castTop (ef_17_2 m a0) kg
 obtain ⟨T1, X1, e1, st1⟩ := getF X0 hx hZ hown (host := "") (Or.inl (ow hw 24 rfl)) Via.refl e0 pf0 (g := (mkF m 1 #[rv a0, un] [(.ref a0)])) rfl rfl (hb hby d17_1)
 obtain ⟨T2, X2, e2, st2⟩ := getF X1 hx hZ hown (host := "") (Or.inl (ow hw 38 rfl)) Via.refl e1 pf1 (g := (mkF m 5 #[rv a0, un] [(.ref a0), (.ref es)])) rfl rfl (hb hby d17_5)
 obtain ⟨_, _, ⟨T3, L3, k3, n3⟩, -, X3, ⟨Lc3, hQ3, l3, y3, z3⟩, st3⟩ := Jvm.LawKit.callS X2 hx (y := y18) hown (mvT hZ (ow hw 119 rfl)) (mvT hZ (ow hw 120 rfl)) (mvT hZ (ow hw 11 rfl)) (mvT hZ (ow hw 121 rfl)) (by decide) (backOf (W := 0) (rm18_2 l Z ar hw [] es ke i0 i1 h0 n0 O0 pf3) hZ (ow hw 121 rfl) (ow hw 11 rfl) (by decide) (by decide)) (g := (mkF m 8 #[rv a0, un] [(.int (0 : Int32)), (.ref es)])) rfl (by rw [hml]; rfl) (argsL := [(.ref es), (.int (0 : Int32))]) (rest := []) (lenOf pd_3 rfl) rfl (by show 2 * 0 + _ ≤ _; exact Nat.le_of_eq rfl) (hb hby d17_8) (fun _ _ => ⟨rfl, e2, (by decide : 0 + 0 ≤ _), (by decide : 0 + 0 ≤ _)⟩)
 dsimp only [Pt.U, Pt.locs, Pt.cells, Pt.slots] at X3 l3 y3 z3 st3 hQ3
 subst l3 y3 z3
 obtain ⟨rfl, N3q, e3⟩ := hQ3
 have N3 := Fr.app N0 N3q
 obtain ⟨fs, hr, hrun, hended, hW, hsame⟩ := X3.leave (v := some (.ref i0)) (fun h => by rw [Bd.returns] at h; cases h)
 subst hS0
 refine ⟨_, _, pre0 _ ?_, hrun, hended, _, _, rfl, ?_, ⟨_, rfl⟩, hW, hsame.mono (by decide) (by decide)⟩
 ·
  refine XS.aloadN X0.here hx rfl (hb hby d17_0) rfl rfl ?_
  show AT p e below s₁ m 1 #[rv a0, un] [(.ref a0)] _
  refine st1 _ ?_
  show AT p e below T1 m 4 #[rv a0, un] [(.ref es)] _
  refine XS.aloadN X1.here hx rfl (hb hby d17_4) rfl rfl ?_
  show AT p e below T1 m 5 #[rv a0, un] [(.ref a0), (.ref es)] _
  refine st2 _ ?_
  show AT p e below T2 m 8 #[rv a0, un] [(.int (0 : Int32)), (.ref es)] _
  refine st3 _ ?_
  show AT p e below T3 m 11 #[rv a0, un] [(.ref i0)] _
  refine XS.astoreN X3.here hx rfl (hb hby d17_11) rfl rfl (l' := #[rv a0, rv i0]) rfl ?_
  show AT p e below T3 m 12 #[rv a0, rv i0] [] _
  refine XS.aloadN X3.here hx rfl (hb hby d17_12) rfl rfl ?_
  show AT p e below T3 m 13 #[rv a0, rv i0] [(.ref i0)] _
  refine XS.ifnonnullYes X3.here hx rfl (pc0 := 13) (pc' := 24) rfl (hb hby d17_13) rfl (by decide) (by decide) ?_
  show AT p e below T3 m 24 #[rv a0, rv i0] [] _
  refine XS.aloadN X3.here hx rfl (hb hby d17_24) rfl rfl ?_
  show AT p e below T3 m 25 #[rv a0, rv i0] [(.ref i0)] _
  exact retOut X3 hx (t := (.object "java/lang/Object")) (i := .areturn) Bd.returns rfl (Or.inr (Or.inr (Or.inr (Or.inr ⟨rfl, rfl, rfl⟩)))) (hb hby d17_25) hr
 ·
  show Q17_2 Z a0 es ke i0 i1 h0 n0 _ T3.heap _
  rw [e3]
  exact ⟨rfl, N3, rfl⟩

theorem d14_0 : decode jdk_54_method_1_code 0 = .ok (.aload_n 0, 1) := by decide +kernel
theorem d14_1 : decode jdk_54_method_1_code 1 = .ok (.aload_n 1, 1) := by decide +kernel
theorem d14_2 : decode jdk_54_method_1_code 2 = .ok (.putfield 1, 3) := by decide +kernel
theorem d14_5 : decode jdk_54_method_1_code 5 = .ok (.aload_n 0, 1) := by decide +kernel
theorem d14_6 : decode jdk_54_method_1_code 6 = .ok (.invokespecial 7, 3) := by decide +kernel
theorem d14_9 : decode jdk_54_method_1_code 9 = .ok (.aload_n 0, 1) := by decide +kernel
theorem d14_10 : decode jdk_54_method_1_code 10 = .ok (.aload_n 0, 1) := by decide +kernel
theorem d14_11 : decode jdk_54_method_1_code 11 = .ok (.getfield 1, 3) := by decide +kernel
theorem d14_14 : decode jdk_54_method_1_code 14 = .ok (.invokevirtual 13, 3) := by decide +kernel
theorem d14_17 : decode jdk_54_method_1_code 17 = .ok (.putfield 19, 3) := by decide +kernel
theorem d14_20 : decode jdk_54_method_1_code 20 = .ok (.aload_n 0, 1) := by decide +kernel
theorem d14_21 : decode jdk_54_method_1_code 21 = .ok (.iconst (-1), 1) := by decide +kernel
theorem d14_22 : decode jdk_54_method_1_code 22 = .ok (.putfield 23, 3) := by decide +kernel
theorem d14_25 : decode jdk_54_method_1_code 25 = .ok (.aload_n 0, 1) := by decide +kernel
theorem d14_26 : decode jdk_54_method_1_code 26 = .ok (.aload_n 1, 1) := by decide +kernel
theorem d14_27 : decode jdk_54_method_1_code 27 = .ok (.getfield 26, 3) := by decide +kernel
theorem d14_30 : decode jdk_54_method_1_code 30 = .ok (.putfield 29, 3) := by decide +kernel
theorem d14_33 : decode jdk_54_method_1_code 33 = .ok (.return_, 1) := by decide +kernel
theorem ef_14 (m : MethodId) (a0 : Addr) (a1 : Addr) : entryFrame m #[(.ref a0), (.ref a1)] 2 = mkF m 0 #[rv a0, rv a1] [] := by first | (simp [entryFrame, mkF, argsToLocals, Value.category]; done) | rfl
def Q14 (Z : State) (a0 : Addr) (a1 : Addr) (es : Addr) (ke : ClassId) (i0 : Addr) (i1 : Addr) (h0 : Heap) (n0 : Nat) (v : Option Value) (h : Heap) (L : List Loc) : Prop := v = none ∧ Fr n0 L ∧ Keep h0 h [a0] ∧ Exa Z h a0 "java/util/ArrayDeque$DeqIterator" ∧ Fld Z h a0 "java/util/ArrayDeque$DeqIterator" "this$0" "Ljava/util/ArrayDeque;" (.ref a1) ∧ Fld Z h a0 "java/util/ArrayDeque$DeqIterator" "cursor" "I" (.int (0 : Int32)) ∧ Fld Z h a0 "java/util/ArrayDeque$DeqIterator" "remaining" "I" (.int (2 : Int32)) ∧ Fld Z h a0 "java/util/ArrayDeque$DeqIterator" "lastRet" "I" (.int (-1 : Int32))
set_option maxRecDepth 65536 in
set_option maxHeartbeats 40000000 in
theorem rm14 (l : Launch) (Z : State) (ar : Array Value) (hw : ∀ d ∈ tables_1, d.before ar Z = true) (ws : List Jvm.Cond) (a0 : Addr) (a1 : Addr) (es : Addr) (ke : ClassId) (i0 : Addr) (i1 : Addr) (h0 : Heap) (n0 : Nat) (O0 : Old Z n0 h0) (pf0 : Exa Z h0 a0 "java/util/ArrayDeque$DeqIterator") (pf1 : Fld Z h0 a0 "java/util/ArrayDeque$DeqIterator" "this$0" "Ljava/util/ArrayDeque;" .null) (pf2 : Fld Z h0 a0 "java/util/ArrayDeque$DeqIterator" "cursor" "I" (.int (0 : Int32))) (pf3 : Fld Z h0 a0 "java/util/ArrayDeque$DeqIterator" "remaining" "I" (.int (0 : Int32))) (pf4 : Fld Z h0 a0 "java/util/ArrayDeque$DeqIterator" "lastRet" "I" (.int (0 : Int32))) (pf5 : n0 ≤ a0) (pf6 : Exa Z h0 a1 "java/util/ArrayDeque") (pf7 : Fld Z h0 a1 "java/util/ArrayDeque" "elements" "[Ljava/lang/Object;" (.ref es)) (pf8 : Fld Z h0 a1 "java/util/ArrayDeque" "head" "I" (.int (0 : Int32))) (pf9 : Fld Z h0 a1 "java/util/ArrayDeque" "tail" "I" (.int (2 : Int32))) (pf10 : Arv Z h0 es ke (.object "java/lang/Object") (17 : Int32) [(.ref i0), (.ref i1)] .null) (pf11 : Ovr Z ke "java/lang/Object") (pf12 : a0 ≠ a1) (pf13 : a0 ≠ es) :
    MetFree l y14 (head1 (Jvm.Cond.code y14 jdk_54_method_1_code 2 none :: ws) ({ frames := 2, cells := 0, slots := 0, locals := 27 } : Room)) (fun a U => a = #[(.ref a0), (.ref a1)] ∧ Z.Warmed39 U.vm ∧ U.heap = h0) (fun _ _ _ _ _ => True) (fun _ U o U' => ∃ v L, o = .returned v ∧ Q14 Z a0 a1 es ke i0 i1 h0 n0 v U'.heap L ∧ FrameEnd U o U' L ({ frames := 2, cells := 0, slots := 0, locals := 27 } : Room).cells ({ frames := 2, cells := 0, slots := 0, locals := 27 } : Room).slots) := by
 refine MetFree.of_bodySF (plainFor_of_name pn_3) hisR ?_
 intro p e s m args below meth c s₁ Bd hml0 hP hK
 obtain ⟨rfl, hZ, hh⟩ := hP
 have hx := Bd.exec
 have hby := Bd.bytes
 have hml : c.maxLocals = 2 := hml0
 have hown : s.vm.findClass "java/util/ArrayDeque$DeqIterator" = some m.cls := findClass_of_methodNamed Bd.named
 have hnm := (name_of_methodNamed Bd.named Bd.method).1
 have X0 : Stand p l e ({ frames := 2, cells := 0, slots := 0, locals := 27 } : Room) s m #[(.ref a0), (.ref a1)] below meth c s₁ [] 0 0 := Stand.of_body Bd
 have e0 : s₁.heap = h0 := by rw [← hh, Bd.state]; rfl
 have N0 := Fr.nil n0
 have Z0 : n0 ≤ h0.size := Nat.le_trans (Nat.le_of_eq O0.1.symm) O0.2.1
 obtain ⟨S0, hS0⟩ : ∃ z, z = s₁.setTop (entryFrame m #[(.ref a0), (.ref a1)] 2) := ⟨_, rfl⟩
 have pre0 : ∀ tg, AT p e below s₁ m 0 #[rv a0, rv a1] [] tg → Steps p.tables e below S0 tg := fun tg kg => by rw [hS0]; exact castTop (ef_14 m a0 a1) kg
 obtain ⟨T1, h1, X1, e1, W1, st1⟩ := putF X0 hx hZ hown (host := "") (Or.inl (ow hw 83 rfl)) Via.refl e0 pf1 pf0 (Or.inr ⟨(ow hw 84 rfl), rfl, hnm⟩) (ow hw 77 rfl) (ty := (.object "java/util/ArrayDeque")) (by decide) rfl rfl (g := (mkF m 2 #[rv a0, rv a1] [(.ref a1), (.ref a0)])) rfl rfl (hb hby d14_2)
 have E1_2 := pf0.wr W1
 have F1_3 : Fld Z h1 a0 "java/util/ArrayDeque$DeqIterator" "this$0" "Ljava/util/ArrayDeque;" (.ref a1) := pf1.same W1
 have F1_4 := pf2.other W1 (Or.inr (slot_ne (Or.inl (ow hw 93 rfl)) (Or.inr (ow hw 84 rfl)) (by decide) (t := .int) (t' := (.object "java/util/ArrayDeque")) (by decide) (by decide)))
 have F1_5 := pf3.other W1 (Or.inr (slot_ne (Or.inl (ow hw 88 rfl)) (Or.inr (ow hw 84 rfl)) (by decide) (t := .int) (t' := (.object "java/util/ArrayDeque")) (by decide) (by decide)))
 have F1_6 := pf4.other W1 (Or.inr (slot_ne (Or.inl (ow hw 90 rfl)) (Or.inr (ow hw 84 rfl)) (by decide) (t := .int) (t' := (.object "java/util/ArrayDeque")) (by decide) (by decide)))
 have E1_7 := pf6.wr W1
 have F1_8 := pf7.other W1 (Or.inl (Ne.symm pf12))
 have F1_9 := pf8.other W1 (Or.inl (Ne.symm pf12))
 have F1_10 := pf9.other W1 (Or.inl (Ne.symm pf12))
 have V1_11 := pf10.other W1 (Ne.symm pf13)
 have K1 := (Keep.refl h0 [a0]).wr W1 (Or.inl (List.mem_of_getElem? (i := 0) rfl))
 have O1 := O0.wr W1 pf5
 have N1 := Fr.snoc X1 N0 pf5
 obtain ⟨T12, X12, e12, st12⟩ := initO X1 hx hZ hown (ow hw 85 rfl) (ow hw 7 rfl) (ow hw 8 rfl) e1 (g := (mkF m 6 #[rv a0, rv a1] [(.ref a0)])) rfl (by rw [hml]; rfl) rfl (hb hby d14_6) (by decide) (W := 0) (by show 2 * 0 + _ ≤ _; exact Nat.le_of_eq rfl) (by decide)
 obtain ⟨T13, X13, e13, st13⟩ := getF X12 hx hZ hown (host := "") (Or.inl (ow hw 83 rfl)) Via.refl e12 F1_3 (g := (mkF m 11 #[rv a0, rv a1] [(.ref a0), (.ref a0)])) rfl rfl (hb hby d14_11)
 obtain ⟨cq14, kq14, q14a, q14b, q14c⟩ := isOf hZ e13 E1_7
 obtain ⟨_, _, ⟨T14, L14, k14, n14⟩, -, X14, ⟨Lc14, hQ14, l14, y14, z14⟩, st14⟩ := X13.virtualBack hx (y := y10) (z := y10) hown (mvT hZ (ow hw 86 rfl)) (mvT hZ (ow hw 58 rfl)) (notFace_of_selects (args := #[]) (mvT hZ (ow hw 60 rfl))) (mvT hZ (ow hw 60 rfl)) (mvT hZ (ow hw 59 rfl)) (by decide) (backOf (W := 1) (rm10_2 l Z ar hw [] a1 es ke i0 i1 h1 n0 O1 F1_8 F1_9 F1_10 V1_11) hZ (ow hw 61 rfl) (ow hw 11 rfl) (by decide) (by decide)) q14a q14c (g := (mkF m 14 #[rv a0, rv a1] [(.ref a1), (.ref a0)])) rfl (by rw [hml]; rfl) (Steps.refl _) (argsL := []) (rest := [(.ref a0)]) (lenOf pd_4 rfl) rfl (by show 2 * 0 + _ ≤ _; exact Nat.le_of_eq rfl) (hb hby d14_14) (fun _ _ => ⟨rfl, e13, (by decide : 0 + 0 ≤ _), (by decide : 0 + 0 ≤ _)⟩)
 dsimp only [Pt.U, Pt.locs, Pt.cells, Pt.slots] at X14 l14 y14 z14 st14 hQ14
 subst l14 y14 z14
 obtain ⟨rfl, N14q, e14⟩ := hQ14
 have N14 := Fr.app N1 N14q
 obtain ⟨T15, h15, X15, e15, W15, st15⟩ := putF X14 hx hZ hown (host := "") (Or.inl (ow hw 87 rfl)) Via.refl e14 F1_5 E1_2 (Or.inl (ow hw 88 rfl)) (ow hw 77 rfl) (ty := .int) (by decide) rfl rfl (g := (mkF m 17 #[rv a0, rv a1] [(.int (2 : Int32)), (.ref a0)])) rfl rfl (hb hby d14_17)
 have E15_16 := E1_2.wr W15
 have F15_17 := F1_3.other W15 (Or.inr (slot_ne (Or.inr (ow hw 84 rfl)) (Or.inl (ow hw 88 rfl)) (by decide) (t := (.object "java/util/ArrayDeque")) (t' := .int) (by decide) (by decide)))
 have F15_18 := F1_4.other W15 (Or.inr (slot_ne (Or.inl (ow hw 93 rfl)) (Or.inl (ow hw 88 rfl)) (by decide) (t := .int) (t' := .int) (by decide) (by decide)))
 have F15_19 : Fld Z h15 a0 "java/util/ArrayDeque$DeqIterator" "remaining" "I" (.int (2 : Int32)) := F1_5.same W15
 have F15_20 := F1_6.other W15 (Or.inr (slot_ne (Or.inl (ow hw 90 rfl)) (Or.inl (ow hw 88 rfl)) (by decide) (t := .int) (t' := .int) (by decide) (by decide)))
 have E15_21 := E1_7.wr W15
 have F15_22 := F1_8.other W15 (Or.inl (Ne.symm pf12))
 have F15_23 := F1_9.other W15 (Or.inl (Ne.symm pf12))
 have F15_24 := F1_10.other W15 (Or.inl (Ne.symm pf12))
 have V15_25 := V1_11.other W15 (Ne.symm pf13)
 have K15 := K1.wr W15 (Or.inl (List.mem_of_getElem? (i := 0) rfl))
 have O15 := O1.wr W15 pf5
 have N15 := Fr.snoc X15 N14 pf5
 obtain ⟨T26, h26, X26, e26, W26, st26⟩ := putF X15 hx hZ hown (host := "") (Or.inl (ow hw 89 rfl)) Via.refl e15 F15_20 E15_16 (Or.inl (ow hw 90 rfl)) (ow hw 77 rfl) (ty := .int) (by decide) rfl rfl (g := (mkF m 22 #[rv a0, rv a1] [(.int (-1 : Int32)), (.ref a0)])) rfl rfl (hb hby d14_22)
 have E26_27 := E15_16.wr W26
 have F26_28 := F15_17.other W26 (Or.inr (slot_ne (Or.inr (ow hw 84 rfl)) (Or.inl (ow hw 90 rfl)) (by decide) (t := (.object "java/util/ArrayDeque")) (t' := .int) (by decide) (by decide)))
 have F26_29 := F15_18.other W26 (Or.inr (slot_ne (Or.inl (ow hw 93 rfl)) (Or.inl (ow hw 90 rfl)) (by decide) (t := .int) (t' := .int) (by decide) (by decide)))
 have F26_30 := F15_19.other W26 (Or.inr (slot_ne (Or.inl (ow hw 88 rfl)) (Or.inl (ow hw 90 rfl)) (by decide) (t := .int) (t' := .int) (by decide) (by decide)))
 have F26_31 : Fld Z h26 a0 "java/util/ArrayDeque$DeqIterator" "lastRet" "I" (.int (-1 : Int32)) := F15_20.same W26
 have E26_32 := E15_21.wr W26
 have F26_33 := F15_22.other W26 (Or.inl (Ne.symm pf12))
 have F26_34 := F15_23.other W26 (Or.inl (Ne.symm pf12))
 have F26_35 := F15_24.other W26 (Or.inl (Ne.symm pf12))
 have V26_36 := V15_25.other W26 (Ne.symm pf13)
 have K26 := K15.wr W26 (Or.inl (List.mem_of_getElem? (i := 0) rfl))
 have O26 := O15.wr W26 pf5
 have N26 := Fr.snoc X26 N15 pf5
 obtain ⟨T37, X37, e37, st37⟩ := getF X26 hx hZ hown (host := "") (Or.inl (ow hw 91 rfl)) Via.refl e26 F26_34 (g := (mkF m 27 #[rv a0, rv a1] [(.ref a1), (.ref a0)])) rfl rfl (hb hby d14_27)
 obtain ⟨T38, h38, X38, e38, W38, st38⟩ := putF X37 hx hZ hown (host := "") (Or.inl (ow hw 92 rfl)) Via.refl e37 F26_29 E26_27 (Or.inl (ow hw 93 rfl)) (ow hw 77 rfl) (ty := .int) (by decide) rfl rfl (g := (mkF m 30 #[rv a0, rv a1] [(.int (0 : Int32)), (.ref a0)])) rfl rfl (hb hby d14_30)
 have E38_39 := E26_27.wr W38
 have F38_40 := F26_28.other W38 (Or.inr (slot_ne (Or.inr (ow hw 84 rfl)) (Or.inl (ow hw 93 rfl)) (by decide) (t := (.object "java/util/ArrayDeque")) (t' := .int) (by decide) (by decide)))
 have F38_41 : Fld Z h38 a0 "java/util/ArrayDeque$DeqIterator" "cursor" "I" (.int (0 : Int32)) := F26_29.same W38
 have F38_42 := F26_30.other W38 (Or.inr (slot_ne (Or.inl (ow hw 88 rfl)) (Or.inl (ow hw 93 rfl)) (by decide) (t := .int) (t' := .int) (by decide) (by decide)))
 have F38_43 := F26_31.other W38 (Or.inr (slot_ne (Or.inl (ow hw 90 rfl)) (Or.inl (ow hw 93 rfl)) (by decide) (t := .int) (t' := .int) (by decide) (by decide)))
 have E38_44 := E26_32.wr W38
 have F38_45 := F26_33.other W38 (Or.inl (Ne.symm pf12))
 have F38_46 := F26_34.other W38 (Or.inl (Ne.symm pf12))
 have F38_47 := F26_35.other W38 (Or.inl (Ne.symm pf12))
 have V38_48 := V26_36.other W38 (Ne.symm pf13)
 have K38 := K26.wr W38 (Or.inl (List.mem_of_getElem? (i := 0) rfl))
 have O38 := O26.wr W38 pf5
 have N38 := Fr.snoc X38 N26 pf5
 obtain ⟨fs, hr, hrun, hended, hW, hsame⟩ := X38.leave (v := none) (fun _ => rfl)
 subst hS0
 refine ⟨_, _, pre0 _ ?_, hrun, hended, _, _, rfl, ?_, ⟨_, rfl⟩, hW, hsame.mono (by decide) (by decide)⟩
 ·
  refine XS.aloadN X0.here hx rfl (hb hby d14_0) rfl rfl ?_
  show AT p e below s₁ m 1 #[rv a0, rv a1] [(.ref a0)] _
  refine XS.aloadN X0.here hx rfl (hb hby d14_1) rfl rfl ?_
  show AT p e below s₁ m 2 #[rv a0, rv a1] [(.ref a1), (.ref a0)] _
  refine st1 _ ?_
  show AT p e below T1 m 5 #[rv a0, rv a1] [] _
  refine XS.aloadN X1.here hx rfl (hb hby d14_5) rfl rfl ?_
  show AT p e below T1 m 6 #[rv a0, rv a1] [(.ref a0)] _
  refine st12 _ ?_
  show AT p e below T12 m 9 #[rv a0, rv a1] [] _
  refine XS.aloadN X12.here hx rfl (hb hby d14_9) rfl rfl ?_
  show AT p e below T12 m 10 #[rv a0, rv a1] [(.ref a0)] _
  refine XS.aloadN X12.here hx rfl (hb hby d14_10) rfl rfl ?_
  show AT p e below T12 m 11 #[rv a0, rv a1] [(.ref a0), (.ref a0)] _
  refine st13 _ ?_
  show AT p e below T13 m 14 #[rv a0, rv a1] [(.ref a1), (.ref a0)] _
  refine st14.trans ?_
  show AT p e below T14 m 17 #[rv a0, rv a1] [(.int (2 : Int32)), (.ref a0)] _
  refine st15 _ ?_
  show AT p e below T15 m 20 #[rv a0, rv a1] [] _
  refine XS.aloadN X15.here hx rfl (hb hby d14_20) rfl rfl ?_
  show AT p e below T15 m 21 #[rv a0, rv a1] [(.ref a0)] _
  refine XS.iconst X15.here hx rfl (hb hby d14_21) ?_
  show AT p e below T15 m 22 #[rv a0, rv a1] [(.int (-1 : Int32)), (.ref a0)] _
  refine st26 _ ?_
  show AT p e below T26 m 25 #[rv a0, rv a1] [] _
  refine XS.aloadN X26.here hx rfl (hb hby d14_25) rfl rfl ?_
  show AT p e below T26 m 26 #[rv a0, rv a1] [(.ref a0)] _
  refine XS.aloadN X26.here hx rfl (hb hby d14_26) rfl rfl ?_
  show AT p e below T26 m 27 #[rv a0, rv a1] [(.ref a1), (.ref a0)] _
  refine st37 _ ?_
  show AT p e below T37 m 30 #[rv a0, rv a1] [(.int (0 : Int32)), (.ref a0)] _
  refine st38 _ ?_
  show AT p e below T38 m 33 #[rv a0, rv a1] [] _
  exact X38.returnOut hx Bd.returns (hb hby d14_33) hr
 ·
  show Q14 Z a0 a1 es ke i0 i1 h0 n0 _ T38.heap _
  rw [e38]
  exact ⟨rfl, N38, K38, E38_39, F38_40, F38_41, F38_42, F38_43⟩

theorem d13_0 : decode jdk_21_method_39_code 0 = .ok (.new 131, 3) := by decide +kernel
theorem d13_3 : decode jdk_21_method_39_code 3 = .ok (.dup, 1) := by decide +kernel
theorem d13_4 : decode jdk_21_method_39_code 4 = .ok (.aload_n 0, 1) := by decide +kernel
theorem d13_5 : decode jdk_21_method_39_code 5 = .ok (.invokespecial 133, 3) := by decide +kernel
theorem d13_8 : decode jdk_21_method_39_code 8 = .ok (.areturn, 1) := by decide +kernel
theorem ef_13 (m : MethodId) (a0 : Addr) : entryFrame m #[(.ref a0)] 1 = mkF m 0 #[rv a0] [] := by first | (simp [entryFrame, mkF, argsToLocals, Value.category]; done) | rfl
def Q13 (Z : State) (a0 : Addr) (es : Addr) (ke : ClassId) (i0 : Addr) (i1 : Addr) (h0 : Heap) (n0 : Nat) (v : Option Value) (h : Heap) (L : List Loc) : Prop := ∃ (it : Addr), v = some (.ref it) ∧ Fr n0 L ∧ Keep h0 h [] ∧ Exa Z h it "java/util/ArrayDeque$DeqIterator" ∧ Fld Z h it "java/util/ArrayDeque$DeqIterator" "this$0" "Ljava/util/ArrayDeque;" (.ref a0) ∧ Fld Z h it "java/util/ArrayDeque$DeqIterator" "cursor" "I" (.int (0 : Int32)) ∧ Fld Z h it "java/util/ArrayDeque$DeqIterator" "remaining" "I" (.int (2 : Int32)) ∧ Fld Z h it "java/util/ArrayDeque$DeqIterator" "lastRet" "I" (.int (-1 : Int32)) ∧ h0.size ≤ it
set_option maxRecDepth 65536 in
set_option maxHeartbeats 40000000 in
theorem rm13 (l : Launch) (Z : State) (ar : Array Value) (hw : ∀ d ∈ tables_1, d.before ar Z = true) (ws : List Jvm.Cond) (a0 : Addr) (es : Addr) (ke : ClassId) (i0 : Addr) (i1 : Addr) (h0 : Heap) (n0 : Nat) (O0 : Old Z n0 h0) (pf0 : Exa Z h0 a0 "java/util/ArrayDeque") (pf1 : Fld Z h0 a0 "java/util/ArrayDeque" "elements" "[Ljava/lang/Object;" (.ref es)) (pf2 : Fld Z h0 a0 "java/util/ArrayDeque" "head" "I" (.int (0 : Int32))) (pf3 : Fld Z h0 a0 "java/util/ArrayDeque" "tail" "I" (.int (2 : Int32))) (pf4 : Arv Z h0 es ke (.object "java/lang/Object") (17 : Int32) [(.ref i0), (.ref i1)] .null) (pf5 : Ovr Z ke "java/lang/Object") :
    MetFree l y13 (head1 (Jvm.Cond.code y13 jdk_21_method_39_code 1 (some (.object "java/util/Iterator")) :: ws) ({ frames := 3, cells := 1, slots := 4, locals := 41 } : Room)) (fun a U => a = #[(.ref a0)] ∧ Z.Warmed39 U.vm ∧ U.heap = h0) (fun _ _ _ _ _ => True) (fun _ U o U' => ∃ v L, o = .returned v ∧ Q13 Z a0 es ke i0 i1 h0 n0 v U'.heap L ∧ FrameEnd U o U' L ({ frames := 3, cells := 1, slots := 4, locals := 41 } : Room).cells ({ frames := 3, cells := 1, slots := 4, locals := 41 } : Room).slots) := by
 refine MetFree.of_bodySF (plainFor_of_name pn_1) hisR ?_
 intro p e s m args below meth c s₁ Bd hml0 hP hK
 obtain ⟨rfl, hZ, hh⟩ := hP
 have hx := Bd.exec
 have hby := Bd.bytes
 have hml : c.maxLocals = 1 := hml0
 have hown : s.vm.findClass "java/util/ArrayDeque" = some m.cls := findClass_of_methodNamed Bd.named
 have hnm := (name_of_methodNamed Bd.named Bd.method).1
 have X0 : Stand p l e ({ frames := 3, cells := 1, slots := 4, locals := 41 } : Room) s m #[(.ref a0)] below meth c s₁ [] 0 0 := Stand.of_body Bd
 have e0 : s₁.heap = h0 := by rw [← hh, Bd.state]; rfl
 have N0 := Fr.nil n0
 have Z0 : n0 ≤ h0.size := Nat.le_trans (Nat.le_of_eq O0.1.symm) O0.2.1
 obtain ⟨S0, hS0⟩ : ∃ z, z = s₁.setTop (entryFrame m #[(.ref a0)] 1) := ⟨_, rfl⟩
 have pre0 : ∀ tg, AT p e below s₁ m 0 #[rv a0] [] tg → Steps p.tables e below S0 tg := fun tg kg => by rw [hS0]; exact castTop (ef_13 m a0) kg
 obtain ⟨T1, h1, X1, e1, E1, A1, D1, -, st1⟩ := newO X0 hx hZ hown (ow hw 76 rfl) (ow hw 77 rfl) (ow hw 78 rfl) e0 (g := (mkF m 0 #[rv a0] [])) rfl (hb hby d13_0) (by decide) (by decide)
 obtain ⟨b1, g1⟩ : ∃ z, z = h0.size := ⟨_, rfl⟩
 rw [← g1] at A1 D1 st1
 have ne1_2 : a0 ≠ b1 := Nat.ne_of_lt (Nat.lt_of_lt_of_le (pf0).lt (Nat.le_of_eq g1.symm))
 have ne1_3 : es ≠ b1 := Nat.ne_of_lt (Nat.lt_of_lt_of_le (pf4).lt (Nat.le_of_eq g1.symm))
 have gn1 : n0 ≤ b1 := Nat.le_trans (Nat.le_trans (Nat.le_of_eq O0.1.symm) O0.2.1) (Nat.le_of_eq g1.symm)
 have sz1 : h0.size ≤ b1 := Nat.le_trans (Keep.refl h0 []).1 (Nat.le_of_eq g1.symm)
 have E1_4 := pf0.ext E1
 have F1_5 := pf1.ext E1
 have F1_6 := pf2.ext E1
 have F1_7 := pf3.ext E1
 have V1_8 := pf4.ext E1
 have K1 := (Keep.refl h0 []).ext E1
 have O1 := O0.ext E1
 have F1_9 : Fld Z h1 b1 "java/util/ArrayDeque$DeqIterator" "this$0" "Ljava/util/ArrayDeque;" .null := D1 (Or.inr (ow hw 84 rfl)) (ty := (.object "java/util/ArrayDeque")) (by decide)
 have F1_10 : Fld Z h1 b1 "java/util/ArrayDeque$DeqIterator" "remaining" "I" (.int (0 : Int32)) := D1 (Or.inl (ow hw 88 rfl)) (ty := .int) (by decide)
 have F1_11 : Fld Z h1 b1 "java/util/ArrayDeque$DeqIterator" "lastRet" "I" (.int (0 : Int32)) := D1 (Or.inl (ow hw 90 rfl)) (ty := .int) (by decide)
 have F1_12 : Fld Z h1 b1 "java/util/ArrayDeque$DeqIterator" "cursor" "I" (.int (0 : Int32)) := D1 (Or.inl (ow hw 93 rfl)) (ty := .int) (by decide)
 obtain ⟨_, _, ⟨T13, L13, k13, n13⟩, -, X13, ⟨Lc13, hQ13, l13, y13, z13⟩, st13⟩ := X1.specialBack hx (y := y14) rfl hown (mvT hZ (ow hw 79 rfl)) (mvT hZ (ow hw 80 rfl)) (mvT hZ (ow hw 82 rfl)) (by decide) (backOf (W := 1) (rm14 l Z ar hw [] b1 a0 es ke i0 i1 h1 n0 O1 A1 F1_9 F1_12 F1_10 F1_11 gn1 E1_4 F1_5 F1_6 F1_7 V1_8 pf5 (Ne.symm ne1_2) (Ne.symm ne1_3)) hZ (ow hw 82 rfl) (ow hw 78 rfl) (by decide) (by decide)) (g := (mkF m 5 #[rv a0] [(.ref a0), (.ref b1), (.ref b1)])) rfl (by rw [hml]; rfl) (Steps.refl _) (a := b1) (argsL := [(.ref a0)]) (rest := [(.ref b1)]) (lenOf pd_5 rfl) rfl (by show 2 * 0 + _ ≤ _; exact Nat.le_of_eq rfl) (hb hby d13_5) (fun _ _ => ⟨rfl, e1, (by decide : 1 + 0 ≤ _), (by decide : 4 + 0 ≤ _)⟩)
 dsimp only [Pt.U, Pt.locs, Pt.cells, Pt.slots] at X13 l13 y13 z13 st13 hQ13
 subst l13 y13 z13
 obtain ⟨rfl, N13q, Kq13, u13_0, u13_1, u13_2, u13_3, u13_4⟩ := hQ13
 have N13 := Fr.app N0 N13q
 have E13_14 := E1_4.keep Kq13
 have F13_15 := F1_5.keep Kq13 (ninS ne1_2 nin0)
 have F13_16 := F1_6.keep Kq13 (ninS ne1_2 nin0)
 have F13_17 := F1_7.keep Kq13 (ninS ne1_2 nin0)
 have V13_18 := V1_8.keep Kq13 (ninS ne1_3 nin0)
 have E13_19 := A1.keep Kq13
 have K13 := K1.trans Kq13 (allS (Or.inr sz1) all0)
 have O13 := O1.keep Kq13 (allS gn1 all0)
 obtain ⟨fs, hr, hrun, hended, hW, hsame⟩ := X13.leave (v := some (.ref b1)) (fun h => by rw [Bd.returns] at h; cases h)
 subst hS0
 refine ⟨_, _, pre0 _ ?_, hrun, hended, _, _, rfl, ?_, ⟨_, rfl⟩, hW, hsame.mono (by decide) (by decide)⟩
 ·
  refine st1 _ ?_
  show AT p e below T1 m 3 #[rv a0] [(.ref b1)] _
  refine XS.dup X1.here hx rfl (hb hby d13_3) rfl rfl ?_
  show AT p e below T1 m 4 #[rv a0] [(.ref b1), (.ref b1)] _
  refine XS.aloadN X1.here hx rfl (hb hby d13_4) rfl rfl ?_
  show AT p e below T1 m 5 #[rv a0] [(.ref a0), (.ref b1), (.ref b1)] _
  refine st13.trans ?_
  show AT p e below T13 m 8 #[rv a0] [(.ref b1)] _
  exact retOut X13 hx (t := (.object "java/util/Iterator")) (i := .areturn) Bd.returns rfl (Or.inr (Or.inr (Or.inr (Or.inr ⟨rfl, rfl, rfl⟩)))) (hb hby d13_8) hr
 ·
  show Q13 Z a0 es ke i0 i1 h0 n0 _ T13.heap _
  exact ⟨b1, rfl, N13, K13, E13_19, u13_1, u13_2, u13_3, u13_4, sz1⟩

theorem d15_0 : decode jdk_54_method_3_code 0 = .ok (.aload_n 0, 1) := by decide +kernel
theorem d15_1 : decode jdk_54_method_3_code 1 = .ok (.getfield 19, 3) := by decide +kernel
theorem d15_4 : decode jdk_54_method_3_code 4 = .ok (.ifCond .gt 11, 3) := by decide +kernel
theorem d15_15 : decode jdk_54_method_3_code 15 = .ok (.aload_n 0, 1) := by decide +kernel
theorem d15_16 : decode jdk_54_method_3_code 16 = .ok (.getfield 1, 3) := by decide +kernel
theorem d15_19 : decode jdk_54_method_3_code 19 = .ok (.getfield 35, 3) := by decide +kernel
theorem d15_22 : decode jdk_54_method_3_code 22 = .ok (.astore_n 1, 1) := by decide +kernel
theorem d15_23 : decode jdk_54_method_3_code 23 = .ok (.aload_n 1, 1) := by decide +kernel
theorem d15_24 : decode jdk_54_method_3_code 24 = .ok (.aload_n 0, 1) := by decide +kernel
theorem d15_25 : decode jdk_54_method_3_code 25 = .ok (.getfield 29, 3) := by decide +kernel
theorem d15_28 : decode jdk_54_method_3_code 28 = .ok (.invokestatic 39, 3) := by decide +kernel
theorem d15_31 : decode jdk_54_method_3_code 31 = .ok (.astore_n 2, 1) := by decide +kernel
theorem d15_32 : decode jdk_54_method_3_code 32 = .ok (.aload_n 0, 1) := by decide +kernel
theorem d15_33 : decode jdk_54_method_3_code 33 = .ok (.aload_n 0, 1) := by decide +kernel
theorem d15_34 : decode jdk_54_method_3_code 34 = .ok (.aload_n 0, 1) := by decide +kernel
theorem d15_35 : decode jdk_54_method_3_code 35 = .ok (.getfield 29, 3) := by decide +kernel
theorem d15_38 : decode jdk_54_method_3_code 38 = .ok (.dup_x1, 1) := by decide +kernel
theorem d15_39 : decode jdk_54_method_3_code 39 = .ok (.putfield 23, 3) := by decide +kernel
theorem d15_42 : decode jdk_54_method_3_code 42 = .ok (.aload_n 1, 1) := by decide +kernel
theorem d15_43 : decode jdk_54_method_3_code 43 = .ok (.arraylength, 1) := by decide +kernel
theorem d15_44 : decode jdk_54_method_3_code 44 = .ok (.invokestatic 43, 3) := by decide +kernel
theorem d15_47 : decode jdk_54_method_3_code 47 = .ok (.putfield 29, 3) := by decide +kernel
theorem d15_50 : decode jdk_54_method_3_code 50 = .ok (.aload_n 0, 1) := by decide +kernel
theorem d15_51 : decode jdk_54_method_3_code 51 = .ok (.dup, 1) := by decide +kernel
theorem d15_52 : decode jdk_54_method_3_code 52 = .ok (.getfield 19, 3) := by decide +kernel
theorem d15_55 : decode jdk_54_method_3_code 55 = .ok (.iconst 1, 1) := by decide +kernel
theorem d15_56 : decode jdk_54_method_3_code 56 = .ok (.isub, 1) := by decide +kernel
theorem d15_57 : decode jdk_54_method_3_code 57 = .ok (.putfield 19, 3) := by decide +kernel
theorem d15_60 : decode jdk_54_method_3_code 60 = .ok (.aload_n 2, 1) := by decide +kernel
theorem d15_61 : decode jdk_54_method_3_code 61 = .ok (.areturn, 1) := by decide +kernel
theorem ef_15_0 (m : MethodId) (a0 : Addr) : entryFrame m #[(.ref a0)] 3 = mkF m 0 #[rv a0, un, un] [] := by first | (simp [entryFrame, mkF, argsToLocals, Value.category]; done) | rfl
def Q15_0 (Z : State) (a0 : Addr) (dq : Addr) (es : Addr) (ke : ClassId) (i0 : Addr) (i1 : Addr) (h0 : Heap) (n0 : Nat) (v : Option Value) (h : Heap) (L : List Loc) : Prop := v = some (.ref i0) ∧ Fr n0 L ∧ Keep h0 h [a0] ∧ Exa Z h a0 "java/util/ArrayDeque$DeqIterator" ∧ Fld Z h a0 "java/util/ArrayDeque$DeqIterator" "this$0" "Ljava/util/ArrayDeque;" (.ref dq) ∧ Fld Z h a0 "java/util/ArrayDeque$DeqIterator" "cursor" "I" (.int (1 : Int32)) ∧ Fld Z h a0 "java/util/ArrayDeque$DeqIterator" "remaining" "I" (.int (1 : Int32)) ∧ Fld Z h a0 "java/util/ArrayDeque$DeqIterator" "lastRet" "I" (.int (0 : Int32))
set_option maxRecDepth 65536 in
set_option maxHeartbeats 40000000 in
theorem rm15_0 (l : Launch) (Z : State) (ar : Array Value) (hw : ∀ d ∈ tables_1, d.before ar Z = true) (ws : List Jvm.Cond) (a0 : Addr) (dq : Addr) (es : Addr) (ke : ClassId) (i0 : Addr) (i1 : Addr) (h0 : Heap) (n0 : Nat) (O0 : Old Z n0 h0) (pf0 : Exa Z h0 a0 "java/util/ArrayDeque$DeqIterator") (pf1 : Fld Z h0 a0 "java/util/ArrayDeque$DeqIterator" "this$0" "Ljava/util/ArrayDeque;" (.ref dq)) (pf2 : Fld Z h0 a0 "java/util/ArrayDeque$DeqIterator" "cursor" "I" (.int (0 : Int32))) (pf3 : Fld Z h0 a0 "java/util/ArrayDeque$DeqIterator" "remaining" "I" (.int (2 : Int32))) (pf4 : Fld Z h0 a0 "java/util/ArrayDeque$DeqIterator" "lastRet" "I" (.int (-1 : Int32))) (pf5 : n0 ≤ a0) (pf6 : Exa Z h0 dq "java/util/ArrayDeque") (pf7 : Fld Z h0 dq "java/util/ArrayDeque" "elements" "[Ljava/lang/Object;" (.ref es)) (pf8 : Fld Z h0 dq "java/util/ArrayDeque" "head" "I" (.int (0 : Int32))) (pf9 : Fld Z h0 dq "java/util/ArrayDeque" "tail" "I" (.int (2 : Int32))) (pf10 : Arv Z h0 es ke (.object "java/lang/Object") (17 : Int32) [(.ref i0), (.ref i1)] .null) (pf11 : Ovr Z ke "java/lang/Object") (pf12 : a0 ≠ dq) (pf13 : a0 ≠ es) :
    MetFree l y15 (head1 (Jvm.Cond.code y15 jdk_54_method_3_code 3 (some (.object "java/lang/Object")) :: ws) ({ frames := 1, cells := 0, slots := 0, locals := 14 } : Room)) (fun a U => a = #[(.ref a0)] ∧ Z.Warmed39 U.vm ∧ U.heap = h0) (fun _ _ _ _ _ => True) (fun _ U o U' => ∃ v L, o = .returned v ∧ Q15_0 Z a0 dq es ke i0 i1 h0 n0 v U'.heap L ∧ FrameEnd U o U' L ({ frames := 1, cells := 0, slots := 0, locals := 14 } : Room).cells ({ frames := 1, cells := 0, slots := 0, locals := 14 } : Room).slots) := by
 refine MetFree.of_bodySF (plainFor_of_name pn_3) hisR ?_
 intro p e s m args below meth c s₁ Bd hml0 hP hK
 obtain ⟨rfl, hZ, hh⟩ := hP
 have hx := Bd.exec
 have hby := Bd.bytes
 have hml : c.maxLocals = 3 := hml0
 have hown : s.vm.findClass "java/util/ArrayDeque$DeqIterator" = some m.cls := findClass_of_methodNamed Bd.named
 have hnm := (name_of_methodNamed Bd.named Bd.method).1
 have X0 : Stand p l e ({ frames := 1, cells := 0, slots := 0, locals := 14 } : Room) s m #[(.ref a0)] below meth c s₁ [] 0 0 := Stand.of_body Bd
 have e0 : s₁.heap = h0 := by rw [← hh, Bd.state]; rfl
 have N0 := Fr.nil n0
 have Z0 : n0 ≤ h0.size := Nat.le_trans (Nat.le_of_eq O0.1.symm) O0.2.1
 obtain ⟨S0, hS0⟩ : ∃ z, z = s₁.setTop (entryFrame m #[(.ref a0)] 3) := ⟨_, rfl⟩
 have pre0 : ∀ tg, AT p e below s₁ m 0 #[rv a0, un, un] [] tg → Steps p.tables e below S0 tg := fun tg kg => by rw [hS0]; exact castTop (ef_15_0 m a0) kg
 obtain ⟨T1, X1, e1, st1⟩ := getF X0 hx hZ hown (host := "") (Or.inl (ow hw 87 rfl)) Via.refl e0 pf3 (g := (mkF m 1 #[rv a0, un, un] [(.ref a0)])) rfl rfl (hb hby d15_1)
 obtain ⟨T2, X2, e2, st2⟩ := getF X1 hx hZ hown (host := "") (Or.inl (ow hw 83 rfl)) Via.refl e1 pf1 (g := (mkF m 16 #[rv a0, un, un] [(.ref a0)])) rfl rfl (hb hby d15_16)
 obtain ⟨T3, X3, e3, st3⟩ := getF X2 hx hZ hown (host := "") (Or.inl (ow hw 103 rfl)) Via.refl e2 pf7 (g := (mkF m 19 #[rv a0, un, un] [(.ref dq)])) rfl rfl (hb hby d15_19)
 obtain ⟨T4, X4, e4, st4⟩ := getF X3 hx hZ hown (host := "") (Or.inl (ow hw 92 rfl)) Via.refl e3 pf2 (g := (mkF m 25 #[rv a0, rv es, un] [(.ref a0), (.ref es)])) rfl rfl (hb hby d15_25)
 obtain ⟨_, _, ⟨T5, L5, k5, n5⟩, -, X5, ⟨Lc5, hQ5, l5, y5, z5⟩, st5⟩ := Jvm.LawKit.callS X4 hx (y := y16) hown (mvT hZ (ow hw 104 rfl)) (mvT hZ (ow hw 105 rfl)) (mvT hZ (ow hw 11 rfl)) (mvT hZ (ow hw 106 rfl)) (by decide) (backOf (W := 0) (rm16_0 l Z ar hw [] es ke i0 i1 h0 n0 O0 pf10) hZ (ow hw 106 rfl) (ow hw 11 rfl) (by decide) (by decide)) (g := (mkF m 28 #[rv a0, rv es, un] [(.int (0 : Int32)), (.ref es)])) rfl (by rw [hml]; rfl) (argsL := [(.ref es), (.int (0 : Int32))]) (rest := []) (lenOf pd_3 rfl) rfl (by show 2 * 0 + _ ≤ _; exact Nat.le_of_eq rfl) (hb hby d15_28) (fun _ _ => ⟨rfl, e4, (by decide : 0 + 0 ≤ _), (by decide : 0 + 0 ≤ _)⟩)
 dsimp only [Pt.U, Pt.locs, Pt.cells, Pt.slots] at X5 l5 y5 z5 st5 hQ5
 subst l5 y5 z5
 obtain ⟨rfl, N5q, e5⟩ := hQ5
 have N5 := Fr.app N0 N5q
 obtain ⟨T6, X6, e6, st6⟩ := getF X5 hx hZ hown (host := "") (Or.inl (ow hw 92 rfl)) Via.refl e5 pf2 (g := (mkF m 35 #[rv a0, rv es, rv i0] [(.ref a0), (.ref a0), (.ref a0)])) rfl rfl (hb hby d15_35)
 obtain ⟨T7, h7, X7, e7, W7, st7⟩ := putF X6 hx hZ hown (host := "") (Or.inl (ow hw 89 rfl)) Via.refl e6 pf4 pf0 (Or.inl (ow hw 90 rfl)) (ow hw 77 rfl) (ty := .int) (by decide) rfl rfl (g := (mkF m 39 #[rv a0, rv es, rv i0] [(.int (0 : Int32)), (.ref a0), (.int (0 : Int32)), (.ref a0)])) rfl rfl (hb hby d15_39)
 have E7_8 := pf0.wr W7
 have F7_9 := pf1.other W7 (Or.inr (slot_ne (Or.inr (ow hw 84 rfl)) (Or.inl (ow hw 90 rfl)) (by decide) (t := (.object "java/util/ArrayDeque")) (t' := .int) (by decide) (by decide)))
 have F7_10 := pf2.other W7 (Or.inr (slot_ne (Or.inl (ow hw 93 rfl)) (Or.inl (ow hw 90 rfl)) (by decide) (t := .int) (t' := .int) (by decide) (by decide)))
 have F7_11 := pf3.other W7 (Or.inr (slot_ne (Or.inl (ow hw 88 rfl)) (Or.inl (ow hw 90 rfl)) (by decide) (t := .int) (t' := .int) (by decide) (by decide)))
 have F7_12 : Fld Z h7 a0 "java/util/ArrayDeque$DeqIterator" "lastRet" "I" (.int (0 : Int32)) := pf4.same W7
 have E7_13 := pf6.wr W7
 have F7_14 := pf7.other W7 (Or.inl (Ne.symm pf12))
 have F7_15 := pf8.other W7 (Or.inl (Ne.symm pf12))
 have F7_16 := pf9.other W7 (Or.inl (Ne.symm pf12))
 have V7_17 := pf10.other W7 (Ne.symm pf13)
 have K7 := (Keep.refl h0 [a0]).wr W7 (Or.inl (List.mem_of_getElem? (i := 0) rfl))
 have O7 := O0.wr W7 pf5
 have N7 := Fr.snoc X7 N5 pf5
 obtain ⟨cl18, Ar18, q18, S18, N18, H18, G18⟩ := id V7_17
 obtain ⟨_, _, ⟨T19, L19, k19, n19⟩, -, X19, ⟨Lc19, hQ19, l19, y19, z19⟩, st19⟩ := Jvm.LawKit.callS X7 hx (y := y9) hown (mvT hZ (ow hw 107 rfl)) (mvT hZ (ow hw 55 rfl)) (mvT hZ (ow hw 11 rfl)) (mvT hZ (ow hw 56 rfl)) (by decide) (backOf (W := 1) (rm9 l Z ar hw [] (0 : Int32) (17 : Int32) h7 n0 O7) hZ (ow hw 56 rfl) (ow hw 11 rfl) (by decide) (by decide)) (g := (mkF m 44 #[rv a0, rv es, rv i0] [(.int (17 : Int32)), (.int (0 : Int32)), (.ref a0)])) rfl (by rw [hml]; rfl) (argsL := [(.int (0 : Int32)), (.int (17 : Int32))]) (rest := [(.ref a0)]) (lenOf pd_2 rfl) rfl (by show 2 * 0 + _ ≤ _; exact Nat.le_of_eq rfl) (hb hby d15_44) (fun _ _ => ⟨rfl, e7, (by decide : 0 + 0 ≤ _), (by decide : 0 + 0 ≤ _)⟩)
 dsimp only [Pt.U, Pt.locs, Pt.cells, Pt.slots] at X19 l19 y19 z19 st19 hQ19
 subst l19 y19 z19
 obtain ⟨rfl, N19q, e19⟩ := hQ19
 have N19 := Fr.app N7 N19q
 have r19 : (f9 (0 : Int32) (17 : Int32)) = (1 : Int32) := by rw [f9, if_pos ((by decide) : ((0 : Int32) + (1 : Int32)) < (17 : Int32))] <;> decide
 rw [r19] at st19
 obtain ⟨T20, h20, X20, e20, W20, st20⟩ := putF X19 hx hZ hown (host := "") (Or.inl (ow hw 92 rfl)) Via.refl e19 F7_10 E7_8 (Or.inl (ow hw 93 rfl)) (ow hw 77 rfl) (ty := .int) (by decide) rfl rfl (g := (mkF m 47 #[rv a0, rv es, rv i0] [(.int (1 : Int32)), (.ref a0)])) rfl rfl (hb hby d15_47)
 have E20_21 := E7_8.wr W20
 have F20_22 := F7_9.other W20 (Or.inr (slot_ne (Or.inr (ow hw 84 rfl)) (Or.inl (ow hw 93 rfl)) (by decide) (t := (.object "java/util/ArrayDeque")) (t' := .int) (by decide) (by decide)))
 have F20_23 : Fld Z h20 a0 "java/util/ArrayDeque$DeqIterator" "cursor" "I" (.int (1 : Int32)) := F7_10.same W20
 have F20_24 := F7_11.other W20 (Or.inr (slot_ne (Or.inl (ow hw 88 rfl)) (Or.inl (ow hw 93 rfl)) (by decide) (t := .int) (t' := .int) (by decide) (by decide)))
 have F20_25 := F7_12.other W20 (Or.inr (slot_ne (Or.inl (ow hw 90 rfl)) (Or.inl (ow hw 93 rfl)) (by decide) (t := .int) (t' := .int) (by decide) (by decide)))
 have E20_26 := E7_13.wr W20
 have F20_27 := F7_14.other W20 (Or.inl (Ne.symm pf12))
 have F20_28 := F7_15.other W20 (Or.inl (Ne.symm pf12))
 have F20_29 := F7_16.other W20 (Or.inl (Ne.symm pf12))
 have V20_30 := V7_17.other W20 (Ne.symm pf13)
 have K20 := K7.wr W20 (Or.inl (List.mem_of_getElem? (i := 0) rfl))
 have O20 := O7.wr W20 pf5
 have N20 := Fr.snoc X20 N19 pf5
 obtain ⟨T31, X31, e31, st31⟩ := getF X20 hx hZ hown (host := "") (Or.inl (ow hw 87 rfl)) Via.refl e20 F20_24 (g := (mkF m 52 #[rv a0, rv es, rv i0] [(.ref a0), (.ref a0)])) rfl rfl (hb hby d15_52)
 obtain ⟨T32, h32, X32, e32, W32, st32⟩ := putF X31 hx hZ hown (host := "") (Or.inl (ow hw 87 rfl)) Via.refl e31 F20_24 E20_21 (Or.inl (ow hw 88 rfl)) (ow hw 77 rfl) (ty := .int) (by decide) rfl rfl (g := (mkF m 57 #[rv a0, rv es, rv i0] [(.int (1 : Int32)), (.ref a0)])) rfl rfl (hb hby d15_57)
 have E32_33 := E20_21.wr W32
 have F32_34 := F20_22.other W32 (Or.inr (slot_ne (Or.inr (ow hw 84 rfl)) (Or.inl (ow hw 88 rfl)) (by decide) (t := (.object "java/util/ArrayDeque")) (t' := .int) (by decide) (by decide)))
 have F32_35 := F20_23.other W32 (Or.inr (slot_ne (Or.inl (ow hw 93 rfl)) (Or.inl (ow hw 88 rfl)) (by decide) (t := .int) (t' := .int) (by decide) (by decide)))
 have F32_36 : Fld Z h32 a0 "java/util/ArrayDeque$DeqIterator" "remaining" "I" (.int (1 : Int32)) := F20_24.same W32
 have F32_37 := F20_25.other W32 (Or.inr (slot_ne (Or.inl (ow hw 90 rfl)) (Or.inl (ow hw 88 rfl)) (by decide) (t := .int) (t' := .int) (by decide) (by decide)))
 have E32_38 := E20_26.wr W32
 have F32_39 := F20_27.other W32 (Or.inl (Ne.symm pf12))
 have F32_40 := F20_28.other W32 (Or.inl (Ne.symm pf12))
 have F32_41 := F20_29.other W32 (Or.inl (Ne.symm pf12))
 have V32_42 := V20_30.other W32 (Ne.symm pf13)
 have K32 := K20.wr W32 (Or.inl (List.mem_of_getElem? (i := 0) rfl))
 have O32 := O20.wr W32 pf5
 have N32 := Fr.snoc X32 N20 pf5
 obtain ⟨fs, hr, hrun, hended, hW, hsame⟩ := X32.leave (v := some (.ref i0)) (fun h => by rw [Bd.returns] at h; cases h)
 subst hS0
 refine ⟨_, _, pre0 _ ?_, hrun, hended, _, _, rfl, ?_, ⟨_, rfl⟩, hW, hsame.mono (by decide) (by decide)⟩
 ·
  refine XS.aloadN X0.here hx rfl (hb hby d15_0) rfl rfl ?_
  show AT p e below s₁ m 1 #[rv a0, un, un] [(.ref a0)] _
  refine st1 _ ?_
  show AT p e below T1 m 4 #[rv a0, un, un] [(.int (2 : Int32))] _
  refine XS.ifYes X1.here hx rfl (pc0 := 4) (pc' := 15) rfl (hb hby d15_4) rfl (XT.i0_gt_t ((by decide) : (0 : Int32) < (2 : Int32))) (by decide) (by decide) ?_
  show AT p e below T1 m 15 #[rv a0, un, un] [] _
  refine XS.aloadN X1.here hx rfl (hb hby d15_15) rfl rfl ?_
  show AT p e below T1 m 16 #[rv a0, un, un] [(.ref a0)] _
  refine st2 _ ?_
  show AT p e below T2 m 19 #[rv a0, un, un] [(.ref dq)] _
  refine st3 _ ?_
  show AT p e below T3 m 22 #[rv a0, un, un] [(.ref es)] _
  refine XS.astoreN X3.here hx rfl (hb hby d15_22) rfl rfl (l' := #[rv a0, rv es, un]) rfl ?_
  show AT p e below T3 m 23 #[rv a0, rv es, un] [] _
  refine XS.aloadN X3.here hx rfl (hb hby d15_23) rfl rfl ?_
  show AT p e below T3 m 24 #[rv a0, rv es, un] [(.ref es)] _
  refine XS.aloadN X3.here hx rfl (hb hby d15_24) rfl rfl ?_
  show AT p e below T3 m 25 #[rv a0, rv es, un] [(.ref a0), (.ref es)] _
  refine st4 _ ?_
  show AT p e below T4 m 28 #[rv a0, rv es, un] [(.int (0 : Int32)), (.ref es)] _
  refine st5 _ ?_
  show AT p e below T5 m 31 #[rv a0, rv es, un] [(.ref i0)] _
  refine XS.astoreN X5.here hx rfl (hb hby d15_31) rfl rfl (l' := #[rv a0, rv es, rv i0]) rfl ?_
  show AT p e below T5 m 32 #[rv a0, rv es, rv i0] [] _
  refine XS.aloadN X5.here hx rfl (hb hby d15_32) rfl rfl ?_
  show AT p e below T5 m 33 #[rv a0, rv es, rv i0] [(.ref a0)] _
  refine XS.aloadN X5.here hx rfl (hb hby d15_33) rfl rfl ?_
  show AT p e below T5 m 34 #[rv a0, rv es, rv i0] [(.ref a0), (.ref a0)] _
  refine XS.aloadN X5.here hx rfl (hb hby d15_34) rfl rfl ?_
  show AT p e below T5 m 35 #[rv a0, rv es, rv i0] [(.ref a0), (.ref a0), (.ref a0)] _
  refine st6 _ ?_
  show AT p e below T6 m 38 #[rv a0, rv es, rv i0] [(.int (0 : Int32)), (.ref a0), (.ref a0)] _
  refine XS.dupX1 X6.here hx rfl (hb hby d15_38) rfl rfl rfl ?_
  show AT p e below T6 m 39 #[rv a0, rv es, rv i0] [(.int (0 : Int32)), (.ref a0), (.int (0 : Int32)), (.ref a0)] _
  refine st7 _ ?_
  show AT p e below T7 m 42 #[rv a0, rv es, rv i0] [(.int (0 : Int32)), (.ref a0)] _
  refine XS.aloadN X7.here hx rfl (hb hby d15_42) rfl rfl ?_
  show AT p e below T7 m 43 #[rv a0, rv es, rv i0] [(.ref es), (.int (0 : Int32)), (.ref a0)] _
  refine X7.arraylength hx (by rw [e7]; exact Ar18.1) (State.isArrayOf_alike hZ.alike Ar18.2.1) (g := (mkF m 43 #[rv a0, rv es, rv i0] [(.ref es), (.int (0 : Int32)), (.ref a0)])) rfl rfl (hb hby d15_43) _ ?_
  rw [len_of S18 N18]
  show AT p e below T7 m 44 #[rv a0, rv es, rv i0] [(.int (17 : Int32)), (.int (0 : Int32)), (.ref a0)] _
  refine st19 _ ?_
  show AT p e below T19 m 47 #[rv a0, rv es, rv i0] [(.int (1 : Int32)), (.ref a0)] _
  refine st20 _ ?_
  show AT p e below T20 m 50 #[rv a0, rv es, rv i0] [] _
  refine XS.aloadN X20.here hx rfl (hb hby d15_50) rfl rfl ?_
  show AT p e below T20 m 51 #[rv a0, rv es, rv i0] [(.ref a0)] _
  refine XS.dup X20.here hx rfl (hb hby d15_51) rfl rfl ?_
  show AT p e below T20 m 52 #[rv a0, rv es, rv i0] [(.ref a0), (.ref a0)] _
  refine st31 _ ?_
  show AT p e below T31 m 55 #[rv a0, rv es, rv i0] [(.int (2 : Int32)), (.ref a0)] _
  refine XS.iconst X31.here hx rfl (hb hby d15_55) ?_
  show AT p e below T31 m 56 #[rv a0, rv es, rv i0] [(.int (1 : Int32)), (.int (2 : Int32)), (.ref a0)] _
  refine XS.isub X31.here hx rfl (hb hby d15_56) rfl ?_
  show AT p e below T31 m 57 #[rv a0, rv es, rv i0] [(.int (1 : Int32)), (.ref a0)] _
  refine st32 _ ?_
  show AT p e below T32 m 60 #[rv a0, rv es, rv i0] [] _
  refine XS.aloadN X32.here hx rfl (hb hby d15_60) rfl rfl ?_
  show AT p e below T32 m 61 #[rv a0, rv es, rv i0] [(.ref i0)] _
  exact retOut X32 hx (t := (.object "java/lang/Object")) (i := .areturn) Bd.returns rfl (Or.inr (Or.inr (Or.inr (Or.inr ⟨rfl, rfl, rfl⟩)))) (hb hby d15_61) hr
 ·
  show Q15_0 Z a0 dq es ke i0 i1 h0 n0 _ T32.heap _
  rw [e32]
  exact ⟨rfl, N32, K32, E32_33, F32_34, F32_35, F32_36, F32_37⟩

theorem ef_15_1 (m : MethodId) (a0 : Addr) : entryFrame m #[(.ref a0)] 3 = mkF m 0 #[rv a0, un, un] [] := by first | (simp [entryFrame, mkF, argsToLocals, Value.category]; done) | rfl
def Q15_1 (Z : State) (a0 : Addr) (dq : Addr) (es : Addr) (ke : ClassId) (i0 : Addr) (i1 : Addr) (h0 : Heap) (n0 : Nat) (v : Option Value) (h : Heap) (L : List Loc) : Prop := v = some (.ref i1) ∧ Fr n0 L ∧ Keep h0 h [a0] ∧ Exa Z h a0 "java/util/ArrayDeque$DeqIterator" ∧ Fld Z h a0 "java/util/ArrayDeque$DeqIterator" "this$0" "Ljava/util/ArrayDeque;" (.ref dq) ∧ Fld Z h a0 "java/util/ArrayDeque$DeqIterator" "cursor" "I" (.int (2 : Int32)) ∧ Fld Z h a0 "java/util/ArrayDeque$DeqIterator" "remaining" "I" (.int (0 : Int32)) ∧ Fld Z h a0 "java/util/ArrayDeque$DeqIterator" "lastRet" "I" (.int (1 : Int32))
set_option maxRecDepth 65536 in
set_option maxHeartbeats 40000000 in
theorem rm15_1 (l : Launch) (Z : State) (ar : Array Value) (hw : ∀ d ∈ tables_1, d.before ar Z = true) (ws : List Jvm.Cond) (a0 : Addr) (dq : Addr) (es : Addr) (ke : ClassId) (i0 : Addr) (i1 : Addr) (h0 : Heap) (n0 : Nat) (O0 : Old Z n0 h0) (pf0 : Exa Z h0 a0 "java/util/ArrayDeque$DeqIterator") (pf1 : Fld Z h0 a0 "java/util/ArrayDeque$DeqIterator" "this$0" "Ljava/util/ArrayDeque;" (.ref dq)) (pf2 : Fld Z h0 a0 "java/util/ArrayDeque$DeqIterator" "cursor" "I" (.int (1 : Int32))) (pf3 : Fld Z h0 a0 "java/util/ArrayDeque$DeqIterator" "remaining" "I" (.int (1 : Int32))) (pf4 : Fld Z h0 a0 "java/util/ArrayDeque$DeqIterator" "lastRet" "I" (.int (0 : Int32))) (pf5 : n0 ≤ a0) (pf6 : Exa Z h0 dq "java/util/ArrayDeque") (pf7 : Fld Z h0 dq "java/util/ArrayDeque" "elements" "[Ljava/lang/Object;" (.ref es)) (pf8 : Fld Z h0 dq "java/util/ArrayDeque" "head" "I" (.int (0 : Int32))) (pf9 : Fld Z h0 dq "java/util/ArrayDeque" "tail" "I" (.int (2 : Int32))) (pf10 : Arv Z h0 es ke (.object "java/lang/Object") (17 : Int32) [(.ref i0), (.ref i1)] .null) (pf11 : Ovr Z ke "java/lang/Object") (pf12 : a0 ≠ dq) (pf13 : a0 ≠ es) :
    MetFree l y15 (head1 (Jvm.Cond.code y15 jdk_54_method_3_code 3 (some (.object "java/lang/Object")) :: ws) ({ frames := 1, cells := 0, slots := 0, locals := 14 } : Room)) (fun a U => a = #[(.ref a0)] ∧ Z.Warmed39 U.vm ∧ U.heap = h0) (fun _ _ _ _ _ => True) (fun _ U o U' => ∃ v L, o = .returned v ∧ Q15_1 Z a0 dq es ke i0 i1 h0 n0 v U'.heap L ∧ FrameEnd U o U' L ({ frames := 1, cells := 0, slots := 0, locals := 14 } : Room).cells ({ frames := 1, cells := 0, slots := 0, locals := 14 } : Room).slots) := by
 refine MetFree.of_bodySF (plainFor_of_name pn_3) hisR ?_
 intro p e s m args below meth c s₁ Bd hml0 hP hK
 obtain ⟨rfl, hZ, hh⟩ := hP
 have hx := Bd.exec
 have hby := Bd.bytes
 have hml : c.maxLocals = 3 := hml0
 have hown : s.vm.findClass "java/util/ArrayDeque$DeqIterator" = some m.cls := findClass_of_methodNamed Bd.named
 have hnm := (name_of_methodNamed Bd.named Bd.method).1
 have X0 : Stand p l e ({ frames := 1, cells := 0, slots := 0, locals := 14 } : Room) s m #[(.ref a0)] below meth c s₁ [] 0 0 := Stand.of_body Bd
 have e0 : s₁.heap = h0 := by rw [← hh, Bd.state]; rfl
 have N0 := Fr.nil n0
 have Z0 : n0 ≤ h0.size := Nat.le_trans (Nat.le_of_eq O0.1.symm) O0.2.1
 obtain ⟨S0, hS0⟩ : ∃ z, z = s₁.setTop (entryFrame m #[(.ref a0)] 3) := ⟨_, rfl⟩
 have pre0 : ∀ tg, AT p e below s₁ m 0 #[rv a0, un, un] [] tg → Steps p.tables e below S0 tg := fun tg kg => by rw [hS0]; exact castTop (ef_15_1 m a0) kg
 obtain ⟨T1, X1, e1, st1⟩ := getF X0 hx hZ hown (host := "") (Or.inl (ow hw 87 rfl)) Via.refl e0 pf3 (g := (mkF m 1 #[rv a0, un, un] [(.ref a0)])) rfl rfl (hb hby d15_1)
 obtain ⟨T2, X2, e2, st2⟩ := getF X1 hx hZ hown (host := "") (Or.inl (ow hw 83 rfl)) Via.refl e1 pf1 (g := (mkF m 16 #[rv a0, un, un] [(.ref a0)])) rfl rfl (hb hby d15_16)
 obtain ⟨T3, X3, e3, st3⟩ := getF X2 hx hZ hown (host := "") (Or.inl (ow hw 103 rfl)) Via.refl e2 pf7 (g := (mkF m 19 #[rv a0, un, un] [(.ref dq)])) rfl rfl (hb hby d15_19)
 obtain ⟨T4, X4, e4, st4⟩ := getF X3 hx hZ hown (host := "") (Or.inl (ow hw 92 rfl)) Via.refl e3 pf2 (g := (mkF m 25 #[rv a0, rv es, un] [(.ref a0), (.ref es)])) rfl rfl (hb hby d15_25)
 obtain ⟨_, _, ⟨T5, L5, k5, n5⟩, -, X5, ⟨Lc5, hQ5, l5, y5, z5⟩, st5⟩ := Jvm.LawKit.callS X4 hx (y := y16) hown (mvT hZ (ow hw 104 rfl)) (mvT hZ (ow hw 105 rfl)) (mvT hZ (ow hw 11 rfl)) (mvT hZ (ow hw 106 rfl)) (by decide) (backOf (W := 0) (rm16_1 l Z ar hw [] es ke i0 i1 h0 n0 O0 pf10) hZ (ow hw 106 rfl) (ow hw 11 rfl) (by decide) (by decide)) (g := (mkF m 28 #[rv a0, rv es, un] [(.int (1 : Int32)), (.ref es)])) rfl (by rw [hml]; rfl) (argsL := [(.ref es), (.int (1 : Int32))]) (rest := []) (lenOf pd_3 rfl) rfl (by show 2 * 0 + _ ≤ _; exact Nat.le_of_eq rfl) (hb hby d15_28) (fun _ _ => ⟨rfl, e4, (by decide : 0 + 0 ≤ _), (by decide : 0 + 0 ≤ _)⟩)
 dsimp only [Pt.U, Pt.locs, Pt.cells, Pt.slots] at X5 l5 y5 z5 st5 hQ5
 subst l5 y5 z5
 obtain ⟨rfl, N5q, e5⟩ := hQ5
 have N5 := Fr.app N0 N5q
 obtain ⟨T6, X6, e6, st6⟩ := getF X5 hx hZ hown (host := "") (Or.inl (ow hw 92 rfl)) Via.refl e5 pf2 (g := (mkF m 35 #[rv a0, rv es, rv i1] [(.ref a0), (.ref a0), (.ref a0)])) rfl rfl (hb hby d15_35)
 obtain ⟨T7, h7, X7, e7, W7, st7⟩ := putF X6 hx hZ hown (host := "") (Or.inl (ow hw 89 rfl)) Via.refl e6 pf4 pf0 (Or.inl (ow hw 90 rfl)) (ow hw 77 rfl) (ty := .int) (by decide) rfl rfl (g := (mkF m 39 #[rv a0, rv es, rv i1] [(.int (1 : Int32)), (.ref a0), (.int (1 : Int32)), (.ref a0)])) rfl rfl (hb hby d15_39)
 have E7_8 := pf0.wr W7
 have F7_9 := pf1.other W7 (Or.inr (slot_ne (Or.inr (ow hw 84 rfl)) (Or.inl (ow hw 90 rfl)) (by decide) (t := (.object "java/util/ArrayDeque")) (t' := .int) (by decide) (by decide)))
 have F7_10 := pf2.other W7 (Or.inr (slot_ne (Or.inl (ow hw 93 rfl)) (Or.inl (ow hw 90 rfl)) (by decide) (t := .int) (t' := .int) (by decide) (by decide)))
 have F7_11 := pf3.other W7 (Or.inr (slot_ne (Or.inl (ow hw 88 rfl)) (Or.inl (ow hw 90 rfl)) (by decide) (t := .int) (t' := .int) (by decide) (by decide)))
 have F7_12 : Fld Z h7 a0 "java/util/ArrayDeque$DeqIterator" "lastRet" "I" (.int (1 : Int32)) := pf4.same W7
 have E7_13 := pf6.wr W7
 have F7_14 := pf7.other W7 (Or.inl (Ne.symm pf12))
 have F7_15 := pf8.other W7 (Or.inl (Ne.symm pf12))
 have F7_16 := pf9.other W7 (Or.inl (Ne.symm pf12))
 have V7_17 := pf10.other W7 (Ne.symm pf13)
 have K7 := (Keep.refl h0 [a0]).wr W7 (Or.inl (List.mem_of_getElem? (i := 0) rfl))
 have O7 := O0.wr W7 pf5
 have N7 := Fr.snoc X7 N5 pf5
 obtain ⟨cl18, Ar18, q18, S18, N18, H18, G18⟩ := id V7_17
 obtain ⟨_, _, ⟨T19, L19, k19, n19⟩, -, X19, ⟨Lc19, hQ19, l19, y19, z19⟩, st19⟩ := Jvm.LawKit.callS X7 hx (y := y9) hown (mvT hZ (ow hw 107 rfl)) (mvT hZ (ow hw 55 rfl)) (mvT hZ (ow hw 11 rfl)) (mvT hZ (ow hw 56 rfl)) (by decide) (backOf (W := 1) (rm9 l Z ar hw [] (1 : Int32) (17 : Int32) h7 n0 O7) hZ (ow hw 56 rfl) (ow hw 11 rfl) (by decide) (by decide)) (g := (mkF m 44 #[rv a0, rv es, rv i1] [(.int (17 : Int32)), (.int (1 : Int32)), (.ref a0)])) rfl (by rw [hml]; rfl) (argsL := [(.int (1 : Int32)), (.int (17 : Int32))]) (rest := [(.ref a0)]) (lenOf pd_2 rfl) rfl (by show 2 * 0 + _ ≤ _; exact Nat.le_of_eq rfl) (hb hby d15_44) (fun _ _ => ⟨rfl, e7, (by decide : 0 + 0 ≤ _), (by decide : 0 + 0 ≤ _)⟩)
 dsimp only [Pt.U, Pt.locs, Pt.cells, Pt.slots] at X19 l19 y19 z19 st19 hQ19
 subst l19 y19 z19
 obtain ⟨rfl, N19q, e19⟩ := hQ19
 have N19 := Fr.app N7 N19q
 have r19 : (f9 (1 : Int32) (17 : Int32)) = (2 : Int32) := by rw [f9, if_pos ((by decide) : ((1 : Int32) + (1 : Int32)) < (17 : Int32))] <;> decide
 rw [r19] at st19
 obtain ⟨T20, h20, X20, e20, W20, st20⟩ := putF X19 hx hZ hown (host := "") (Or.inl (ow hw 92 rfl)) Via.refl e19 F7_10 E7_8 (Or.inl (ow hw 93 rfl)) (ow hw 77 rfl) (ty := .int) (by decide) rfl rfl (g := (mkF m 47 #[rv a0, rv es, rv i1] [(.int (2 : Int32)), (.ref a0)])) rfl rfl (hb hby d15_47)
 have E20_21 := E7_8.wr W20
 have F20_22 := F7_9.other W20 (Or.inr (slot_ne (Or.inr (ow hw 84 rfl)) (Or.inl (ow hw 93 rfl)) (by decide) (t := (.object "java/util/ArrayDeque")) (t' := .int) (by decide) (by decide)))
 have F20_23 : Fld Z h20 a0 "java/util/ArrayDeque$DeqIterator" "cursor" "I" (.int (2 : Int32)) := F7_10.same W20
 have F20_24 := F7_11.other W20 (Or.inr (slot_ne (Or.inl (ow hw 88 rfl)) (Or.inl (ow hw 93 rfl)) (by decide) (t := .int) (t' := .int) (by decide) (by decide)))
 have F20_25 := F7_12.other W20 (Or.inr (slot_ne (Or.inl (ow hw 90 rfl)) (Or.inl (ow hw 93 rfl)) (by decide) (t := .int) (t' := .int) (by decide) (by decide)))
 have E20_26 := E7_13.wr W20
 have F20_27 := F7_14.other W20 (Or.inl (Ne.symm pf12))
 have F20_28 := F7_15.other W20 (Or.inl (Ne.symm pf12))
 have F20_29 := F7_16.other W20 (Or.inl (Ne.symm pf12))
 have V20_30 := V7_17.other W20 (Ne.symm pf13)
 have K20 := K7.wr W20 (Or.inl (List.mem_of_getElem? (i := 0) rfl))
 have O20 := O7.wr W20 pf5
 have N20 := Fr.snoc X20 N19 pf5
 obtain ⟨T31, X31, e31, st31⟩ := getF X20 hx hZ hown (host := "") (Or.inl (ow hw 87 rfl)) Via.refl e20 F20_24 (g := (mkF m 52 #[rv a0, rv es, rv i1] [(.ref a0), (.ref a0)])) rfl rfl (hb hby d15_52)
 obtain ⟨T32, h32, X32, e32, W32, st32⟩ := putF X31 hx hZ hown (host := "") (Or.inl (ow hw 87 rfl)) Via.refl e31 F20_24 E20_21 (Or.inl (ow hw 88 rfl)) (ow hw 77 rfl) (ty := .int) (by decide) rfl rfl (g := (mkF m 57 #[rv a0, rv es, rv i1] [(.int (0 : Int32)), (.ref a0)])) rfl rfl (hb hby d15_57)
 have E32_33 := E20_21.wr W32
 have F32_34 := F20_22.other W32 (Or.inr (slot_ne (Or.inr (ow hw 84 rfl)) (Or.inl (ow hw 88 rfl)) (by decide) (t := (.object "java/util/ArrayDeque")) (t' := .int) (by decide) (by decide)))
 have F32_35 := F20_23.other W32 (Or.inr (slot_ne (Or.inl (ow hw 93 rfl)) (Or.inl (ow hw 88 rfl)) (by decide) (t := .int) (t' := .int) (by decide) (by decide)))
 have F32_36 : Fld Z h32 a0 "java/util/ArrayDeque$DeqIterator" "remaining" "I" (.int (0 : Int32)) := F20_24.same W32
 have F32_37 := F20_25.other W32 (Or.inr (slot_ne (Or.inl (ow hw 90 rfl)) (Or.inl (ow hw 88 rfl)) (by decide) (t := .int) (t' := .int) (by decide) (by decide)))
 have E32_38 := E20_26.wr W32
 have F32_39 := F20_27.other W32 (Or.inl (Ne.symm pf12))
 have F32_40 := F20_28.other W32 (Or.inl (Ne.symm pf12))
 have F32_41 := F20_29.other W32 (Or.inl (Ne.symm pf12))
 have V32_42 := V20_30.other W32 (Ne.symm pf13)
 have K32 := K20.wr W32 (Or.inl (List.mem_of_getElem? (i := 0) rfl))
 have O32 := O20.wr W32 pf5
 have N32 := Fr.snoc X32 N20 pf5
 obtain ⟨fs, hr, hrun, hended, hW, hsame⟩ := X32.leave (v := some (.ref i1)) (fun h => by rw [Bd.returns] at h; cases h)
 subst hS0
 refine ⟨_, _, pre0 _ ?_, hrun, hended, _, _, rfl, ?_, ⟨_, rfl⟩, hW, hsame.mono (by decide) (by decide)⟩
 ·
  refine XS.aloadN X0.here hx rfl (hb hby d15_0) rfl rfl ?_
  show AT p e below s₁ m 1 #[rv a0, un, un] [(.ref a0)] _
  refine st1 _ ?_
  show AT p e below T1 m 4 #[rv a0, un, un] [(.int (1 : Int32))] _
  refine XS.ifYes X1.here hx rfl (pc0 := 4) (pc' := 15) rfl (hb hby d15_4) rfl (XT.i0_gt_t ((by decide) : (0 : Int32) < (1 : Int32))) (by decide) (by decide) ?_
  show AT p e below T1 m 15 #[rv a0, un, un] [] _
  refine XS.aloadN X1.here hx rfl (hb hby d15_15) rfl rfl ?_
  show AT p e below T1 m 16 #[rv a0, un, un] [(.ref a0)] _
  refine st2 _ ?_
  show AT p e below T2 m 19 #[rv a0, un, un] [(.ref dq)] _
  refine st3 _ ?_
  show AT p e below T3 m 22 #[rv a0, un, un] [(.ref es)] _
  refine XS.astoreN X3.here hx rfl (hb hby d15_22) rfl rfl (l' := #[rv a0, rv es, un]) rfl ?_
  show AT p e below T3 m 23 #[rv a0, rv es, un] [] _
  refine XS.aloadN X3.here hx rfl (hb hby d15_23) rfl rfl ?_
  show AT p e below T3 m 24 #[rv a0, rv es, un] [(.ref es)] _
  refine XS.aloadN X3.here hx rfl (hb hby d15_24) rfl rfl ?_
  show AT p e below T3 m 25 #[rv a0, rv es, un] [(.ref a0), (.ref es)] _
  refine st4 _ ?_
  show AT p e below T4 m 28 #[rv a0, rv es, un] [(.int (1 : Int32)), (.ref es)] _
  refine st5 _ ?_
  show AT p e below T5 m 31 #[rv a0, rv es, un] [(.ref i1)] _
  refine XS.astoreN X5.here hx rfl (hb hby d15_31) rfl rfl (l' := #[rv a0, rv es, rv i1]) rfl ?_
  show AT p e below T5 m 32 #[rv a0, rv es, rv i1] [] _
  refine XS.aloadN X5.here hx rfl (hb hby d15_32) rfl rfl ?_
  show AT p e below T5 m 33 #[rv a0, rv es, rv i1] [(.ref a0)] _
  refine XS.aloadN X5.here hx rfl (hb hby d15_33) rfl rfl ?_
  show AT p e below T5 m 34 #[rv a0, rv es, rv i1] [(.ref a0), (.ref a0)] _
  refine XS.aloadN X5.here hx rfl (hb hby d15_34) rfl rfl ?_
  show AT p e below T5 m 35 #[rv a0, rv es, rv i1] [(.ref a0), (.ref a0), (.ref a0)] _
  refine st6 _ ?_
  show AT p e below T6 m 38 #[rv a0, rv es, rv i1] [(.int (1 : Int32)), (.ref a0), (.ref a0)] _
  refine XS.dupX1 X6.here hx rfl (hb hby d15_38) rfl rfl rfl ?_
  show AT p e below T6 m 39 #[rv a0, rv es, rv i1] [(.int (1 : Int32)), (.ref a0), (.int (1 : Int32)), (.ref a0)] _
  refine st7 _ ?_
  show AT p e below T7 m 42 #[rv a0, rv es, rv i1] [(.int (1 : Int32)), (.ref a0)] _
  refine XS.aloadN X7.here hx rfl (hb hby d15_42) rfl rfl ?_
  show AT p e below T7 m 43 #[rv a0, rv es, rv i1] [(.ref es), (.int (1 : Int32)), (.ref a0)] _
  refine X7.arraylength hx (by rw [e7]; exact Ar18.1) (State.isArrayOf_alike hZ.alike Ar18.2.1) (g := (mkF m 43 #[rv a0, rv es, rv i1] [(.ref es), (.int (1 : Int32)), (.ref a0)])) rfl rfl (hb hby d15_43) _ ?_
  rw [len_of S18 N18]
  show AT p e below T7 m 44 #[rv a0, rv es, rv i1] [(.int (17 : Int32)), (.int (1 : Int32)), (.ref a0)] _
  refine st19 _ ?_
  show AT p e below T19 m 47 #[rv a0, rv es, rv i1] [(.int (2 : Int32)), (.ref a0)] _
  refine st20 _ ?_
  show AT p e below T20 m 50 #[rv a0, rv es, rv i1] [] _
  refine XS.aloadN X20.here hx rfl (hb hby d15_50) rfl rfl ?_
  show AT p e below T20 m 51 #[rv a0, rv es, rv i1] [(.ref a0)] _
  refine XS.dup X20.here hx rfl (hb hby d15_51) rfl rfl ?_
  show AT p e below T20 m 52 #[rv a0, rv es, rv i1] [(.ref a0), (.ref a0)] _
  refine st31 _ ?_
  show AT p e below T31 m 55 #[rv a0, rv es, rv i1] [(.int (1 : Int32)), (.ref a0)] _
  refine XS.iconst X31.here hx rfl (hb hby d15_55) ?_
  show AT p e below T31 m 56 #[rv a0, rv es, rv i1] [(.int (1 : Int32)), (.int (1 : Int32)), (.ref a0)] _
  refine XS.isub X31.here hx rfl (hb hby d15_56) rfl ?_
  show AT p e below T31 m 57 #[rv a0, rv es, rv i1] [(.int (0 : Int32)), (.ref a0)] _
  refine st32 _ ?_
  show AT p e below T32 m 60 #[rv a0, rv es, rv i1] [] _
  refine XS.aloadN X32.here hx rfl (hb hby d15_60) rfl rfl ?_
  show AT p e below T32 m 61 #[rv a0, rv es, rv i1] [(.ref i1)] _
  exact retOut X32 hx (t := (.object "java/lang/Object")) (i := .areturn) Bd.returns rfl (Or.inr (Or.inr (Or.inr (Or.inr ⟨rfl, rfl, rfl⟩)))) (hb hby d15_61) hr
 ·
  show Q15_1 Z a0 dq es ke i0 i1 h0 n0 _ T32.heap _
  rw [e32]
  exact ⟨rfl, N32, K32, E32_33, F32_34, F32_35, F32_36, F32_37⟩

theorem d12_0 : decode prog_29_method_4_code 0 = .ok (.aload_n 0, 1) := by decide +kernel
theorem d12_1 : decode prog_29_method_4_code 1 = .ok (.getfield 10, 3) := by decide +kernel
theorem d12_4 : decode prog_29_method_4_code 4 = .ok (.invokevirtual 54, 3) := by decide +kernel
theorem d12_7 : decode prog_29_method_4_code 7 = .ok (.astore_n 1, 1) := by decide +kernel
theorem d12_8 : decode prog_29_method_4_code 8 = .ok (.aload_n 1, 1) := by decide +kernel
theorem d12_9 : decode prog_29_method_4_code 9 = .ok (.invokeinterface 58 1, 5) := by decide +kernel
theorem d12_14 : decode prog_29_method_4_code 14 = .ok (.pop, 1) := by decide +kernel
theorem d12_15 : decode prog_29_method_4_code 15 = .ok (.aload_n 1, 1) := by decide +kernel
theorem d12_16 : decode prog_29_method_4_code 16 = .ok (.invokeinterface 58 1, 5) := by decide +kernel
theorem d12_21 : decode prog_29_method_4_code 21 = .ok (.checkcast 31, 3) := by decide +kernel
theorem d12_24 : decode prog_29_method_4_code 24 = .ok (.iconst 0, 1) := by decide +kernel
theorem d12_25 : decode prog_29_method_4_code 25 = .ok (.laload, 1) := by decide +kernel
theorem d12_26 : decode prog_29_method_4_code 26 = .ok (.lreturn, 1) := by decide +kernel
theorem ef_12 (m : MethodId) (a0 : Addr) : entryFrame m #[(.ref a0)] 2 = mkF m 0 #[rv a0, un] [] := by first | (simp [entryFrame, mkF, argsToLocals, Value.category]; done) | rfl
def Q12 (Z : State) (a0 : Addr) (dq : Addr) (es : Addr) (ke : ClassId) (i0 : Addr) (i1 : Addr) (ki0 : ClassId) (ki1 : ClassId) (t0 : Int64) (d0 : Int64) (t1 : Int64) (d1 : Int64) (h0 : Heap) (n0 : Nat) (v : Option Value) (h : Heap) (L : List Loc) : Prop := v = some (.long t1) ∧ Fr n0 L ∧ Keep h0 h []
set_option maxRecDepth 65536 in
set_option maxHeartbeats 40000000 in
theorem rm12 (l : Launch) (Z : State) (ar : Array Value) (hw : ∀ d ∈ tables_1, d.before ar Z = true) (ws : List Jvm.Cond) (a0 : Addr) (dq : Addr) (es : Addr) (ke : ClassId) (i0 : Addr) (i1 : Addr) (ki0 : ClassId) (ki1 : ClassId) (t0 : Int64) (d0 : Int64) (t1 : Int64) (d1 : Int64) (h0 : Heap) (n0 : Nat) (O0 : Old Z n0 h0) (pf0 : Exa Z h0 a0 "com/example/minderd/minderd/process/Listings") (pf1 : Fld Z h0 a0 "com/example/minderd/minderd/process/Listings" "recent" "Ljava/util/ArrayDeque;" (.ref dq)) (pf2 : Exa Z h0 dq "java/util/ArrayDeque") (pf3 : Fld Z h0 dq "java/util/ArrayDeque" "elements" "[Ljava/lang/Object;" (.ref es)) (pf4 : Fld Z h0 dq "java/util/ArrayDeque" "head" "I" (.int (0 : Int32))) (pf5 : Fld Z h0 dq "java/util/ArrayDeque" "tail" "I" (.int (2 : Int32))) (pf6 : Arv Z h0 es ke (.object "java/lang/Object") (17 : Int32) [(.ref i0), (.ref i1)] .null) (pf7 : Ovr Z ke "java/lang/Object") (pf8 : Exa Z h0 i0 "[J") (pf9 : Exa Z h0 i1 "[J") (pf10 : Arv Z h0 i0 ki0 .long (2 : Int32) [(.long t0), (.long d0)] (.long (0 : Int64))) (pf11 : Arv Z h0 i1 ki1 .long (2 : Int32) [(.long t1), (.long d1)] (.long (0 : Int64))) :
    MetFree l y12 (head1 (Jvm.Cond.code y12 prog_29_method_4_code 2 (some .long) :: ws) ({ frames := 4, cells := 1, slots := 4, locals := 53 } : Room)) (fun a U => a = #[(.ref a0)] ∧ Z.Warmed39 U.vm ∧ U.heap = h0) (fun _ _ _ _ _ => True) (fun _ U o U' => ∃ v L, o = .returned v ∧ Q12 Z a0 dq es ke i0 i1 ki0 ki1 t0 d0 t1 d1 h0 n0 v U'.heap L ∧ FrameEnd U o U' L ({ frames := 4, cells := 1, slots := 4, locals := 53 } : Room).cells ({ frames := 4, cells := 1, slots := 4, locals := 53 } : Room).slots) := by
 refine MetFree.of_bodySF (plainFor_of_name pn_2) hisR ?_
 intro p e s m args below meth c s₁ Bd hml0 hP hK
 obtain ⟨rfl, hZ, hh⟩ := hP
 have hx := Bd.exec
 have hby := Bd.bytes
 have hml : c.maxLocals = 2 := hml0
 have hown : s.vm.findClass "com/example/minderd/minderd/process/Listings" = some m.cls := findClass_of_methodNamed Bd.named
 have hnm := (name_of_methodNamed Bd.named Bd.method).1
 have X0 : Stand p l e ({ frames := 4, cells := 1, slots := 4, locals := 53 } : Room) s m #[(.ref a0)] below meth c s₁ [] 0 0 := Stand.of_body Bd
 have e0 : s₁.heap = h0 := by rw [← hh, Bd.state]; rfl
 have N0 := Fr.nil n0
 have Z0 : n0 ≤ h0.size := Nat.le_trans (Nat.le_of_eq O0.1.symm) O0.2.1
 obtain ⟨S0, hS0⟩ : ∃ z, z = s₁.setTop (entryFrame m #[(.ref a0)] 2) := ⟨_, rfl⟩
 have pre0 : ∀ tg, AT p e below s₁ m 0 #[rv a0, un] [] tg → Steps p.tables e below S0 tg := fun tg kg => by rw [hS0]; exact castTop (ef_12 m a0) kg
 obtain ⟨T1, X1, e1, st1⟩ := getF X0 hx hZ hown (host := "") (Or.inl (ow hw 26 rfl)) Via.refl e0 pf1 (g := (mkF m 1 #[rv a0, un] [(.ref a0)])) rfl rfl (hb hby d12_1)
 obtain ⟨cq2, kq2, q2a, q2b, q2c⟩ := isOf hZ e1 pf2
 obtain ⟨_, _, ⟨T2, L2, k2, n2⟩, -, X2, ⟨Lc2, hQ2, l2, y2, z2⟩, st2⟩ := X1.virtualBack hx (y := y13) (z := y13) hown (mvT hZ (ow hw 71 rfl)) (mvT hZ (ow hw 72 rfl)) (notFace_of_selects (args := #[]) (mvT hZ (ow hw 74 rfl))) (mvT hZ (ow hw 74 rfl)) (mvT hZ (ow hw 73 rfl)) (by decide) (backOf (W := 0) (rm13 l Z ar hw [] dq es ke i0 i1 h0 n0 O0 pf2 pf3 pf4 pf5 pf6 pf7) hZ (ow hw 75 rfl) (ow hw 11 rfl) (by decide) (by decide)) q2a q2c (g := (mkF m 4 #[rv a0, un] [(.ref dq)])) rfl (by rw [hml]; rfl) (Steps.refl _) (argsL := []) (rest := []) (lenOf pd_6 rfl) rfl (by show 2 * 0 + _ ≤ _; exact Nat.le_of_eq rfl) (hb hby d12_4) (fun _ _ => ⟨rfl, e1, (by decide : 0 + 1 ≤ _), (by decide : 0 + 4 ≤ _)⟩)
 dsimp only [Pt.U, Pt.locs, Pt.cells, Pt.slots] at X2 l2 y2 z2 st2 hQ2
 subst l2 y2 z2
 obtain ⟨it_2, rfl, N2q, Kq2, u2_0, u2_1, u2_2, u2_3, u2_4, u2_5⟩ := hQ2
 have N2 := Fr.app N0 N2q
 have E2_3 := pf0.keep Kq2
 have F2_4 := pf1.keep Kq2 nin0
 have E2_5 := pf2.keep Kq2
 have F2_6 := pf3.keep Kq2 nin0
 have F2_7 := pf4.keep Kq2 nin0
 have F2_8 := pf5.keep Kq2 nin0
 have V2_9 := pf6.keep Kq2 nin0
 have E2_10 := pf8.keep Kq2
 have E2_11 := pf9.keep Kq2
 have V2_12 := pf10.keep Kq2 nin0
 have V2_13 := pf11.keep Kq2 nin0
 have K2 := (Keep.refl h0 []).trans Kq2 all0
 have O2 := O0.keep Kq2 all0
 have sz14 : h0.size ≤ it_2 := Nat.le_trans (Keep.refl h0 []).1 u2_5
 have gn14 : n0 ≤ it_2 := Nat.le_trans (Nat.le_trans (Nat.le_of_eq O0.1.symm) O0.2.1) u2_5
 have ne15 : a0 ≠ it_2 := Nat.ne_of_lt (Nat.lt_of_lt_of_le (pf0).lt u2_5)
 have ne16 : dq ≠ it_2 := Nat.ne_of_lt (Nat.lt_of_lt_of_le (pf2).lt u2_5)
 have ne17 : es ≠ it_2 := Nat.ne_of_lt (Nat.lt_of_lt_of_le (pf6).lt u2_5)
 have ne18 : i0 ≠ it_2 := Nat.ne_of_lt (Nat.lt_of_lt_of_le (pf8).lt u2_5)
 have ne19 : i1 ≠ it_2 := Nat.ne_of_lt (Nat.lt_of_lt_of_le (pf9).lt u2_5)
 obtain ⟨cq20, kq20, q20a, q20b, q20c⟩ := isOf hZ rfl u2_0
 obtain ⟨_, _, ⟨T20, L20, k20, n20⟩, -, X20, ⟨Lc20, hQ20, l20, y20, z20⟩, st20⟩ := X2.interfaceBack hx (xi := (⟨"java/util/Iterator", "next", "()Ljava/lang/Object;"⟩ : MethodName)) (y := y15) hown (mvT hZ (ow hw 94 rfl)) (mvT hZ (ow hw 95 rfl)) (mvT hZ (ow hw 96 rfl)) (mvT hZ (ow hw 97 rfl)) (mvT hZ (ow hw 98 rfl)) (mvT hZ (ow hw 99 rfl)) (mvT hZ (ow hw 100 rfl)) (mvT hZ (ow hw 101 rfl)) (by decide) (backOf (W := 0) (rm15_0 l Z ar hw [] it_2 dq es ke i0 i1 T2.heap n0 O2 u2_0 u2_1 u2_2 u2_3 u2_4 gn14 E2_5 F2_6 F2_7 F2_8 V2_9 pf7 (Ne.symm ne16) (Ne.symm ne17)) hZ (ow hw 102 rfl) (ow hw 78 rfl) (by decide) (by decide)) q20a q20b q20c (g := (mkF m 9 #[rv a0, rv it_2] [(.ref it_2)])) rfl (by rw [hml]; rfl) (Steps.refl _) (argsL := []) (rest := []) (lenOf pd_7 rfl) rfl (by show 2 * 0 + _ ≤ _; exact Nat.le_of_eq rfl) (hb hby d12_9) (fun _ _ => ⟨rfl, rfl, (by decide : 1 + 0 ≤ _), (by decide : 4 + 0 ≤ _)⟩)
 dsimp only [Pt.U, Pt.locs, Pt.cells, Pt.slots] at X20 l20 y20 z20 st20 hQ20
 subst l20 y20 z20
 obtain ⟨rfl, N20q, Kq20, u20_0, u20_1, u20_2, u20_3, u20_4⟩ := hQ20
 have N20 := Fr.app N2 N20q
 have E20_21 := E2_3.keep Kq20
 have F20_22 := F2_4.keep Kq20 (ninS ne15 nin0)
 have E20_23 := E2_5.keep Kq20
 have F20_24 := F2_6.keep Kq20 (ninS ne16 nin0)
 have F20_25 := F2_7.keep Kq20 (ninS ne16 nin0)
 have F20_26 := F2_8.keep Kq20 (ninS ne16 nin0)
 have V20_27 := V2_9.keep Kq20 (ninS ne17 nin0)
 have E20_28 := E2_10.keep Kq20
 have E20_29 := E2_11.keep Kq20
 have V20_30 := V2_12.keep Kq20 (ninS ne18 nin0)
 have V20_31 := V2_13.keep Kq20 (ninS ne19 nin0)
 have E20_32 := u2_0.keep Kq20
 have K20 := K2.trans Kq20 (allS (Or.inr sz14) all0)
 have O20 := O2.keep Kq20 (allS gn14 all0)
 obtain ⟨cq33, kq33, q33a, q33b, q33c⟩ := isOf hZ rfl E20_32
 obtain ⟨_, _, ⟨T33, L33, k33, n33⟩, -, X33, ⟨Lc33, hQ33, l33, y33, z33⟩, st33⟩ := X20.interfaceBack hx (xi := (⟨"java/util/Iterator", "next", "()Ljava/lang/Object;"⟩ : MethodName)) (y := y15) hown (mvT hZ (ow hw 94 rfl)) (mvT hZ (ow hw 95 rfl)) (mvT hZ (ow hw 96 rfl)) (mvT hZ (ow hw 97 rfl)) (mvT hZ (ow hw 98 rfl)) (mvT hZ (ow hw 99 rfl)) (mvT hZ (ow hw 100 rfl)) (mvT hZ (ow hw 101 rfl)) (by decide) (backOf (W := 0) (rm15_1 l Z ar hw [] it_2 dq es ke i0 i1 T20.heap n0 O20 E20_32 u20_1 u20_2 u20_3 u20_4 gn14 E20_23 F20_24 F20_25 F20_26 V20_27 pf7 (Ne.symm ne16) (Ne.symm ne17)) hZ (ow hw 102 rfl) (ow hw 78 rfl) (by decide) (by decide)) q33a q33b q33c (g := (mkF m 16 #[rv a0, rv it_2] [(.ref it_2)])) rfl (by rw [hml]; rfl) (Steps.refl _) (argsL := []) (rest := []) (lenOf pd_7 rfl) rfl (by show 2 * 0 + _ ≤ _; exact Nat.le_of_eq rfl) (hb hby d12_16) (fun _ _ => ⟨rfl, rfl, (by decide : 1 + 0 ≤ _), (by decide : 4 + 0 ≤ _)⟩)
 dsimp only [Pt.U, Pt.locs, Pt.cells, Pt.slots] at X33 l33 y33 z33 st33 hQ33
 subst l33 y33 z33
 obtain ⟨rfl, N33q, Kq33, u33_0, u33_1, u33_2, u33_3, u33_4⟩ := hQ33
 have N33 := Fr.app N20 N33q
 have E33_34 := E20_21.keep Kq33
 have F33_35 := F20_22.keep Kq33 (ninS ne15 nin0)
 have E33_36 := E20_23.keep Kq33
 have F33_37 := F20_24.keep Kq33 (ninS ne16 nin0)
 have F33_38 := F20_25.keep Kq33 (ninS ne16 nin0)
 have F33_39 := F20_26.keep Kq33 (ninS ne16 nin0)
 have V33_40 := V20_27.keep Kq33 (ninS ne17 nin0)
 have E33_41 := E20_28.keep Kq33
 have E33_42 := E20_29.keep Kq33
 have V33_43 := V20_30.keep Kq33 (ninS ne18 nin0)
 have V33_44 := V20_31.keep Kq33 (ninS ne19 nin0)
 have E33_45 := E20_32.keep Kq33
 have K33 := K20.trans Kq33 (allS (Or.inr sz14) all0)
 have O33 := O20.keep Kq33 (allS gn14 all0)
 obtain ⟨T46, X46, e46, st46⟩ := castY X33 hx hZ hown (ow hw 108 rfl) rfl (Ins.self E33_42) (g := (mkF m 21 #[rv a0, rv it_2] [(.ref i1)])) rfl rfl (hb hby d12_21)
 obtain ⟨cl47, Ar47, q47, S47, N47, H47, G47⟩ := id V33_44
 have hin47 := own_in (0 : Int32) S47 ⟨by decide, by decide⟩
 have hat47 : cl47.slots[((0 : Int32)).toNatClampNeg]? = some (.long t1) := Has.at H47 hin47 rfl
 obtain ⟨fs, hr, hrun, hended, hW, hsame⟩ := X46.leave (v := some (.long t1)) (fun h => by rw [Bd.returns] at h; cases h)
 subst hS0
 refine ⟨_, _, pre0 _ ?_, hrun, hended, _, _, rfl, ?_, ⟨_, rfl⟩, hW, hsame.mono (by decide) (by decide)⟩
 ·
  refine XS.aloadN X0.here hx rfl (hb hby d12_0) rfl rfl ?_
  show AT p e below s₁ m 1 #[rv a0, un] [(.ref a0)] _
  refine st1 _ ?_
  show AT p e below T1 m 4 #[rv a0, un] [(.ref dq)] _
  refine st2.trans ?_
  show AT p e below T2 m 7 #[rv a0, un] [(.ref it_2)] _
  refine XS.astoreN X2.here hx rfl (hb hby d12_7) rfl rfl (l' := #[rv a0, rv it_2]) rfl ?_
  show AT p e below T2 m 8 #[rv a0, rv it_2] [] _
  refine XS.aloadN X2.here hx rfl (hb hby d12_8) rfl rfl ?_
  show AT p e below T2 m 9 #[rv a0, rv it_2] [(.ref it_2)] _
  refine st20.trans ?_
  show AT p e below T20 m 14 #[rv a0, rv it_2] [(.ref i0)] _
  refine XS.pop X20.here hx rfl (hb hby d12_14) rfl rfl ?_
  show AT p e below T20 m 15 #[rv a0, rv it_2] [] _
  refine XS.aloadN X20.here hx rfl (hb hby d12_15) rfl rfl ?_
  show AT p e below T20 m 16 #[rv a0, rv it_2] [(.ref it_2)] _
  refine st33.trans ?_
  show AT p e below T33 m 21 #[rv a0, rv it_2] [(.ref i1)] _
  refine st46 _ ?_
  show AT p e below T46 m 24 #[rv a0, rv it_2] [(.ref i1)] _
  refine XS.iconst X46.here hx rfl (hb hby d12_24) ?_
  show AT p e below T46 m 25 #[rv a0, rv it_2] [(.int (0 : Int32)), (.ref i1)] _
  refine X46.laload hx (j := (0 : Int32)) (v := (.long t1)) (by rw [e46]; exact Ar47.1) (State.isArrayOf_alike hZ.alike Ar47.2.1) Ar47.2.2 hin47 hat47 (g := (mkF m 25 #[rv a0, rv it_2] [(.int (0 : Int32)), (.ref i1)])) rfl rfl (hb hby d12_25) _ ?_
  show AT p e below T46 m 26 #[rv a0, rv it_2] [(.long t1)] _
  exact retOut X46 hx (t := .long) (i := .lreturn) Bd.returns rfl (Or.inr (Or.inl ⟨rfl, rfl, _, rfl⟩)) (hb hby d12_26) hr
 ·
  show Q12 Z a0 dq es ke i0 i1 ki0 ki1 t0 d0 t1 d1 h0 n0 _ T46.heap _
  rw [e46]
  exact ⟨rfl, N33, K33⟩


theorem own_self (x : Int64) : (x - x) < (2000000000 : Int64) := by
  rw [Int64.lt_iff_toInt_lt]
  have a := c_lsub x x
  have r := rng64 (x - x)
  have k : ((2000000000 : Int64)).toInt = 2000000000 := rfl
  omega
theorem own_wd (w d : Int64) : (w + d) - w = d := by
  rw [← Int64.toInt_inj]
  have a := c_ladd w d; have b := c_lsub (w + d) w; have r := rng64 ((w + d) - w); have r2 := rng64 d
  omega
theorem own_id (x : Int32) : (x.toInt64).toInt32 = x := by
  rw [← Int32.toInt_inj]
  have a := c_l2i x.toInt64; have b := c_i2l x; have r := rng32 x; have r2 := rng32 (x.toInt64).toInt32
  omega

theorem d7_0 : decode prog_29_method_3_code 0 = .ok (.iload 4, 2) := by decide +kernel
theorem d7_2 : decode prog_29_method_3_code 2 = .ok (.ifCond .eq 8, 3) := by decide +kernel
theorem d7_5 : decode prog_29_method_3_code 5 = .ok (.aload_n 0, 1) := by decide +kernel
theorem d7_6 : decode prog_29_method_3_code 6 = .ok (.lload_n 1, 1) := by decide +kernel
theorem d7_7 : decode prog_29_method_3_code 7 = .ok (.putfield 20, 3) := by decide +kernel
theorem d7_10 : decode prog_29_method_3_code 10 = .ok (.iload_n 3, 1) := by decide +kernel
theorem d7_11 : decode prog_29_method_3_code 11 = .ok (.ifCond .le 22, 3) := by decide +kernel
theorem d7_33 : decode prog_29_method_3_code 33 = .ok (.aload_n 0, 1) := by decide +kernel
theorem d7_34 : decode prog_29_method_3_code 34 = .ok (.getfield 10, 3) := by decide +kernel
theorem d7_37 : decode prog_29_method_3_code 37 = .ok (.invokevirtual 40, 3) := by decide +kernel
theorem d7_40 : decode prog_29_method_3_code 40 = .ok (.iconst 1, 1) := by decide +kernel
theorem d7_41 : decode prog_29_method_3_code 41 = .ok (.if_icmp .le 27, 3) := by decide +kernel
theorem d7_68 : decode prog_29_method_3_code 68 = .ok (.return_, 1) := by decide +kernel
theorem ef_7_00 (m : MethodId) (a0 : Addr) (tq : Int64) (pp : Int32) (wz : Int32) : entryFrame m #[(.ref a0), (.long tq), (.int pp), (.int wz)] 5 = mkF m 0 #[rv a0, jv tq, se, iv pp, iv wz] [] := by first | (simp [entryFrame, mkF, argsToLocals, Value.category]; done) | rfl
def Q7_00 (Z : State) (a0 : Addr) (tq : Int64) (pp : Int32) (wz : Int32) (wa : Int64) (dq : Addr) (es : Addr) (ke : ClassId) (h0 : Heap) (n0 : Nat) (v : Option Value) (h : Heap) (L : List Loc) : Prop := v = none ∧ Fr n0 L ∧ Keep h0 h [a0] ∧ Exa Z h a0 "com/example/minderd/minderd/process/Listings" ∧ Fld Z h a0 "com/example/minderd/minderd/process/Listings" "wholeAt" "J" (.long (if wz = (0 : Int32) then wa else tq)) ∧ Fld Z h a0 "com/example/minderd/minderd/process/Listings" "recent" "Ljava/util/ArrayDeque;" (.ref dq)
set_option maxRecDepth 65536 in
set_option maxHeartbeats 40000000 in
theorem rm7_00 (l : Launch) (Z : State) (ar : Array Value) (hw : ∀ d ∈ tables_1, d.before ar Z = true) (ws : List Jvm.Cond) (a0 : Addr) (tq : Int64) (pp : Int32) (wz : Int32) (wa : Int64) (dq : Addr) (es : Addr) (ke : ClassId) (h0 : Heap) (n0 : Nat) (O0 : Old Z n0 h0) (pf0 : Exa Z h0 a0 "com/example/minderd/minderd/process/Listings") (pf1 : Fld Z h0 a0 "com/example/minderd/minderd/process/Listings" "wholeAt" "J" (.long wa)) (pf2 : Fld Z h0 a0 "com/example/minderd/minderd/process/Listings" "recent" "Ljava/util/ArrayDeque;" (.ref dq)) (pf3 : Exa Z h0 dq "java/util/ArrayDeque") (pf4 : Fld Z h0 dq "java/util/ArrayDeque" "elements" "[Ljava/lang/Object;" (.ref es)) (pf5 : Fld Z h0 dq "java/util/ArrayDeque" "head" "I" (.int (0 : Int32))) (pf6 : Fld Z h0 dq "java/util/ArrayDeque" "tail" "I" (.int (0 : Int32))) (pf7 : Arv Z h0 es ke (.object "java/lang/Object") (17 : Int32) [.null, .null] .null) (pf8 : Ovr Z ke "java/lang/Object") (pf9 : n0 ≤ a0) (pf10 : n0 ≤ dq) (pf11 : n0 ≤ es) (pf12 : a0 ≠ dq) (pf13 : a0 ≠ es) (pf14 : dq ≠ es) (hp : ¬ (0 : Int32) < pp) :
    MetFree l y7 (head1 (Jvm.Cond.code y7 prog_29_method_3_code 5 none :: ws) ({ frames := 2, cells := 0, slots := 0, locals := 26 } : Room)) (fun a U => a = #[(.ref a0), (.long tq), (.int pp), (.int wz)] ∧ Z.Warmed39 U.vm ∧ U.heap = h0) (fun _ _ _ _ _ => True) (fun _ U o U' => ∃ v L, o = .returned v ∧ Q7_00 Z a0 tq pp wz wa dq es ke h0 n0 v U'.heap L ∧ FrameEnd U o U' L ({ frames := 2, cells := 0, slots := 0, locals := 26 } : Room).cells ({ frames := 2, cells := 0, slots := 0, locals := 26 } : Room).slots) := by
 refine MetFree.of_bodySF (plainFor_of_name pn_2) hisR ?_
 intro p e s m args below meth c s₁ Bd hml0 hP hK
 obtain ⟨rfl, hZ, hh⟩ := hP
 have hx := Bd.exec
 have hby := Bd.bytes
 have hml : c.maxLocals = 5 := hml0
 have hown : s.vm.findClass "com/example/minderd/minderd/process/Listings" = some m.cls := findClass_of_methodNamed Bd.named
 have hnm := (name_of_methodNamed Bd.named Bd.method).1
 have X0 : Stand p l e ({ frames := 2, cells := 0, slots := 0, locals := 26 } : Room) s m #[(.ref a0), (.long tq), (.int pp), (.int wz)] below meth c s₁ [] 0 0 := Stand.of_body Bd
 have e0 : s₁.heap = h0 := by rw [← hh, Bd.state]; rfl
 have N0 := Fr.nil n0
 have Z0 : n0 ≤ h0.size := Nat.le_trans (Nat.le_of_eq O0.1.symm) O0.2.1
 obtain ⟨S0, hS0⟩ : ∃ z, z = s₁.setTop (entryFrame m #[(.ref a0), (.long tq), (.int pp), (.int wz)] 5) := ⟨_, rfl⟩
 have pre0 : ∀ tg, AT p e below s₁ m 0 #[rv a0, jv tq, se, iv pp, iv wz] [] tg → Steps p.tables e below S0 tg := fun tg kg => by rw [hS0]; exact castTop (ef_7_00 m a0 tq pp wz) kg
 have pre1 : ∀ tg, AT p e below s₁ m 2 #[rv a0, jv tq, se, iv pp, iv wz] [(.int wz)] tg → Steps p.tables e below S0 tg := fun tg kg => pre0 tg (by
  refine XS.iload X0.here hx rfl (hb hby d7_0) rfl ?_
  exact kg)
 rcases Decidable.em (wz = (0 : Int32)) with hc2 | hc2
 ·
  obtain ⟨T3, X3, e3, st3⟩ := getF X0 hx hZ hown (host := "") (Or.inl (ow hw 26 rfl)) Via.refl e0 pf2 (g := (mkF m 34 #[rv a0, jv tq, se, iv pp, iv wz] [(.ref a0)])) rfl rfl (hb hby d7_34)
  obtain ⟨cq4, kq4, q4a, q4b, q4c⟩ := isOf hZ e3 pf3
  obtain ⟨_, _, ⟨T4, L4, k4, n4⟩, -, X4, ⟨Lc4, hQ4, l4, y4, z4⟩, st4⟩ := X3.virtualBack hx (y := y10) (z := y10) hown (mvT hZ (ow hw 57 rfl)) (mvT hZ (ow hw 58 rfl)) (notFace_of_selects (args := #[]) (mvT hZ (ow hw 60 rfl))) (mvT hZ (ow hw 60 rfl)) (mvT hZ (ow hw 59 rfl)) (by decide) (backOf (W := 0) (rm10_0 l Z ar hw [] dq es ke h0 n0 O0 pf4 pf5 pf6 pf7) hZ (ow hw 61 rfl) (ow hw 11 rfl) (by decide) (by decide)) q4a q4c (g := (mkF m 37 #[rv a0, jv tq, se, iv pp, iv wz] [(.ref dq)])) rfl (by rw [hml]; rfl) (Steps.refl _) (argsL := []) (rest := []) (lenOf pd_4 rfl) rfl (by show 2 * 0 + _ ≤ _; exact Nat.le_of_eq rfl) (hb hby d7_37) (fun _ _ => ⟨rfl, e3, (by decide : 0 + 0 ≤ _), (by decide : 0 + 0 ≤ _)⟩)
  dsimp only [Pt.U, Pt.locs, Pt.cells, Pt.slots] at X4 l4 y4 z4 st4 hQ4
  subst l4 y4 z4
  obtain ⟨rfl, N4q, e4⟩ := hQ4
  have N4 := Fr.app N0 N4q
  obtain ⟨fs, hr, hrun, hended, hW, hsame⟩ := X4.leave (v := none) (fun _ => rfl)
  subst hS0
  refine ⟨_, _, pre1 _ ?_, hrun, hended, _, _, rfl, ?_, ⟨_, rfl⟩, hW, hsame.mono (by decide) (by decide)⟩
  ·
   refine XS.ifYes X0.here hx rfl (pc0 := 2) (pc' := 10) rfl (hb hby d7_2) rfl (XT.i0_eq_t hc2) (by decide) (by decide) ?_
   show AT p e below s₁ m 10 #[rv a0, jv tq, se, iv pp, iv wz] [] _
   refine XS.iloadN X0.here hx rfl (hb hby d7_10) rfl ?_
   show AT p e below s₁ m 11 #[rv a0, jv tq, se, iv pp, iv wz] [(.int pp)] _
   refine XS.ifYes X0.here hx rfl (pc0 := 11) (pc' := 33) rfl (hb hby d7_11) rfl (XT.i0_le_t (hp : ¬ ((0 : Int32) < pp))) (by decide) (by decide) ?_
   show AT p e below s₁ m 33 #[rv a0, jv tq, se, iv pp, iv wz] [] _
   refine XS.aloadN X0.here hx rfl (hb hby d7_33) rfl rfl ?_
   show AT p e below s₁ m 34 #[rv a0, jv tq, se, iv pp, iv wz] [(.ref a0)] _
   refine st3 _ ?_
   show AT p e below T3 m 37 #[rv a0, jv tq, se, iv pp, iv wz] [(.ref dq)] _
   refine st4.trans ?_
   show AT p e below T4 m 40 #[rv a0, jv tq, se, iv pp, iv wz] [(.int (0 : Int32))] _
   refine XS.iconst X4.here hx rfl (hb hby d7_40) ?_
   show AT p e below T4 m 41 #[rv a0, jv tq, se, iv pp, iv wz] [(.int (1 : Int32)), (.int (0 : Int32))] _
   refine XS.icmpYes X4.here hx rfl (pc0 := 41) (pc' := 68) rfl (hb hby d7_41) rfl (XT.ii_le_t ((by decide) : ¬ ((1 : Int32) < (0 : Int32)))) (by decide) (by decide) ?_
   show AT p e below T4 m 68 #[rv a0, jv tq, se, iv pp, iv wz] [] _
   exact X4.returnOut hx Bd.returns (hb hby d7_68) hr
  ·
   show Q7_00 Z a0 tq pp wz wa dq es ke h0 n0 _ T4.heap _
   rw [e4]
   exact ⟨rfl, N4, (Keep.refl h0 [a0]), pf0, (by rw [if_pos hc2]; exact pf1), pf2⟩
 ·
  obtain ⟨T5, h5, X5, e5, W5, st5⟩ := putF X0 hx hZ hown (host := "") (Or.inl (ow hw 65 rfl)) Via.refl e0 pf1 pf0 (Or.inl (ow hw 66 rfl)) (ow hw 1 rfl) (ty := .long) (by decide) rfl rfl (g := (mkF m 7 #[rv a0, jv tq, se, iv pp, iv wz] [(.long tq), (.ref a0)])) rfl rfl (hb hby d7_7)
  have E5_6 := pf0.wr W5
  have F5_7 : Fld Z h5 a0 "com/example/minderd/minderd/process/Listings" "wholeAt" "J" (.long tq) := pf1.same W5
  have F5_8 := pf2.other W5 (Or.inr (slot_ne (Or.inr (ow hw 27 rfl)) (Or.inl (ow hw 66 rfl)) (by decide) (t := (.object "java/util/ArrayDeque")) (t' := .long) (by decide) (by decide)))
  have E5_9 := pf3.wr W5
  have F5_10 := pf4.other W5 (Or.inl (Ne.symm pf12))
  have F5_11 := pf5.other W5 (Or.inl (Ne.symm pf12))
  have F5_12 := pf6.other W5 (Or.inl (Ne.symm pf12))
  have V5_13 := pf7.other W5 (Ne.symm pf13)
  have K5 := (Keep.refl h0 [a0]).wr W5 (Or.inl (List.mem_of_getElem? (i := 0) rfl))
  have O5 := O0.wr W5 pf9
  have N5 := Fr.snoc X5 N0 pf9
  obtain ⟨T14, X14, e14, st14⟩ := getF X5 hx hZ hown (host := "") (Or.inl (ow hw 26 rfl)) Via.refl e5 F5_8 (g := (mkF m 34 #[rv a0, jv tq, se, iv pp, iv wz] [(.ref a0)])) rfl rfl (hb hby d7_34)
  obtain ⟨cq15, kq15, q15a, q15b, q15c⟩ := isOf hZ e14 E5_9
  obtain ⟨_, _, ⟨T15, L15, k15, n15⟩, -, X15, ⟨Lc15, hQ15, l15, y15, z15⟩, st15⟩ := X14.virtualBack hx (y := y10) (z := y10) hown (mvT hZ (ow hw 57 rfl)) (mvT hZ (ow hw 58 rfl)) (notFace_of_selects (args := #[]) (mvT hZ (ow hw 60 rfl))) (mvT hZ (ow hw 60 rfl)) (mvT hZ (ow hw 59 rfl)) (by decide) (backOf (W := 0) (rm10_0 l Z ar hw [] dq es ke h5 n0 O5 F5_10 F5_11 F5_12 V5_13) hZ (ow hw 61 rfl) (ow hw 11 rfl) (by decide) (by decide)) q15a q15c (g := (mkF m 37 #[rv a0, jv tq, se, iv pp, iv wz] [(.ref dq)])) rfl (by rw [hml]; rfl) (Steps.refl _) (argsL := []) (rest := []) (lenOf pd_4 rfl) rfl (by show 2 * 0 + _ ≤ _; exact Nat.le_of_eq rfl) (hb hby d7_37) (fun _ _ => ⟨rfl, e14, (by decide : 0 + 0 ≤ _), (by decide : 0 + 0 ≤ _)⟩)
  dsimp only [Pt.U, Pt.locs, Pt.cells, Pt.slots] at X15 l15 y15 z15 st15 hQ15
  subst l15 y15 z15
  obtain ⟨rfl, N15q, e15⟩ := hQ15
  have N15 := Fr.app N5 N15q
  obtain ⟨fs, hr, hrun, hended, hW, hsame⟩ := X15.leave (v := none) (fun _ => rfl)
  subst hS0
  refine ⟨_, _, pre1 _ ?_, hrun, hended, _, _, rfl, ?_, ⟨_, rfl⟩, hW, hsame.mono (by decide) (by decide)⟩
  ·
   refine XS.ifNo X0.here hx rfl (hb hby d7_2) rfl (XT.i0_eq_f hc2) ?_
   show AT p e below s₁ m 5 #[rv a0, jv tq, se, iv pp, iv wz] [] _
   refine XS.aloadN X0.here hx rfl (hb hby d7_5) rfl rfl ?_
   show AT p e below s₁ m 6 #[rv a0, jv tq, se, iv pp, iv wz] [(.ref a0)] _
   refine XS.lloadN X0.here hx rfl (hb hby d7_6) rfl ?_
   show AT p e below s₁ m 7 #[rv a0, jv tq, se, iv pp, iv wz] [(.long tq), (.ref a0)] _
   refine st5 _ ?_
   show AT p e below T5 m 10 #[rv a0, jv tq, se, iv pp, iv wz] [] _
   refine XS.iloadN X5.here hx rfl (hb hby d7_10) rfl ?_
   show AT p e below T5 m 11 #[rv a0, jv tq, se, iv pp, iv wz] [(.int pp)] _
   refine XS.ifYes X5.here hx rfl (pc0 := 11) (pc' := 33) rfl (hb hby d7_11) rfl (XT.i0_le_t (hp : ¬ ((0 : Int32) < pp))) (by decide) (by decide) ?_
   show AT p e below T5 m 33 #[rv a0, jv tq, se, iv pp, iv wz] [] _
   refine XS.aloadN X5.here hx rfl (hb hby d7_33) rfl rfl ?_
   show AT p e below T5 m 34 #[rv a0, jv tq, se, iv pp, iv wz] [(.ref a0)] _
   refine st14 _ ?_
   show AT p e below T14 m 37 #[rv a0, jv tq, se, iv pp, iv wz] [(.ref dq)] _
   refine st15.trans ?_
   show AT p e below T15 m 40 #[rv a0, jv tq, se, iv pp, iv wz] [(.int (0 : Int32))] _
   refine XS.iconst X15.here hx rfl (hb hby d7_40) ?_
   show AT p e below T15 m 41 #[rv a0, jv tq, se, iv pp, iv wz] [(.int (1 : Int32)), (.int (0 : Int32))] _
   refine XS.icmpYes X15.here hx rfl (pc0 := 41) (pc' := 68) rfl (hb hby d7_41) rfl (XT.ii_le_t ((by decide) : ¬ ((1 : Int32) < (0 : Int32)))) (by decide) (by decide) ?_
   show AT p e below T15 m 68 #[rv a0, jv tq, se, iv pp, iv wz] [] _
   exact X15.returnOut hx Bd.returns (hb hby d7_68) hr
  ·
   show Q7_00 Z a0 tq pp wz wa dq es ke h0 n0 _ T15.heap _
   rw [e15]
   exact ⟨rfl, N15, K5, E5_6, (by rw [if_neg hc2]; exact F5_7), F5_8⟩

theorem d7_14 : decode prog_29_method_3_code 14 = .ok (.aload_n 0, 1) := by decide +kernel
theorem d7_15 : decode prog_29_method_3_code 15 = .ok (.getfield 10, 3) := by decide +kernel
theorem d7_18 : decode prog_29_method_3_code 18 = .ok (.iconst 2, 1) := by decide +kernel
theorem d7_19 : decode prog_29_method_3_code 19 = .ok (.newarray .long, 2) := by decide +kernel
theorem d7_21 : decode prog_29_method_3_code 21 = .ok (.dup, 1) := by decide +kernel
theorem d7_22 : decode prog_29_method_3_code 22 = .ok (.iconst 0, 1) := by decide +kernel
theorem d7_23 : decode prog_29_method_3_code 23 = .ok (.lload_n 1, 1) := by decide +kernel
theorem d7_24 : decode prog_29_method_3_code 24 = .ok (.lastore, 1) := by decide +kernel
theorem d7_25 : decode prog_29_method_3_code 25 = .ok (.dup, 1) := by decide +kernel
theorem d7_26 : decode prog_29_method_3_code 26 = .ok (.iconst 1, 1) := by decide +kernel
theorem d7_27 : decode prog_29_method_3_code 27 = .ok (.iload_n 3, 1) := by decide +kernel
theorem d7_28 : decode prog_29_method_3_code 28 = .ok (.i2l, 1) := by decide +kernel
theorem d7_29 : decode prog_29_method_3_code 29 = .ok (.lastore, 1) := by decide +kernel
theorem d7_30 : decode prog_29_method_3_code 30 = .ok (.invokevirtual 36, 3) := by decide +kernel
theorem ef_7_01 (m : MethodId) (a0 : Addr) (tq : Int64) (pp : Int32) (wz : Int32) : entryFrame m #[(.ref a0), (.long tq), (.int pp), (.int wz)] 5 = mkF m 0 #[rv a0, jv tq, se, iv pp, iv wz] [] := by first | (simp [entryFrame, mkF, argsToLocals, Value.category]; done) | rfl
def Q7_01 (Z : State) (a0 : Addr) (tq : Int64) (pp : Int32) (wz : Int32) (wa : Int64) (dq : Addr) (es : Addr) (ke : ClassId) (h0 : Heap) (n0 : Nat) (v : Option Value) (h : Heap) (L : List Loc) : Prop := ∃ (nw : Addr) (kn : ClassId), v = none ∧ Fr n0 L ∧ Keep h0 h [a0, dq, es] ∧ Exa Z h a0 "com/example/minderd/minderd/process/Listings" ∧ Fld Z h a0 "com/example/minderd/minderd/process/Listings" "wholeAt" "J" (.long (if wz = (0 : Int32) then wa else tq)) ∧ Fld Z h a0 "com/example/minderd/minderd/process/Listings" "recent" "Ljava/util/ArrayDeque;" (.ref dq) ∧ Fld Z h dq "java/util/ArrayDeque" "elements" "[Ljava/lang/Object;" (.ref es) ∧ Fld Z h dq "java/util/ArrayDeque" "head" "I" (.int (0 : Int32)) ∧ Fld Z h dq "java/util/ArrayDeque" "tail" "I" (.int (1 : Int32)) ∧ Arv Z h es ke (.object "java/lang/Object") (17 : Int32) [(.ref nw), .null] .null ∧ Exa Z h nw "[J" ∧ Arv Z h nw kn .long (2 : Int32) [(.long tq), (.long (pp.toInt64))] (.long (0 : Int64)) ∧ h0.size ≤ nw
set_option maxRecDepth 65536 in
set_option maxHeartbeats 40000000 in
theorem rm7_01 (l : Launch) (Z : State) (ar : Array Value) (hw : ∀ d ∈ tables_1, d.before ar Z = true) (ws : List Jvm.Cond) (a0 : Addr) (tq : Int64) (pp : Int32) (wz : Int32) (wa : Int64) (dq : Addr) (es : Addr) (ke : ClassId) (h0 : Heap) (n0 : Nat) (O0 : Old Z n0 h0) (pf0 : Exa Z h0 a0 "com/example/minderd/minderd/process/Listings") (pf1 : Fld Z h0 a0 "com/example/minderd/minderd/process/Listings" "wholeAt" "J" (.long wa)) (pf2 : Fld Z h0 a0 "com/example/minderd/minderd/process/Listings" "recent" "Ljava/util/ArrayDeque;" (.ref dq)) (pf3 : Exa Z h0 dq "java/util/ArrayDeque") (pf4 : Fld Z h0 dq "java/util/ArrayDeque" "elements" "[Ljava/lang/Object;" (.ref es)) (pf5 : Fld Z h0 dq "java/util/ArrayDeque" "head" "I" (.int (0 : Int32))) (pf6 : Fld Z h0 dq "java/util/ArrayDeque" "tail" "I" (.int (0 : Int32))) (pf7 : Arv Z h0 es ke (.object "java/lang/Object") (17 : Int32) [.null, .null] .null) (pf8 : Ovr Z ke "java/lang/Object") (pf9 : n0 ≤ a0) (pf10 : n0 ≤ dq) (pf11 : n0 ≤ es) (pf12 : a0 ≠ dq) (pf13 : a0 ≠ es) (pf14 : dq ≠ es) (hp : (0 : Int32) < pp) :
    MetFree l y7 (head1 (Jvm.Cond.code y7 prog_29_method_3_code 5 none :: ws) ({ frames := 2, cells := 1, slots := 2, locals := 29 } : Room)) (fun a U => a = #[(.ref a0), (.long tq), (.int pp), (.int wz)] ∧ Z.Warmed39 U.vm ∧ U.heap = h0) (fun _ _ _ _ _ => True) (fun _ U o U' => ∃ v L, o = .returned v ∧ Q7_01 Z a0 tq pp wz wa dq es ke h0 n0 v U'.heap L ∧ FrameEnd U o U' L ({ frames := 2, cells := 1, slots := 2, locals := 29 } : Room).cells ({ frames := 2, cells := 1, slots := 2, locals := 29 } : Room).slots) := by
 refine MetFree.of_bodySF (plainFor_of_name pn_2) hisR ?_
 intro p e s m args below meth c s₁ Bd hml0 hP hK
 obtain ⟨rfl, hZ, hh⟩ := hP
 have hx := Bd.exec
 have hby := Bd.bytes
 have hml : c.maxLocals = 5 := hml0
 have hown : s.vm.findClass "com/example/minderd/minderd/process/Listings" = some m.cls := findClass_of_methodNamed Bd.named
 have hnm := (name_of_methodNamed Bd.named Bd.method).1
 have X0 : Stand p l e ({ frames := 2, cells := 1, slots := 2, locals := 29 } : Room) s m #[(.ref a0), (.long tq), (.int pp), (.int wz)] below meth c s₁ [] 0 0 := Stand.of_body Bd
 have e0 : s₁.heap = h0 := by rw [← hh, Bd.state]; rfl
 have N0 := Fr.nil n0
 have Z0 : n0 ≤ h0.size := Nat.le_trans (Nat.le_of_eq O0.1.symm) O0.2.1
 obtain ⟨S0, hS0⟩ : ∃ z, z = s₁.setTop (entryFrame m #[(.ref a0), (.long tq), (.int pp), (.int wz)] 5) := ⟨_, rfl⟩
 have pre0 : ∀ tg, AT p e below s₁ m 0 #[rv a0, jv tq, se, iv pp, iv wz] [] tg → Steps p.tables e below S0 tg := fun tg kg => by rw [hS0]; exact castTop (ef_7_01 m a0 tq pp wz) kg
 have pre1 : ∀ tg, AT p e below s₁ m 2 #[rv a0, jv tq, se, iv pp, iv wz] [(.int wz)] tg → Steps p.tables e below S0 tg := fun tg kg => pre0 tg (by
  refine XS.iload X0.here hx rfl (hb hby d7_0) rfl ?_
  exact kg)
 rcases Decidable.em (wz = (0 : Int32)) with hc2 | hc2
 ·
  obtain ⟨T3, X3, e3, st3⟩ := getF X0 hx hZ hown (host := "") (Or.inl (ow hw 26 rfl)) Via.refl e0 pf2 (g := (mkF m 15 #[rv a0, jv tq, se, iv pp, iv wz] [(.ref a0)])) rfl rfl (hb hby d7_15)
  obtain ⟨T4, h4, k4, X4, e4, E4, A4, B4, st4⟩ := newPE X3 hx hZ (ow hw 47 rfl) e3 (g := (mkF m 19 #[rv a0, jv tq, se, iv pp, iv wz] [(.int (2 : Int32)), (.ref dq)])) rfl (hb hby d7_19) rfl (by decide) (cap := 2) (by decide) (by decide) (by decide) (by decide) (ad := "[J") (by decide)
  obtain ⟨b4, g4⟩ : ∃ z, z = h0.size := ⟨_, rfl⟩
  rw [← g4] at A4 B4 st4
  have ne4_5 : a0 ≠ b4 := Nat.ne_of_lt (Nat.lt_of_lt_of_le (pf0).lt (Nat.le_of_eq g4.symm))
  have ne4_6 : dq ≠ b4 := Nat.ne_of_lt (Nat.lt_of_lt_of_le (pf3).lt (Nat.le_of_eq g4.symm))
  have ne4_7 : es ≠ b4 := Nat.ne_of_lt (Nat.lt_of_lt_of_le (pf7).lt (Nat.le_of_eq g4.symm))
  have gn4 : n0 ≤ b4 := Nat.le_trans (Nat.le_trans (Nat.le_of_eq O0.1.symm) O0.2.1) (Nat.le_of_eq g4.symm)
  have sz4 : h0.size ≤ b4 := Nat.le_trans (Keep.refl h0 [a0, dq, es]).1 (Nat.le_of_eq g4.symm)
  have E4_8 := pf0.ext E4
  have F4_9 := pf1.ext E4
  have F4_10 := pf2.ext E4
  have E4_11 := pf3.ext E4
  have F4_12 := pf4.ext E4
  have F4_13 := pf5.ext E4
  have F4_14 := pf6.ext E4
  have V4_15 := pf7.ext E4
  have K4 := (Keep.refl h0 [a0, dq, es]).ext E4
  have O4 := O0.ext E4
  have V4_16 : Arv Z h4 b4 k4 .long (2 : Int32) [(.long (0 : Int64)), (.long (0 : Int64))] (.long (0 : Int64)) := (Arv.new A4 (by decide)).pad (pad_rep [] (.long (0 : Int64)) 2)
  obtain ⟨cl17, Ar17, q17, S17, M17, H17, G17⟩ := id V4_16
  have hin17 := own_in (0 : Int32) S17 ⟨by decide, by decide⟩
  obtain ⟨T17, h17, X17, e17, W17, st17⟩ := stJ X4 hx hZ e4 Ar17 (j := (0 : Int32)) hin17 (g := (mkF m 24 #[rv a0, jv tq, se, iv pp, iv wz] [(.long tq), (.int (0 : Int32)), (.ref b4), (.ref b4), (.ref dq)])) rfl rfl (hb hby d7_24)
  have V17_18 : Arv Z h17 b4 k4 .long (2 : Int32) [(.long tq), (.long (0 : Int64))] (.long (0 : Int64)) := Arv.set Ar17 q17 S17 M17 H17 G17 rfl W17 0 rfl (Nat.le_of_ble_eq_true rfl)
  have E17_19 := E4_8.wr W17
  have F17_20 := F4_9.other W17 (Or.inl ne4_5)
  have F17_21 := F4_10.other W17 (Or.inl ne4_5)
  have E17_22 := E4_11.wr W17
  have F17_23 := F4_12.other W17 (Or.inl ne4_6)
  have F17_24 := F4_13.other W17 (Or.inl ne4_6)
  have F17_25 := F4_14.other W17 (Or.inl ne4_6)
  have V17_26 := V4_15.other W17 ne4_7
  have E17_27 := B4.wr W17
  have K17 := K4.wr W17 (Or.inr sz4)
  have O17 := O4.wr W17 gn4
  have N17 := Fr.snoc X17 N0 gn4
  obtain ⟨cl28, Ar28, q28, S28, M28, H28, G28⟩ := id V17_18
  have hin28 := own_in (1 : Int32) S28 ⟨by decide, by decide⟩
  obtain ⟨T28, h28, X28, e28, W28, st28⟩ := stJ X17 hx hZ e17 Ar28 (j := (1 : Int32)) hin28 (g := (mkF m 29 #[rv a0, jv tq, se, iv pp, iv wz] [(.long (pp.toInt64)), (.int (1 : Int32)), (.ref b4), (.ref b4), (.ref dq)])) rfl rfl (hb hby d7_29)
  have V28_29 : Arv Z h28 b4 k4 .long (2 : Int32) [(.long tq), (.long (pp.toInt64))] (.long (0 : Int64)) := Arv.set Ar28 q28 S28 M28 H28 G28 rfl W28 1 rfl (Nat.le_of_ble_eq_true rfl)
  have E28_30 := E17_19.wr W28
  have F28_31 := F17_20.other W28 (Or.inl ne4_5)
  have F28_32 := F17_21.other W28 (Or.inl ne4_5)
  have E28_33 := E17_22.wr W28
  have F28_34 := F17_23.other W28 (Or.inl ne4_6)
  have F28_35 := F17_24.other W28 (Or.inl ne4_6)
  have F28_36 := F17_25.other W28 (Or.inl ne4_6)
  have V28_37 := V17_26.other W28 ne4_7
  have E28_38 := E17_27.wr W28
  have K28 := K17.wr W28 (Or.inr sz4)
  have O28 := O17.wr W28 gn4
  have N28 := Fr.snoc X28 N17 gn4
  obtain ⟨cq39, kq39, q39a, q39b, q39c⟩ := isOf hZ e28 E28_33
  obtain ⟨_, _, ⟨T39, L39, k39, n39⟩, -, X39, ⟨Lc39, hQ39, l39, y39, z39⟩, st39⟩ := X28.virtualBack hx (y := y8) (z := y8) hown (mvT hZ (ow hw 48 rfl)) (mvT hZ (ow hw 49 rfl)) (notFace_of_selects (args := #[]) (mvT hZ (ow hw 51 rfl))) (mvT hZ (ow hw 51 rfl)) (mvT hZ (ow hw 50 rfl)) (by decide) (backOf (W := 0) (rm8_0 l Z ar hw [] dq b4 es ke h28 n0 O28 E28_33 F28_34 F28_35 F28_36 V28_37 pf8 E28_38 pf10 pf11 pf14 ne4_6 ne4_7) hZ (ow hw 52 rfl) (ow hw 11 rfl) (by decide) (by decide)) q39a q39c (g := (mkF m 30 #[rv a0, jv tq, se, iv pp, iv wz] [(.ref b4), (.ref dq)])) rfl (by rw [hml]; rfl) (Steps.refl _) (argsL := [(.ref b4)]) (rest := []) (lenOf pd_8 rfl) rfl (by show 2 * 0 + _ ≤ _; exact Nat.le_of_eq rfl) (hb hby d7_30) (fun _ _ => ⟨rfl, e28, (by decide : 1 + 0 ≤ _), (by decide : 2 + 0 ≤ _)⟩)
  dsimp only [Pt.U, Pt.locs, Pt.cells, Pt.slots] at X39 l39 y39 z39 st39 hQ39
  subst l39 y39 z39
  obtain ⟨rfl, N39q, Kq39, u39_0, u39_1, u39_2, u39_3, u39_4⟩ := hQ39
  have N39 := Fr.app N28 N39q
  have E39_40 := E28_30.keep Kq39
  have F39_41 := F28_31.keep Kq39 (ninS pf12 (ninS pf13 nin0))
  have F39_42 := F28_32.keep Kq39 (ninS pf12 (ninS pf13 nin0))
  have E39_43 := E28_33.keep Kq39
  have V39_44 := V28_29.keep Kq39 (ninS (Ne.symm ne4_6) (ninS (Ne.symm ne4_7) nin0))
  have E39_45 := E28_38.keep Kq39
  have K39 := K28.trans Kq39 (allS (Or.inl (List.mem_of_getElem? (i := 1) rfl)) (allS (Or.inl (List.mem_of_getElem? (i := 2) rfl)) all0))
  have O39 := O28.keep Kq39 (allS pf10 (allS pf11 all0))
  obtain ⟨T46, X46, e46, st46⟩ := getF X39 hx hZ hown (host := "") (Or.inl (ow hw 26 rfl)) Via.refl rfl F39_42 (g := (mkF m 34 #[rv a0, jv tq, se, iv pp, iv wz] [(.ref a0)])) rfl rfl (hb hby d7_34)
  obtain ⟨cq47, kq47, q47a, q47b, q47c⟩ := isOf hZ e46 E39_43
  obtain ⟨_, _, ⟨T47, L47, k47, n47⟩, -, X47, ⟨Lc47, hQ47, l47, y47, z47⟩, st47⟩ := X46.virtualBack hx (y := y10) (z := y10) hown (mvT hZ (ow hw 57 rfl)) (mvT hZ (ow hw 58 rfl)) (notFace_of_selects (args := #[]) (mvT hZ (ow hw 60 rfl))) (mvT hZ (ow hw 60 rfl)) (mvT hZ (ow hw 59 rfl)) (by decide) (backOf (W := 0) (rm10_1 l Z ar hw [] dq es ke b4 T39.heap n0 O39 u39_1 u39_2 u39_3 u39_4) hZ (ow hw 61 rfl) (ow hw 11 rfl) (by decide) (by decide)) q47a q47c (g := (mkF m 37 #[rv a0, jv tq, se, iv pp, iv wz] [(.ref dq)])) rfl (by rw [hml]; rfl) (Steps.refl _) (argsL := []) (rest := []) (lenOf pd_4 rfl) rfl (by show 2 * 0 + _ ≤ _; exact Nat.le_of_eq rfl) (hb hby d7_37) (fun _ _ => ⟨rfl, e46, (by decide : 1 + 0 ≤ _), (by decide : 2 + 0 ≤ _)⟩)
  dsimp only [Pt.U, Pt.locs, Pt.cells, Pt.slots] at X47 l47 y47 z47 st47 hQ47
  subst l47 y47 z47
  obtain ⟨rfl, N47q, e47⟩ := hQ47
  have N47 := Fr.app N39 N47q
  obtain ⟨fs, hr, hrun, hended, hW, hsame⟩ := X47.leave (v := none) (fun _ => rfl)
  subst hS0
  refine ⟨_, _, pre1 _ ?_, hrun, hended, _, _, rfl, ?_, ⟨_, rfl⟩, hW, hsame.mono (by decide) (by decide)⟩
  ·
   refine XS.ifYes X0.here hx rfl (pc0 := 2) (pc' := 10) rfl (hb hby d7_2) rfl (XT.i0_eq_t hc2) (by decide) (by decide) ?_
   show AT p e below s₁ m 10 #[rv a0, jv tq, se, iv pp, iv wz] [] _
   refine XS.iloadN X0.here hx rfl (hb hby d7_10) rfl ?_
   show AT p e below s₁ m 11 #[rv a0, jv tq, se, iv pp, iv wz] [(.int pp)] _
   refine XS.ifNo X0.here hx rfl (hb hby d7_11) rfl (XT.i0_le_f (hp : (0 : Int32) < pp)) ?_
   show AT p e below s₁ m 14 #[rv a0, jv tq, se, iv pp, iv wz] [] _
   refine XS.aloadN X0.here hx rfl (hb hby d7_14) rfl rfl ?_
   show AT p e below s₁ m 15 #[rv a0, jv tq, se, iv pp, iv wz] [(.ref a0)] _
   refine st3 _ ?_
   show AT p e below T3 m 18 #[rv a0, jv tq, se, iv pp, iv wz] [(.ref dq)] _
   refine XS.iconst X3.here hx rfl (hb hby d7_18) ?_
   show AT p e below T3 m 19 #[rv a0, jv tq, se, iv pp, iv wz] [(.int (2 : Int32)), (.ref dq)] _
   refine st4 _ ?_
   show AT p e below T4 m 21 #[rv a0, jv tq, se, iv pp, iv wz] [(.ref b4), (.ref dq)] _
   refine XS.dup X4.here hx rfl (hb hby d7_21) rfl rfl ?_
   show AT p e below T4 m 22 #[rv a0, jv tq, se, iv pp, iv wz] [(.ref b4), (.ref b4), (.ref dq)] _
   refine XS.iconst X4.here hx rfl (hb hby d7_22) ?_
   show AT p e below T4 m 23 #[rv a0, jv tq, se, iv pp, iv wz] [(.int (0 : Int32)), (.ref b4), (.ref b4), (.ref dq)] _
   refine XS.lloadN X4.here hx rfl (hb hby d7_23) rfl ?_
   show AT p e below T4 m 24 #[rv a0, jv tq, se, iv pp, iv wz] [(.long tq), (.int (0 : Int32)), (.ref b4), (.ref b4), (.ref dq)] _
   refine st17 _ ?_
   show AT p e below T17 m 25 #[rv a0, jv tq, se, iv pp, iv wz] [(.ref b4), (.ref dq)] _
   refine XS.dup X17.here hx rfl (hb hby d7_25) rfl rfl ?_
   show AT p e below T17 m 26 #[rv a0, jv tq, se, iv pp, iv wz] [(.ref b4), (.ref b4), (.ref dq)] _
   refine XS.iconst X17.here hx rfl (hb hby d7_26) ?_
   show AT p e below T17 m 27 #[rv a0, jv tq, se, iv pp, iv wz] [(.int (1 : Int32)), (.ref b4), (.ref b4), (.ref dq)] _
   refine XS.iloadN X17.here hx rfl (hb hby d7_27) rfl ?_
   show AT p e below T17 m 28 #[rv a0, jv tq, se, iv pp, iv wz] [(.int pp), (.int (1 : Int32)), (.ref b4), (.ref b4), (.ref dq)] _
   refine XS.i2l X17.here hx rfl (hb hby d7_28) rfl ?_
   show AT p e below T17 m 29 #[rv a0, jv tq, se, iv pp, iv wz] [(.long (pp.toInt64)), (.int (1 : Int32)), (.ref b4), (.ref b4), (.ref dq)] _
   refine st28 _ ?_
   show AT p e below T28 m 30 #[rv a0, jv tq, se, iv pp, iv wz] [(.ref b4), (.ref dq)] _
   refine st39.trans ?_
   show AT p e below T39 m 33 #[rv a0, jv tq, se, iv pp, iv wz] [] _
   refine XS.aloadN X39.here hx rfl (hb hby d7_33) rfl rfl ?_
   show AT p e below T39 m 34 #[rv a0, jv tq, se, iv pp, iv wz] [(.ref a0)] _
   refine st46 _ ?_
   show AT p e below T46 m 37 #[rv a0, jv tq, se, iv pp, iv wz] [(.ref dq)] _
   refine st47.trans ?_
   show AT p e below T47 m 40 #[rv a0, jv tq, se, iv pp, iv wz] [(.int (1 : Int32))] _
   refine XS.iconst X47.here hx rfl (hb hby d7_40) ?_
   show AT p e below T47 m 41 #[rv a0, jv tq, se, iv pp, iv wz] [(.int (1 : Int32)), (.int (1 : Int32))] _
   refine XS.icmpYes X47.here hx rfl (pc0 := 41) (pc' := 68) rfl (hb hby d7_41) rfl (XT.ii_le_t ((by decide) : ¬ ((1 : Int32) < (1 : Int32)))) (by decide) (by decide) ?_
   show AT p e below T47 m 68 #[rv a0, jv tq, se, iv pp, iv wz] [] _
   exact X47.returnOut hx Bd.returns (hb hby d7_68) hr
  ·
   show Q7_01 Z a0 tq pp wz wa dq es ke h0 n0 _ T47.heap _
   rw [e47]
   exact ⟨b4, k4, rfl, N47, K39, E39_40, (by rw [if_pos hc2]; exact F39_41), F39_42, u39_1, u39_2, u39_3, u39_4, E39_45, V39_44, sz4⟩
 ·
  obtain ⟨T48, h48, X48, e48, W48, st48⟩ := putF X0 hx hZ hown (host := "") (Or.inl (ow hw 65 rfl)) Via.refl e0 pf1 pf0 (Or.inl (ow hw 66 rfl)) (ow hw 1 rfl) (ty := .long) (by decide) rfl rfl (g := (mkF m 7 #[rv a0, jv tq, se, iv pp, iv wz] [(.long tq), (.ref a0)])) rfl rfl (hb hby d7_7)
  have E48_49 := pf0.wr W48
  have F48_50 : Fld Z h48 a0 "com/example/minderd/minderd/process/Listings" "wholeAt" "J" (.long tq) := pf1.same W48
  have F48_51 := pf2.other W48 (Or.inr (slot_ne (Or.inr (ow hw 27 rfl)) (Or.inl (ow hw 66 rfl)) (by decide) (t := (.object "java/util/ArrayDeque")) (t' := .long) (by decide) (by decide)))
  have E48_52 := pf3.wr W48
  have F48_53 := pf4.other W48 (Or.inl (Ne.symm pf12))
  have F48_54 := pf5.other W48 (Or.inl (Ne.symm pf12))
  have F48_55 := pf6.other W48 (Or.inl (Ne.symm pf12))
  have V48_56 := pf7.other W48 (Ne.symm pf13)
  have K48 := (Keep.refl h0 [a0, dq, es]).wr W48 (Or.inl (List.mem_of_getElem? (i := 0) rfl))
  have O48 := O0.wr W48 pf9
  have N48 := Fr.snoc X48 N0 pf9
  obtain ⟨T57, X57, e57, st57⟩ := getF X48 hx hZ hown (host := "") (Or.inl (ow hw 26 rfl)) Via.refl e48 F48_51 (g := (mkF m 15 #[rv a0, jv tq, se, iv pp, iv wz] [(.ref a0)])) rfl rfl (hb hby d7_15)
  obtain ⟨T58, h58, k58, X58, e58, E58, A58, B58, st58⟩ := newPE X57 hx hZ (ow hw 47 rfl) e57 (g := (mkF m 19 #[rv a0, jv tq, se, iv pp, iv wz] [(.int (2 : Int32)), (.ref dq)])) rfl (hb hby d7_19) rfl (by decide) (cap := 2) (by decide) (by decide) (by decide) (by decide) (ad := "[J") (by decide)
  obtain ⟨b58, g58⟩ : ∃ z, z = h48.size := ⟨_, rfl⟩
  rw [← g58] at A58 B58 st58
  have ne58_59 : a0 ≠ b58 := Nat.ne_of_lt (Nat.lt_of_lt_of_le (E48_49).lt (Nat.le_of_eq g58.symm))
  have ne58_60 : dq ≠ b58 := Nat.ne_of_lt (Nat.lt_of_lt_of_le (E48_52).lt (Nat.le_of_eq g58.symm))
  have ne58_61 : es ≠ b58 := Nat.ne_of_lt (Nat.lt_of_lt_of_le (V48_56).lt (Nat.le_of_eq g58.symm))
  have gn58 : n0 ≤ b58 := Nat.le_trans (Nat.le_trans (Nat.le_of_eq O48.1.symm) O48.2.1) (Nat.le_of_eq g58.symm)
  have sz58 : h0.size ≤ b58 := Nat.le_trans K48.1 (Nat.le_of_eq g58.symm)
  have E58_62 := E48_49.ext E58
  have F58_63 := F48_50.ext E58
  have F58_64 := F48_51.ext E58
  have E58_65 := E48_52.ext E58
  have F58_66 := F48_53.ext E58
  have F58_67 := F48_54.ext E58
  have F58_68 := F48_55.ext E58
  have V58_69 := V48_56.ext E58
  have K58 := K48.ext E58
  have O58 := O48.ext E58
  have V58_70 : Arv Z h58 b58 k58 .long (2 : Int32) [(.long (0 : Int64)), (.long (0 : Int64))] (.long (0 : Int64)) := (Arv.new A58 (by decide)).pad (pad_rep [] (.long (0 : Int64)) 2)
  obtain ⟨cl71, Ar71, q71, S71, M71, H71, G71⟩ := id V58_70
  have hin71 := own_in (0 : Int32) S71 ⟨by decide, by decide⟩
  obtain ⟨T71, h71, X71, e71, W71, st71⟩ := stJ X58 hx hZ e58 Ar71 (j := (0 : Int32)) hin71 (g := (mkF m 24 #[rv a0, jv tq, se, iv pp, iv wz] [(.long tq), (.int (0 : Int32)), (.ref b58), (.ref b58), (.ref dq)])) rfl rfl (hb hby d7_24)
  have V71_72 : Arv Z h71 b58 k58 .long (2 : Int32) [(.long tq), (.long (0 : Int64))] (.long (0 : Int64)) := Arv.set Ar71 q71 S71 M71 H71 G71 rfl W71 0 rfl (Nat.le_of_ble_eq_true rfl)
  have E71_73 := E58_62.wr W71
  have F71_74 := F58_63.other W71 (Or.inl ne58_59)
  have F71_75 := F58_64.other W71 (Or.inl ne58_59)
  have E71_76 := E58_65.wr W71
  have F71_77 := F58_66.other W71 (Or.inl ne58_60)
  have F71_78 := F58_67.other W71 (Or.inl ne58_60)
  have F71_79 := F58_68.other W71 (Or.inl ne58_60)
  have V71_80 := V58_69.other W71 ne58_61
  have E71_81 := B58.wr W71
  have K71 := K58.wr W71 (Or.inr sz58)
  have O71 := O58.wr W71 gn58
  have N71 := Fr.snoc X71 N48 gn58
  obtain ⟨cl82, Ar82, q82, S82, M82, H82, G82⟩ := id V71_72
  have hin82 := own_in (1 : Int32) S82 ⟨by decide, by decide⟩
  obtain ⟨T82, h82, X82, e82, W82, st82⟩ := stJ X71 hx hZ e71 Ar82 (j := (1 : Int32)) hin82 (g := (mkF m 29 #[rv a0, jv tq, se, iv pp, iv wz] [(.long (pp.toInt64)), (.int (1 : Int32)), (.ref b58), (.ref b58), (.ref dq)])) rfl rfl (hb hby d7_29)
  have V82_83 : Arv Z h82 b58 k58 .long (2 : Int32) [(.long tq), (.long (pp.toInt64))] (.long (0 : Int64)) := Arv.set Ar82 q82 S82 M82 H82 G82 rfl W82 1 rfl (Nat.le_of_ble_eq_true rfl)
  have E82_84 := E71_73.wr W82
  have F82_85 := F71_74.other W82 (Or.inl ne58_59)
  have F82_86 := F71_75.other W82 (Or.inl ne58_59)
  have E82_87 := E71_76.wr W82
  have F82_88 := F71_77.other W82 (Or.inl ne58_60)
  have F82_89 := F71_78.other W82 (Or.inl ne58_60)
  have F82_90 := F71_79.other W82 (Or.inl ne58_60)
  have V82_91 := V71_80.other W82 ne58_61
  have E82_92 := E71_81.wr W82
  have K82 := K71.wr W82 (Or.inr sz58)
  have O82 := O71.wr W82 gn58
  have N82 := Fr.snoc X82 N71 gn58
  obtain ⟨cq93, kq93, q93a, q93b, q93c⟩ := isOf hZ e82 E82_87
  obtain ⟨_, _, ⟨T93, L93, k93, n93⟩, -, X93, ⟨Lc93, hQ93, l93, y93, z93⟩, st93⟩ := X82.virtualBack hx (y := y8) (z := y8) hown (mvT hZ (ow hw 48 rfl)) (mvT hZ (ow hw 49 rfl)) (notFace_of_selects (args := #[]) (mvT hZ (ow hw 51 rfl))) (mvT hZ (ow hw 51 rfl)) (mvT hZ (ow hw 50 rfl)) (by decide) (backOf (W := 0) (rm8_0 l Z ar hw [] dq b58 es ke h82 n0 O82 E82_87 F82_88 F82_89 F82_90 V82_91 pf8 E82_92 pf10 pf11 pf14 ne58_60 ne58_61) hZ (ow hw 52 rfl) (ow hw 11 rfl) (by decide) (by decide)) q93a q93c (g := (mkF m 30 #[rv a0, jv tq, se, iv pp, iv wz] [(.ref b58), (.ref dq)])) rfl (by rw [hml]; rfl) (Steps.refl _) (argsL := [(.ref b58)]) (rest := []) (lenOf pd_8 rfl) rfl (by show 2 * 0 + _ ≤ _; exact Nat.le_of_eq rfl) (hb hby d7_30) (fun _ _ => ⟨rfl, e82, (by decide : 1 + 0 ≤ _), (by decide : 2 + 0 ≤ _)⟩)
  dsimp only [Pt.U, Pt.locs, Pt.cells, Pt.slots] at X93 l93 y93 z93 st93 hQ93
  subst l93 y93 z93
  obtain ⟨rfl, N93q, Kq93, u93_0, u93_1, u93_2, u93_3, u93_4⟩ := hQ93
  have N93 := Fr.app N82 N93q
  have E93_94 := E82_84.keep Kq93
  have F93_95 := F82_85.keep Kq93 (ninS pf12 (ninS pf13 nin0))
  have F93_96 := F82_86.keep Kq93 (ninS pf12 (ninS pf13 nin0))
  have E93_97 := E82_87.keep Kq93
  have V93_98 := V82_83.keep Kq93 (ninS (Ne.symm ne58_60) (ninS (Ne.symm ne58_61) nin0))
  have E93_99 := E82_92.keep Kq93
  have K93 := K82.trans Kq93 (allS (Or.inl (List.mem_of_getElem? (i := 1) rfl)) (allS (Or.inl (List.mem_of_getElem? (i := 2) rfl)) all0))
  have O93 := O82.keep Kq93 (allS pf10 (allS pf11 all0))
  obtain ⟨T100, X100, e100, st100⟩ := getF X93 hx hZ hown (host := "") (Or.inl (ow hw 26 rfl)) Via.refl rfl F93_96 (g := (mkF m 34 #[rv a0, jv tq, se, iv pp, iv wz] [(.ref a0)])) rfl rfl (hb hby d7_34)
  obtain ⟨cq101, kq101, q101a, q101b, q101c⟩ := isOf hZ e100 E93_97
  obtain ⟨_, _, ⟨T101, L101, k101, n101⟩, -, X101, ⟨Lc101, hQ101, l101, y101, z101⟩, st101⟩ := X100.virtualBack hx (y := y10) (z := y10) hown (mvT hZ (ow hw 57 rfl)) (mvT hZ (ow hw 58 rfl)) (notFace_of_selects (args := #[]) (mvT hZ (ow hw 60 rfl))) (mvT hZ (ow hw 60 rfl)) (mvT hZ (ow hw 59 rfl)) (by decide) (backOf (W := 0) (rm10_1 l Z ar hw [] dq es ke b58 T93.heap n0 O93 u93_1 u93_2 u93_3 u93_4) hZ (ow hw 61 rfl) (ow hw 11 rfl) (by decide) (by decide)) q101a q101c (g := (mkF m 37 #[rv a0, jv tq, se, iv pp, iv wz] [(.ref dq)])) rfl (by rw [hml]; rfl) (Steps.refl _) (argsL := []) (rest := []) (lenOf pd_4 rfl) rfl (by show 2 * 0 + _ ≤ _; exact Nat.le_of_eq rfl) (hb hby d7_37) (fun _ _ => ⟨rfl, e100, (by decide : 1 + 0 ≤ _), (by decide : 2 + 0 ≤ _)⟩)
  dsimp only [Pt.U, Pt.locs, Pt.cells, Pt.slots] at X101 l101 y101 z101 st101 hQ101
  subst l101 y101 z101
  obtain ⟨rfl, N101q, e101⟩ := hQ101
  have N101 := Fr.app N93 N101q
  obtain ⟨fs, hr, hrun, hended, hW, hsame⟩ := X101.leave (v := none) (fun _ => rfl)
  subst hS0
  refine ⟨_, _, pre1 _ ?_, hrun, hended, _, _, rfl, ?_, ⟨_, rfl⟩, hW, hsame.mono (by decide) (by decide)⟩
  ·
   refine XS.ifNo X0.here hx rfl (hb hby d7_2) rfl (XT.i0_eq_f hc2) ?_
   show AT p e below s₁ m 5 #[rv a0, jv tq, se, iv pp, iv wz] [] _
   refine XS.aloadN X0.here hx rfl (hb hby d7_5) rfl rfl ?_
   show AT p e below s₁ m 6 #[rv a0, jv tq, se, iv pp, iv wz] [(.ref a0)] _
   refine XS.lloadN X0.here hx rfl (hb hby d7_6) rfl ?_
   show AT p e below s₁ m 7 #[rv a0, jv tq, se, iv pp, iv wz] [(.long tq), (.ref a0)] _
   refine st48 _ ?_
   show AT p e below T48 m 10 #[rv a0, jv tq, se, iv pp, iv wz] [] _
   refine XS.iloadN X48.here hx rfl (hb hby d7_10) rfl ?_
   show AT p e below T48 m 11 #[rv a0, jv tq, se, iv pp, iv wz] [(.int pp)] _
   refine XS.ifNo X48.here hx rfl (hb hby d7_11) rfl (XT.i0_le_f (hp : (0 : Int32) < pp)) ?_
   show AT p e below T48 m 14 #[rv a0, jv tq, se, iv pp, iv wz] [] _
   refine XS.aloadN X48.here hx rfl (hb hby d7_14) rfl rfl ?_
   show AT p e below T48 m 15 #[rv a0, jv tq, se, iv pp, iv wz] [(.ref a0)] _
   refine st57 _ ?_
   show AT p e below T57 m 18 #[rv a0, jv tq, se, iv pp, iv wz] [(.ref dq)] _
   refine XS.iconst X57.here hx rfl (hb hby d7_18) ?_
   show AT p e below T57 m 19 #[rv a0, jv tq, se, iv pp, iv wz] [(.int (2 : Int32)), (.ref dq)] _
   refine st58 _ ?_
   show AT p e below T58 m 21 #[rv a0, jv tq, se, iv pp, iv wz] [(.ref b58), (.ref dq)] _
   refine XS.dup X58.here hx rfl (hb hby d7_21) rfl rfl ?_
   show AT p e below T58 m 22 #[rv a0, jv tq, se, iv pp, iv wz] [(.ref b58), (.ref b58), (.ref dq)] _
   refine XS.iconst X58.here hx rfl (hb hby d7_22) ?_
   show AT p e below T58 m 23 #[rv a0, jv tq, se, iv pp, iv wz] [(.int (0 : Int32)), (.ref b58), (.ref b58), (.ref dq)] _
   refine XS.lloadN X58.here hx rfl (hb hby d7_23) rfl ?_
   show AT p e below T58 m 24 #[rv a0, jv tq, se, iv pp, iv wz] [(.long tq), (.int (0 : Int32)), (.ref b58), (.ref b58), (.ref dq)] _
   refine st71 _ ?_
   show AT p e below T71 m 25 #[rv a0, jv tq, se, iv pp, iv wz] [(.ref b58), (.ref dq)] _
   refine XS.dup X71.here hx rfl (hb hby d7_25) rfl rfl ?_
   show AT p e below T71 m 26 #[rv a0, jv tq, se, iv pp, iv wz] [(.ref b58), (.ref b58), (.ref dq)] _
   refine XS.iconst X71.here hx rfl (hb hby d7_26) ?_
   show AT p e below T71 m 27 #[rv a0, jv tq, se, iv pp, iv wz] [(.int (1 : Int32)), (.ref b58), (.ref b58), (.ref dq)] _
   refine XS.iloadN X71.here hx rfl (hb hby d7_27) rfl ?_
   show AT p e below T71 m 28 #[rv a0, jv tq, se, iv pp, iv wz] [(.int pp), (.int (1 : Int32)), (.ref b58), (.ref b58), (.ref dq)] _
   refine XS.i2l X71.here hx rfl (hb hby d7_28) rfl ?_
   show AT p e below T71 m 29 #[rv a0, jv tq, se, iv pp, iv wz] [(.long (pp.toInt64)), (.int (1 : Int32)), (.ref b58), (.ref b58), (.ref dq)] _
   refine st82 _ ?_
   show AT p e below T82 m 30 #[rv a0, jv tq, se, iv pp, iv wz] [(.ref b58), (.ref dq)] _
   refine st93.trans ?_
   show AT p e below T93 m 33 #[rv a0, jv tq, se, iv pp, iv wz] [] _
   refine XS.aloadN X93.here hx rfl (hb hby d7_33) rfl rfl ?_
   show AT p e below T93 m 34 #[rv a0, jv tq, se, iv pp, iv wz] [(.ref a0)] _
   refine st100 _ ?_
   show AT p e below T100 m 37 #[rv a0, jv tq, se, iv pp, iv wz] [(.ref dq)] _
   refine st101.trans ?_
   show AT p e below T101 m 40 #[rv a0, jv tq, se, iv pp, iv wz] [(.int (1 : Int32))] _
   refine XS.iconst X101.here hx rfl (hb hby d7_40) ?_
   show AT p e below T101 m 41 #[rv a0, jv tq, se, iv pp, iv wz] [(.int (1 : Int32)), (.int (1 : Int32))] _
   refine XS.icmpYes X101.here hx rfl (pc0 := 41) (pc' := 68) rfl (hb hby d7_41) rfl (XT.ii_le_t ((by decide) : ¬ ((1 : Int32) < (1 : Int32)))) (by decide) (by decide) ?_
   show AT p e below T101 m 68 #[rv a0, jv tq, se, iv pp, iv wz] [] _
   exact X101.returnOut hx Bd.returns (hb hby d7_68) hr
  ·
   show Q7_01 Z a0 tq pp wz wa dq es ke h0 n0 _ T101.heap _
   rw [e101]
   exact ⟨b58, k58, rfl, N101, K93, E93_94, (by rw [if_neg hc2]; exact F93_95), F93_96, u93_1, u93_2, u93_3, u93_4, E93_99, V93_98, sz58⟩

theorem ef_7_10 (m : MethodId) (a0 : Addr) (tq : Int64) (pp : Int32) (wz : Int32) : entryFrame m #[(.ref a0), (.long tq), (.int pp), (.int wz)] 5 = mkF m 0 #[rv a0, jv tq, se, iv pp, iv wz] [] := by first | (simp [entryFrame, mkF, argsToLocals, Value.category]; done) | rfl
def Q7_10 (Z : State) (a0 : Addr) (tq : Int64) (pp : Int32) (wz : Int32) (wa : Int64) (dq : Addr) (es : Addr) (ke : ClassId) (i0 : Addr) (ki0 : ClassId) (t0 : Int64) (d0 : Int64) (h0 : Heap) (n0 : Nat) (v : Option Value) (h : Heap) (L : List Loc) : Prop := v = none ∧ Fr n0 L ∧ Keep h0 h [a0] ∧ Exa Z h a0 "com/example/minderd/minderd/process/Listings" ∧ Fld Z h a0 "com/example/minderd/minderd/process/Listings" "wholeAt" "J" (.long (if wz = (0 : Int32) then wa else tq)) ∧ Fld Z h a0 "com/example/minderd/minderd/process/Listings" "recent" "Ljava/util/ArrayDeque;" (.ref dq)
set_option maxRecDepth 65536 in
set_option maxHeartbeats 40000000 in
theorem rm7_10 (l : Launch) (Z : State) (ar : Array Value) (hw : ∀ d ∈ tables_1, d.before ar Z = true) (ws : List Jvm.Cond) (a0 : Addr) (tq : Int64) (pp : Int32) (wz : Int32) (wa : Int64) (dq : Addr) (es : Addr) (ke : ClassId) (i0 : Addr) (ki0 : ClassId) (t0 : Int64) (d0 : Int64) (h0 : Heap) (n0 : Nat) (O0 : Old Z n0 h0) (pf0 : Exa Z h0 a0 "com/example/minderd/minderd/process/Listings") (pf1 : Fld Z h0 a0 "com/example/minderd/minderd/process/Listings" "wholeAt" "J" (.long wa)) (pf2 : Fld Z h0 a0 "com/example/minderd/minderd/process/Listings" "recent" "Ljava/util/ArrayDeque;" (.ref dq)) (pf3 : Exa Z h0 dq "java/util/ArrayDeque") (pf4 : Fld Z h0 dq "java/util/ArrayDeque" "elements" "[Ljava/lang/Object;" (.ref es)) (pf5 : Fld Z h0 dq "java/util/ArrayDeque" "head" "I" (.int (0 : Int32))) (pf6 : Fld Z h0 dq "java/util/ArrayDeque" "tail" "I" (.int (1 : Int32))) (pf7 : Arv Z h0 es ke (.object "java/lang/Object") (17 : Int32) [(.ref i0), .null] .null) (pf8 : Ovr Z ke "java/lang/Object") (pf9 : Exa Z h0 i0 "[J") (pf10 : Arv Z h0 i0 ki0 .long (2 : Int32) [(.long t0), (.long d0)] (.long (0 : Int64))) (pf11 : n0 ≤ a0) (pf12 : n0 ≤ dq) (pf13 : n0 ≤ es) (pf14 : a0 ≠ dq) (pf15 : a0 ≠ es) (pf16 : dq ≠ es) (pf17 : i0 ≠ a0) (pf18 : i0 ≠ dq) (pf19 : i0 ≠ es) (hp : ¬ (0 : Int32) < pp) :
    MetFree l y7 (head1 (Jvm.Cond.code y7 prog_29_method_3_code 5 none :: ws) ({ frames := 2, cells := 0, slots := 0, locals := 26 } : Room)) (fun a U => a = #[(.ref a0), (.long tq), (.int pp), (.int wz)] ∧ Z.Warmed39 U.vm ∧ U.heap = h0) (fun _ _ _ _ _ => True) (fun _ U o U' => ∃ v L, o = .returned v ∧ Q7_10 Z a0 tq pp wz wa dq es ke i0 ki0 t0 d0 h0 n0 v U'.heap L ∧ FrameEnd U o U' L ({ frames := 2, cells := 0, slots := 0, locals := 26 } : Room).cells ({ frames := 2, cells := 0, slots := 0, locals := 26 } : Room).slots) := by
 refine MetFree.of_bodySF (plainFor_of_name pn_2) hisR ?_
 intro p e s m args below meth c s₁ Bd hml0 hP hK
 obtain ⟨rfl, hZ, hh⟩ := hP
 have hx := Bd.exec
 have hby := Bd.bytes
 have hml : c.maxLocals = 5 := hml0
 have hown : s.vm.findClass "com/example/minderd/minderd/process/Listings" = some m.cls := findClass_of_methodNamed Bd.named
 have hnm := (name_of_methodNamed Bd.named Bd.method).1
 have X0 : Stand p l e ({ frames := 2, cells := 0, slots := 0, locals := 26 } : Room) s m #[(.ref a0), (.long tq), (.int pp), (.int wz)] below meth c s₁ [] 0 0 := Stand.of_body Bd
 have e0 : s₁.heap = h0 := by rw [← hh, Bd.state]; rfl
 have N0 := Fr.nil n0
 have Z0 : n0 ≤ h0.size := Nat.le_trans (Nat.le_of_eq O0.1.symm) O0.2.1
 obtain ⟨S0, hS0⟩ : ∃ z, z = s₁.setTop (entryFrame m #[(.ref a0), (.long tq), (.int pp), (.int wz)] 5) := ⟨_, rfl⟩
 have pre0 : ∀ tg, AT p e below s₁ m 0 #[rv a0, jv tq, se, iv pp, iv wz] [] tg → Steps p.tables e below S0 tg := fun tg kg => by rw [hS0]; exact castTop (ef_7_10 m a0 tq pp wz) kg
 have pre1 : ∀ tg, AT p e below s₁ m 2 #[rv a0, jv tq, se, iv pp, iv wz] [(.int wz)] tg → Steps p.tables e below S0 tg := fun tg kg => pre0 tg (by
  refine XS.iload X0.here hx rfl (hb hby d7_0) rfl ?_
  exact kg)
 rcases Decidable.em (wz = (0 : Int32)) with hc2 | hc2
 ·
  obtain ⟨T3, X3, e3, st3⟩ := getF X0 hx hZ hown (host := "") (Or.inl (ow hw 26 rfl)) Via.refl e0 pf2 (g := (mkF m 34 #[rv a0, jv tq, se, iv pp, iv wz] [(.ref a0)])) rfl rfl (hb hby d7_34)
  obtain ⟨cq4, kq4, q4a, q4b, q4c⟩ := isOf hZ e3 pf3
  obtain ⟨_, _, ⟨T4, L4, k4, n4⟩, -, X4, ⟨Lc4, hQ4, l4, y4, z4⟩, st4⟩ := X3.virtualBack hx (y := y10) (z := y10) hown (mvT hZ (ow hw 57 rfl)) (mvT hZ (ow hw 58 rfl)) (notFace_of_selects (args := #[]) (mvT hZ (ow hw 60 rfl))) (mvT hZ (ow hw 60 rfl)) (mvT hZ (ow hw 59 rfl)) (by decide) (backOf (W := 0) (rm10_1 l Z ar hw [] dq es ke i0 h0 n0 O0 pf4 pf5 pf6 pf7) hZ (ow hw 61 rfl) (ow hw 11 rfl) (by decide) (by decide)) q4a q4c (g := (mkF m 37 #[rv a0, jv tq, se, iv pp, iv wz] [(.ref dq)])) rfl (by rw [hml]; rfl) (Steps.refl _) (argsL := []) (rest := []) (lenOf pd_4 rfl) rfl (by show 2 * 0 + _ ≤ _; exact Nat.le_of_eq rfl) (hb hby d7_37) (fun _ _ => ⟨rfl, e3, (by decide : 0 + 0 ≤ _), (by decide : 0 + 0 ≤ _)⟩)
  dsimp only [Pt.U, Pt.locs, Pt.cells, Pt.slots] at X4 l4 y4 z4 st4 hQ4
  subst l4 y4 z4
  obtain ⟨rfl, N4q, e4⟩ := hQ4
  have N4 := Fr.app N0 N4q
  obtain ⟨fs, hr, hrun, hended, hW, hsame⟩ := X4.leave (v := none) (fun _ => rfl)
  subst hS0
  refine ⟨_, _, pre1 _ ?_, hrun, hended, _, _, rfl, ?_, ⟨_, rfl⟩, hW, hsame.mono (by decide) (by decide)⟩
  ·
   refine XS.ifYes X0.here hx rfl (pc0 := 2) (pc' := 10) rfl (hb hby d7_2) rfl (XT.i0_eq_t hc2) (by decide) (by decide) ?_
   show AT p e below s₁ m 10 #[rv a0, jv tq, se, iv pp, iv wz] [] _
   refine XS.iloadN X0.here hx rfl (hb hby d7_10) rfl ?_
   show AT p e below s₁ m 11 #[rv a0, jv tq, se, iv pp, iv wz] [(.int pp)] _
   refine XS.ifYes X0.here hx rfl (pc0 := 11) (pc' := 33) rfl (hb hby d7_11) rfl (XT.i0_le_t (hp : ¬ ((0 : Int32) < pp))) (by decide) (by decide) ?_
   show AT p e below s₁ m 33 #[rv a0, jv tq, se, iv pp, iv wz] [] _
   refine XS.aloadN X0.here hx rfl (hb hby d7_33) rfl rfl ?_
   show AT p e below s₁ m 34 #[rv a0, jv tq, se, iv pp, iv wz] [(.ref a0)] _
   refine st3 _ ?_
   show AT p e below T3 m 37 #[rv a0, jv tq, se, iv pp, iv wz] [(.ref dq)] _
   refine st4.trans ?_
   show AT p e below T4 m 40 #[rv a0, jv tq, se, iv pp, iv wz] [(.int (1 : Int32))] _
   refine XS.iconst X4.here hx rfl (hb hby d7_40) ?_
   show AT p e below T4 m 41 #[rv a0, jv tq, se, iv pp, iv wz] [(.int (1 : Int32)), (.int (1 : Int32))] _
   refine XS.icmpYes X4.here hx rfl (pc0 := 41) (pc' := 68) rfl (hb hby d7_41) rfl (XT.ii_le_t ((by decide) : ¬ ((1 : Int32) < (1 : Int32)))) (by decide) (by decide) ?_
   show AT p e below T4 m 68 #[rv a0, jv tq, se, iv pp, iv wz] [] _
   exact X4.returnOut hx Bd.returns (hb hby d7_68) hr
  ·
   show Q7_10 Z a0 tq pp wz wa dq es ke i0 ki0 t0 d0 h0 n0 _ T4.heap _
   rw [e4]
   exact ⟨rfl, N4, (Keep.refl h0 [a0]), pf0, (by rw [if_pos hc2]; exact pf1), pf2⟩
 ·
  obtain ⟨T5, h5, X5, e5, W5, st5⟩ := putF X0 hx hZ hown (host := "") (Or.inl (ow hw 65 rfl)) Via.refl e0 pf1 pf0 (Or.inl (ow hw 66 rfl)) (ow hw 1 rfl) (ty := .long) (by decide) rfl rfl (g := (mkF m 7 #[rv a0, jv tq, se, iv pp, iv wz] [(.long tq), (.ref a0)])) rfl rfl (hb hby d7_7)
  have E5_6 := pf0.wr W5
  have F5_7 : Fld Z h5 a0 "com/example/minderd/minderd/process/Listings" "wholeAt" "J" (.long tq) := pf1.same W5
  have F5_8 := pf2.other W5 (Or.inr (slot_ne (Or.inr (ow hw 27 rfl)) (Or.inl (ow hw 66 rfl)) (by decide) (t := (.object "java/util/ArrayDeque")) (t' := .long) (by decide) (by decide)))
  have E5_9 := pf3.wr W5
  have F5_10 := pf4.other W5 (Or.inl (Ne.symm pf14))
  have F5_11 := pf5.other W5 (Or.inl (Ne.symm pf14))
  have F5_12 := pf6.other W5 (Or.inl (Ne.symm pf14))
  have V5_13 := pf7.other W5 (Ne.symm pf15)
  have E5_14 := pf9.wr W5
  have V5_15 := pf10.other W5 pf17
  have K5 := (Keep.refl h0 [a0]).wr W5 (Or.inl (List.mem_of_getElem? (i := 0) rfl))
  have O5 := O0.wr W5 pf11
  have N5 := Fr.snoc X5 N0 pf11
  obtain ⟨T16, X16, e16, st16⟩ := getF X5 hx hZ hown (host := "") (Or.inl (ow hw 26 rfl)) Via.refl e5 F5_8 (g := (mkF m 34 #[rv a0, jv tq, se, iv pp, iv wz] [(.ref a0)])) rfl rfl (hb hby d7_34)
  obtain ⟨cq17, kq17, q17a, q17b, q17c⟩ := isOf hZ e16 E5_9
  obtain ⟨_, _, ⟨T17, L17, k17, n17⟩, -, X17, ⟨Lc17, hQ17, l17, y17, z17⟩, st17⟩ := X16.virtualBack hx (y := y10) (z := y10) hown (mvT hZ (ow hw 57 rfl)) (mvT hZ (ow hw 58 rfl)) (notFace_of_selects (args := #[]) (mvT hZ (ow hw 60 rfl))) (mvT hZ (ow hw 60 rfl)) (mvT hZ (ow hw 59 rfl)) (by decide) (backOf (W := 0) (rm10_1 l Z ar hw [] dq es ke i0 h5 n0 O5 F5_10 F5_11 F5_12 V5_13) hZ (ow hw 61 rfl) (ow hw 11 rfl) (by decide) (by decide)) q17a q17c (g := (mkF m 37 #[rv a0, jv tq, se, iv pp, iv wz] [(.ref dq)])) rfl (by rw [hml]; rfl) (Steps.refl _) (argsL := []) (rest := []) (lenOf pd_4 rfl) rfl (by show 2 * 0 + _ ≤ _; exact Nat.le_of_eq rfl) (hb hby d7_37) (fun _ _ => ⟨rfl, e16, (by decide : 0 + 0 ≤ _), (by decide : 0 + 0 ≤ _)⟩)
  dsimp only [Pt.U, Pt.locs, Pt.cells, Pt.slots] at X17 l17 y17 z17 st17 hQ17
  subst l17 y17 z17
  obtain ⟨rfl, N17q, e17⟩ := hQ17
  have N17 := Fr.app N5 N17q
  obtain ⟨fs, hr, hrun, hended, hW, hsame⟩ := X17.leave (v := none) (fun _ => rfl)
  subst hS0
  refine ⟨_, _, pre1 _ ?_, hrun, hended, _, _, rfl, ?_, ⟨_, rfl⟩, hW, hsame.mono (by decide) (by decide)⟩
  ·
   refine XS.ifNo X0.here hx rfl (hb hby d7_2) rfl (XT.i0_eq_f hc2) ?_
   show AT p e below s₁ m 5 #[rv a0, jv tq, se, iv pp, iv wz] [] _
   refine XS.aloadN X0.here hx rfl (hb hby d7_5) rfl rfl ?_
   show AT p e below s₁ m 6 #[rv a0, jv tq, se, iv pp, iv wz] [(.ref a0)] _
   refine XS.lloadN X0.here hx rfl (hb hby d7_6) rfl ?_
   show AT p e below s₁ m 7 #[rv a0, jv tq, se, iv pp, iv wz] [(.long tq), (.ref a0)] _
   refine st5 _ ?_
   show AT p e below T5 m 10 #[rv a0, jv tq, se, iv pp, iv wz] [] _
   refine XS.iloadN X5.here hx rfl (hb hby d7_10) rfl ?_
   show AT p e below T5 m 11 #[rv a0, jv tq, se, iv pp, iv wz] [(.int pp)] _
   refine XS.ifYes X5.here hx rfl (pc0 := 11) (pc' := 33) rfl (hb hby d7_11) rfl (XT.i0_le_t (hp : ¬ ((0 : Int32) < pp))) (by decide) (by decide) ?_
   show AT p e below T5 m 33 #[rv a0, jv tq, se, iv pp, iv wz] [] _
   refine XS.aloadN X5.here hx rfl (hb hby d7_33) rfl rfl ?_
   show AT p e below T5 m 34 #[rv a0, jv tq, se, iv pp, iv wz] [(.ref a0)] _
   refine st16 _ ?_
   show AT p e below T16 m 37 #[rv a0, jv tq, se, iv pp, iv wz] [(.ref dq)] _
   refine st17.trans ?_
   show AT p e below T17 m 40 #[rv a0, jv tq, se, iv pp, iv wz] [(.int (1 : Int32))] _
   refine XS.iconst X17.here hx rfl (hb hby d7_40) ?_
   show AT p e below T17 m 41 #[rv a0, jv tq, se, iv pp, iv wz] [(.int (1 : Int32)), (.int (1 : Int32))] _
   refine XS.icmpYes X17.here hx rfl (pc0 := 41) (pc' := 68) rfl (hb hby d7_41) rfl (XT.ii_le_t ((by decide) : ¬ ((1 : Int32) < (1 : Int32)))) (by decide) (by decide) ?_
   show AT p e below T17 m 68 #[rv a0, jv tq, se, iv pp, iv wz] [] _
   exact X17.returnOut hx Bd.returns (hb hby d7_68) hr
  ·
   show Q7_10 Z a0 tq pp wz wa dq es ke i0 ki0 t0 d0 h0 n0 _ T17.heap _
   rw [e17]
   exact ⟨rfl, N17, K5, E5_6, (by rw [if_neg hc2]; exact F5_7), F5_8⟩

theorem d7_44 : decode prog_29_method_3_code 44 = .ok (.lload_n 1, 1) := by decide +kernel
theorem d7_45 : decode prog_29_method_3_code 45 = .ok (.aload_n 0, 1) := by decide +kernel
theorem d7_46 : decode prog_29_method_3_code 46 = .ok (.invokevirtual 44, 3) := by decide +kernel
theorem d7_49 : decode prog_29_method_3_code 49 = .ok (.lsub, 1) := by decide +kernel
theorem d7_50 : decode prog_29_method_3_code 50 = .ok (.getstatic 48, 3) := by decide +kernel
theorem d7_53 : decode prog_29_method_3_code 53 = .ok (.lcmp, 1) := by decide +kernel
theorem d7_54 : decode prog_29_method_3_code 54 = .ok (.ifCond .lt 14, 3) := by decide +kernel
theorem ef_7_11 (m : MethodId) (a0 : Addr) (tq : Int64) (pp : Int32) (wz : Int32) : entryFrame m #[(.ref a0), (.long tq), (.int pp), (.int wz)] 5 = mkF m 0 #[rv a0, jv tq, se, iv pp, iv wz] [] := by first | (simp [entryFrame, mkF, argsToLocals, Value.category]; done) | rfl
def Q7_11 (Z : State) (a0 : Addr) (tq : Int64) (pp : Int32) (wz : Int32) (wa : Int64) (dq : Addr) (es : Addr) (ke : ClassId) (i0 : Addr) (ki0 : ClassId) (t0 : Int64) (d0 : Int64) (h0 : Heap) (n0 : Nat) (v : Option Value) (h : Heap) (L : List Loc) : Prop := ∃ (nw : Addr) (kn : ClassId), v = none ∧ Fr n0 L ∧ Keep h0 h [a0, dq, es] ∧ Exa Z h a0 "com/example/minderd/minderd/process/Listings" ∧ Fld Z h a0 "com/example/minderd/minderd/process/Listings" "wholeAt" "J" (.long (if wz = (0 : Int32) then wa else tq)) ∧ Fld Z h a0 "com/example/minderd/minderd/process/Listings" "recent" "Ljava/util/ArrayDeque;" (.ref dq) ∧ Fld Z h dq "java/util/ArrayDeque" "elements" "[Ljava/lang/Object;" (.ref es) ∧ Fld Z h dq "java/util/ArrayDeque" "head" "I" (.int (0 : Int32)) ∧ Fld Z h dq "java/util/ArrayDeque" "tail" "I" (.int (2 : Int32)) ∧ Arv Z h es ke (.object "java/lang/Object") (17 : Int32) [(.ref i0), (.ref nw)] .null ∧ Exa Z h nw "[J" ∧ Arv Z h nw kn .long (2 : Int32) [(.long tq), (.long (pp.toInt64))] (.long (0 : Int64)) ∧ h0.size ≤ nw
set_option maxRecDepth 65536 in
set_option maxHeartbeats 40000000 in
theorem rm7_11 (l : Launch) (Z : State) (ar : Array Value) (hw : ∀ d ∈ tables_1, d.before ar Z = true) (ws : List Jvm.Cond) (a0 : Addr) (tq : Int64) (pp : Int32) (wz : Int32) (wa : Int64) (dq : Addr) (es : Addr) (ke : ClassId) (i0 : Addr) (ki0 : ClassId) (t0 : Int64) (d0 : Int64) (h0 : Heap) (n0 : Nat) (O0 : Old Z n0 h0) (HW : Wd Z ) (pf0 : Exa Z h0 a0 "com/example/minderd/minderd/process/Listings") (pf1 : Fld Z h0 a0 "com/example/minderd/minderd/process/Listings" "wholeAt" "J" (.long wa)) (pf2 : Fld Z h0 a0 "com/example/minderd/minderd/process/Listings" "recent" "Ljava/util/ArrayDeque;" (.ref dq)) (pf3 : Exa Z h0 dq "java/util/ArrayDeque") (pf4 : Fld Z h0 dq "java/util/ArrayDeque" "elements" "[Ljava/lang/Object;" (.ref es)) (pf5 : Fld Z h0 dq "java/util/ArrayDeque" "head" "I" (.int (0 : Int32))) (pf6 : Fld Z h0 dq "java/util/ArrayDeque" "tail" "I" (.int (1 : Int32))) (pf7 : Arv Z h0 es ke (.object "java/lang/Object") (17 : Int32) [(.ref i0), .null] .null) (pf8 : Ovr Z ke "java/lang/Object") (pf9 : Exa Z h0 i0 "[J") (pf10 : Arv Z h0 i0 ki0 .long (2 : Int32) [(.long t0), (.long d0)] (.long (0 : Int64))) (pf11 : n0 ≤ a0) (pf12 : n0 ≤ dq) (pf13 : n0 ≤ es) (pf14 : a0 ≠ dq) (pf15 : a0 ≠ es) (pf16 : dq ≠ es) (pf17 : i0 ≠ a0) (pf18 : i0 ≠ dq) (pf19 : i0 ≠ es) (hp : (0 : Int32) < pp) :
    MetFree l y7 (head1 (Jvm.Cond.code y7 prog_29_method_3_code 5 none :: ws) ({ frames := 5, cells := 2, slots := 6, locals := 68 } : Room)) (fun a U => a = #[(.ref a0), (.long tq), (.int pp), (.int wz)] ∧ Z.Warmed39 U.vm ∧ U.heap = h0) (fun _ _ _ _ _ => True) (fun _ U o U' => ∃ v L, o = .returned v ∧ Q7_11 Z a0 tq pp wz wa dq es ke i0 ki0 t0 d0 h0 n0 v U'.heap L ∧ FrameEnd U o U' L ({ frames := 5, cells := 2, slots := 6, locals := 68 } : Room).cells ({ frames := 5, cells := 2, slots := 6, locals := 68 } : Room).slots) := by
 refine MetFree.of_bodySF (plainFor_of_name pn_2) hisR ?_
 intro p e s m args below meth c s₁ Bd hml0 hP hK
 obtain ⟨rfl, hZ, hh⟩ := hP
 have hx := Bd.exec
 have hby := Bd.bytes
 have hml : c.maxLocals = 5 := hml0
 have hown : s.vm.findClass "com/example/minderd/minderd/process/Listings" = some m.cls := findClass_of_methodNamed Bd.named
 have hnm := (name_of_methodNamed Bd.named Bd.method).1
 have X0 : Stand p l e ({ frames := 5, cells := 2, slots := 6, locals := 68 } : Room) s m #[(.ref a0), (.long tq), (.int pp), (.int wz)] below meth c s₁ [] 0 0 := Stand.of_body Bd
 have e0 : s₁.heap = h0 := by rw [← hh, Bd.state]; rfl
 have N0 := Fr.nil n0
 have Z0 : n0 ≤ h0.size := Nat.le_trans (Nat.le_of_eq O0.1.symm) O0.2.1
 obtain ⟨S0, hS0⟩ : ∃ z, z = s₁.setTop (entryFrame m #[(.ref a0), (.long tq), (.int pp), (.int wz)] 5) := ⟨_, rfl⟩
 have pre0 : ∀ tg, AT p e below s₁ m 0 #[rv a0, jv tq, se, iv pp, iv wz] [] tg → Steps p.tables e below S0 tg := fun tg kg => by rw [hS0]; exact castTop (ef_7_11 m a0 tq pp wz) kg
 obtain ⟨S_MAKING_NANOS, S_WHOLE_NANOS⟩ := id HW
 have pre1 : ∀ tg, AT p e below s₁ m 2 #[rv a0, jv tq, se, iv pp, iv wz] [(.int wz)] tg → Steps p.tables e below S0 tg := fun tg kg => pre0 tg (by
  refine XS.iload X0.here hx rfl (hb hby d7_0) rfl ?_
  exact kg)
 rcases Decidable.em (wz = (0 : Int32)) with hc2 | hc2
 ·
  obtain ⟨T3, X3, e3, st3⟩ := getF X0 hx hZ hown (host := "") (Or.inl (ow hw 26 rfl)) Via.refl e0 pf2 (g := (mkF m 15 #[rv a0, jv tq, se, iv pp, iv wz] [(.ref a0)])) rfl rfl (hb hby d7_15)
  obtain ⟨T4, h4, k4, X4, e4, E4, A4, B4, st4⟩ := newPE X3 hx hZ (ow hw 47 rfl) e3 (g := (mkF m 19 #[rv a0, jv tq, se, iv pp, iv wz] [(.int (2 : Int32)), (.ref dq)])) rfl (hb hby d7_19) rfl (by decide) (cap := 2) (by decide) (by decide) (by decide) (by decide) (ad := "[J") (by decide)
  obtain ⟨b4, g4⟩ : ∃ z, z = h0.size := ⟨_, rfl⟩
  rw [← g4] at A4 B4 st4
  have ne4_5 : a0 ≠ b4 := Nat.ne_of_lt (Nat.lt_of_lt_of_le (pf0).lt (Nat.le_of_eq g4.symm))
  have ne4_6 : dq ≠ b4 := Nat.ne_of_lt (Nat.lt_of_lt_of_le (pf3).lt (Nat.le_of_eq g4.symm))
  have ne4_7 : es ≠ b4 := Nat.ne_of_lt (Nat.lt_of_lt_of_le (pf7).lt (Nat.le_of_eq g4.symm))
  have ne4_8 : i0 ≠ b4 := Nat.ne_of_lt (Nat.lt_of_lt_of_le (pf9).lt (Nat.le_of_eq g4.symm))
  have gn4 : n0 ≤ b4 := Nat.le_trans (Nat.le_trans (Nat.le_of_eq O0.1.symm) O0.2.1) (Nat.le_of_eq g4.symm)
  have sz4 : h0.size ≤ b4 := Nat.le_trans (Keep.refl h0 [a0, dq, es]).1 (Nat.le_of_eq g4.symm)
  have E4_9 := pf0.ext E4
  have F4_10 := pf1.ext E4
  have F4_11 := pf2.ext E4
  have E4_12 := pf3.ext E4
  have F4_13 := pf4.ext E4
  have F4_14 := pf5.ext E4
  have F4_15 := pf6.ext E4
  have V4_16 := pf7.ext E4
  have E4_17 := pf9.ext E4
  have V4_18 := pf10.ext E4
  have K4 := (Keep.refl h0 [a0, dq, es]).ext E4
  have O4 := O0.ext E4
  have V4_19 : Arv Z h4 b4 k4 .long (2 : Int32) [(.long (0 : Int64)), (.long (0 : Int64))] (.long (0 : Int64)) := (Arv.new A4 (by decide)).pad (pad_rep [] (.long (0 : Int64)) 2)
  obtain ⟨cl20, Ar20, q20, S20, M20, H20, G20⟩ := id V4_19
  have hin20 := own_in (0 : Int32) S20 ⟨by decide, by decide⟩
  obtain ⟨T20, h20, X20, e20, W20, st20⟩ := stJ X4 hx hZ e4 Ar20 (j := (0 : Int32)) hin20 (g := (mkF m 24 #[rv a0, jv tq, se, iv pp, iv wz] [(.long tq), (.int (0 : Int32)), (.ref b4), (.ref b4), (.ref dq)])) rfl rfl (hb hby d7_24)
  have V20_21 : Arv Z h20 b4 k4 .long (2 : Int32) [(.long tq), (.long (0 : Int64))] (.long (0 : Int64)) := Arv.set Ar20 q20 S20 M20 H20 G20 rfl W20 0 rfl (Nat.le_of_ble_eq_true rfl)
  have E20_22 := E4_9.wr W20
  have F20_23 := F4_10.other W20 (Or.inl ne4_5)
  have F20_24 := F4_11.other W20 (Or.inl ne4_5)
  have E20_25 := E4_12.wr W20
  have F20_26 := F4_13.other W20 (Or.inl ne4_6)
  have F20_27 := F4_14.other W20 (Or.inl ne4_6)
  have F20_28 := F4_15.other W20 (Or.inl ne4_6)
  have V20_29 := V4_16.other W20 ne4_7
  have E20_30 := E4_17.wr W20
  have V20_31 := V4_18.other W20 ne4_8
  have E20_32 := B4.wr W20
  have K20 := K4.wr W20 (Or.inr sz4)
  have O20 := O4.wr W20 gn4
  have N20 := Fr.snoc X20 N0 gn4
  obtain ⟨cl33, Ar33, q33, S33, M33, H33, G33⟩ := id V20_21
  have hin33 := own_in (1 : Int32) S33 ⟨by decide, by decide⟩
  obtain ⟨T33, h33, X33, e33, W33, st33⟩ := stJ X20 hx hZ e20 Ar33 (j := (1 : Int32)) hin33 (g := (mkF m 29 #[rv a0, jv tq, se, iv pp, iv wz] [(.long (pp.toInt64)), (.int (1 : Int32)), (.ref b4), (.ref b4), (.ref dq)])) rfl rfl (hb hby d7_29)
  have V33_34 : Arv Z h33 b4 k4 .long (2 : Int32) [(.long tq), (.long (pp.toInt64))] (.long (0 : Int64)) := Arv.set Ar33 q33 S33 M33 H33 G33 rfl W33 1 rfl (Nat.le_of_ble_eq_true rfl)
  have E33_35 := E20_22.wr W33
  have F33_36 := F20_23.other W33 (Or.inl ne4_5)
  have F33_37 := F20_24.other W33 (Or.inl ne4_5)
  have E33_38 := E20_25.wr W33
  have F33_39 := F20_26.other W33 (Or.inl ne4_6)
  have F33_40 := F20_27.other W33 (Or.inl ne4_6)
  have F33_41 := F20_28.other W33 (Or.inl ne4_6)
  have V33_42 := V20_29.other W33 ne4_7
  have E33_43 := E20_30.wr W33
  have V33_44 := V20_31.other W33 ne4_8
  have E33_45 := E20_32.wr W33
  have K33 := K20.wr W33 (Or.inr sz4)
  have O33 := O20.wr W33 gn4
  have N33 := Fr.snoc X33 N20 gn4
  obtain ⟨cq46, kq46, q46a, q46b, q46c⟩ := isOf hZ e33 E33_38
  obtain ⟨_, _, ⟨T46, L46, k46, n46⟩, -, X46, ⟨Lc46, hQ46, l46, y46, z46⟩, st46⟩ := X33.virtualBack hx (y := y8) (z := y8) hown (mvT hZ (ow hw 48 rfl)) (mvT hZ (ow hw 49 rfl)) (notFace_of_selects (args := #[]) (mvT hZ (ow hw 51 rfl))) (mvT hZ (ow hw 51 rfl)) (mvT hZ (ow hw 50 rfl)) (by decide) (backOf (W := 0) (rm8_1 l Z ar hw [] dq b4 es ke i0 h33 n0 O33 E33_38 F33_39 F33_40 F33_41 V33_42 pf8 E33_45 pf12 pf13 pf16 ne4_6 ne4_7) hZ (ow hw 52 rfl) (ow hw 11 rfl) (by decide) (by decide)) q46a q46c (g := (mkF m 30 #[rv a0, jv tq, se, iv pp, iv wz] [(.ref b4), (.ref dq)])) rfl (by rw [hml]; rfl) (Steps.refl _) (argsL := [(.ref b4)]) (rest := []) (lenOf pd_8 rfl) rfl (by show 2 * 0 + _ ≤ _; exact Nat.le_of_eq rfl) (hb hby d7_30) (fun _ _ => ⟨rfl, e33, (by decide : 1 + 0 ≤ _), (by decide : 2 + 0 ≤ _)⟩)
  dsimp only [Pt.U, Pt.locs, Pt.cells, Pt.slots] at X46 l46 y46 z46 st46 hQ46
  subst l46 y46 z46
  obtain ⟨rfl, N46q, Kq46, u46_0, u46_1, u46_2, u46_3, u46_4⟩ := hQ46
  have N46 := Fr.app N33 N46q
  have E46_47 := E33_35.keep Kq46
  have F46_48 := F33_36.keep Kq46 (ninS pf14 (ninS pf15 nin0))
  have F46_49 := F33_37.keep Kq46 (ninS pf14 (ninS pf15 nin0))
  have E46_50 := E33_38.keep Kq46
  have E46_51 := E33_43.keep Kq46
  have V46_52 := V33_44.keep Kq46 (ninS pf18 (ninS pf19 nin0))
  have V46_53 := V33_34.keep Kq46 (ninS (Ne.symm ne4_6) (ninS (Ne.symm ne4_7) nin0))
  have E46_54 := E33_45.keep Kq46
  have K46 := K33.trans Kq46 (allS (Or.inl (List.mem_of_getElem? (i := 1) rfl)) (allS (Or.inl (List.mem_of_getElem? (i := 2) rfl)) all0))
  have O46 := O33.keep Kq46 (allS pf12 (allS pf13 all0))
  obtain ⟨T55, X55, e55, st55⟩ := getF X46 hx hZ hown (host := "") (Or.inl (ow hw 26 rfl)) Via.refl rfl F46_49 (g := (mkF m 34 #[rv a0, jv tq, se, iv pp, iv wz] [(.ref a0)])) rfl rfl (hb hby d7_34)
  obtain ⟨cq56, kq56, q56a, q56b, q56c⟩ := isOf hZ e55 E46_50
  obtain ⟨_, _, ⟨T56, L56, k56, n56⟩, -, X56, ⟨Lc56, hQ56, l56, y56, z56⟩, st56⟩ := X55.virtualBack hx (y := y10) (z := y10) hown (mvT hZ (ow hw 57 rfl)) (mvT hZ (ow hw 58 rfl)) (notFace_of_selects (args := #[]) (mvT hZ (ow hw 60 rfl))) (mvT hZ (ow hw 60 rfl)) (mvT hZ (ow hw 59 rfl)) (by decide) (backOf (W := 0) (rm10_2 l Z ar hw [] dq es ke i0 b4 T46.heap n0 O46 u46_1 u46_2 u46_3 u46_4) hZ (ow hw 61 rfl) (ow hw 11 rfl) (by decide) (by decide)) q56a q56c (g := (mkF m 37 #[rv a0, jv tq, se, iv pp, iv wz] [(.ref dq)])) rfl (by rw [hml]; rfl) (Steps.refl _) (argsL := []) (rest := []) (lenOf pd_4 rfl) rfl (by show 2 * 0 + _ ≤ _; exact Nat.le_of_eq rfl) (hb hby d7_37) (fun _ _ => ⟨rfl, e55, (by decide : 1 + 0 ≤ _), (by decide : 2 + 0 ≤ _)⟩)
  dsimp only [Pt.U, Pt.locs, Pt.cells, Pt.slots] at X56 l56 y56 z56 st56 hQ56
  subst l56 y56 z56
  obtain ⟨rfl, N56q, e56⟩ := hQ56
  have N56 := Fr.app N46 N56q
  obtain ⟨cq57, q57, q57'⟩ := E46_47.cell
  obtain ⟨_, _, ⟨T57, L57, k57, n57⟩, -, X57, ⟨Lc57, hQ57, l57, y57, z57⟩, st57⟩ := X56.privateBack hx (y := y12) hown (mvT hZ (ow hw 67 rfl)) (mvT hZ (ow hw 68 rfl)) (own_selP hZ (ow hw 1 rfl) (ow hw 69 rfl) (ow hw 68 rfl) (by decide)) (Cond.privateMethod_at (mvP hZ (ow hw 69 rfl) (args := #[]))) (mvT hZ (ow hw 70 rfl)) (by decide) (backOf (W := 2) (rm12 l Z ar hw [] a0 dq es ke i0 b4 ki0 k4 t0 d0 tq (pp.toInt64) T46.heap n0 O46 E46_47 F46_49 E46_50 u46_1 u46_2 u46_3 u46_4 pf8 E46_51 E46_54 V46_52 V46_53) hZ (ow hw 70 rfl) (ow hw 2 rfl) (by decide) (by decide)) (g := (mkF m 46 #[rv a0, jv tq, se, iv pp, iv wz] [(.ref a0), (.long tq)])) rfl (by rw [hml]; rfl) (Steps.refl _) (a := a0) (by rw [e56]; exact q57) q57' (argsL := []) (rest := [(.long tq)]) (lenOf pd_9 rfl) rfl (by show 2 * 0 + _ ≤ _; exact Nat.le_of_eq rfl) (hb hby d7_46) (fun _ _ => ⟨rfl, e56, (by decide : 1 + 1 ≤ _), (by decide : 2 + 4 ≤ _)⟩)
  dsimp only [Pt.U, Pt.locs, Pt.cells, Pt.slots] at X57 l57 y57 z57 st57 hQ57
  subst l57 y57 z57
  obtain ⟨rfl, N57q, Kq57⟩ := hQ57
  have N57 := Fr.app N56 N57q
  have E57_58 := E46_47.keep Kq57
  have F57_59 := F46_48.keep Kq57 nin0
  have F57_60 := F46_49.keep Kq57 nin0
  have E57_61 := E46_50.keep Kq57
  have E57_62 := E46_51.keep Kq57
  have V57_63 := V46_52.keep Kq57 nin0
  have V57_64 := V46_53.keep Kq57 nin0
  have E57_65 := E46_54.keep Kq57
  have F57_66 := u46_1.keep Kq57 nin0
  have F57_67 := u46_2.keep Kq57 nin0
  have F57_68 := u46_3.keep Kq57 nin0
  have V57_69 := u46_4.keep Kq57 nin0
  have K57 := K46.trans Kq57 all0
  have O57 := O46.keep Kq57 all0
  obtain ⟨T70, X70, e70, st70⟩ := getS2 X57 hx hZ hown (host := "") (Or.inl (ow hw 110 rfl)) Via.refl rfl (S_MAKING_NANOS.ext O57.2) (g := (mkF m 50 #[rv a0, jv tq, se, iv pp, iv wz] [(.long (tq - tq))])) rfl (hb hby d7_50)
  have pre71 : ∀ tg, AT p e below T70 m 54 #[rv a0, jv tq, se, iv pp, iv wz] [(.int (XT.cmpL (tq - tq) (2000000000 : Int64)))] tg → Steps p.tables e below S0 tg := fun tg kg => pre1 tg (by
   refine XS.ifYes X0.here hx rfl (pc0 := 2) (pc' := 10) rfl (hb hby d7_2) rfl (XT.i0_eq_t hc2) (by decide) (by decide) ?_
   show AT p e below s₁ m 10 #[rv a0, jv tq, se, iv pp, iv wz] [] _
   refine XS.iloadN X0.here hx rfl (hb hby d7_10) rfl ?_
   show AT p e below s₁ m 11 #[rv a0, jv tq, se, iv pp, iv wz] [(.int pp)] _
   refine XS.ifNo X0.here hx rfl (hb hby d7_11) rfl (XT.i0_le_f (hp : (0 : Int32) < pp)) ?_
   show AT p e below s₁ m 14 #[rv a0, jv tq, se, iv pp, iv wz] [] _
   refine XS.aloadN X0.here hx rfl (hb hby d7_14) rfl rfl ?_
   show AT p e below s₁ m 15 #[rv a0, jv tq, se, iv pp, iv wz] [(.ref a0)] _
   refine st3 _ ?_
   show AT p e below T3 m 18 #[rv a0, jv tq, se, iv pp, iv wz] [(.ref dq)] _
   refine XS.iconst X3.here hx rfl (hb hby d7_18) ?_
   show AT p e below T3 m 19 #[rv a0, jv tq, se, iv pp, iv wz] [(.int (2 : Int32)), (.ref dq)] _
   refine st4 _ ?_
   show AT p e below T4 m 21 #[rv a0, jv tq, se, iv pp, iv wz] [(.ref b4), (.ref dq)] _
   refine XS.dup X4.here hx rfl (hb hby d7_21) rfl rfl ?_
   show AT p e below T4 m 22 #[rv a0, jv tq, se, iv pp, iv wz] [(.ref b4), (.ref b4), (.ref dq)] _
   refine XS.iconst X4.here hx rfl (hb hby d7_22) ?_
   show AT p e below T4 m 23 #[rv a0, jv tq, se, iv pp, iv wz] [(.int (0 : Int32)), (.ref b4), (.ref b4), (.ref dq)] _
   refine XS.lloadN X4.here hx rfl (hb hby d7_23) rfl ?_
   show AT p e below T4 m 24 #[rv a0, jv tq, se, iv pp, iv wz] [(.long tq), (.int (0 : Int32)), (.ref b4), (.ref b4), (.ref dq)] _
   refine st20 _ ?_
   show AT p e below T20 m 25 #[rv a0, jv tq, se, iv pp, iv wz] [(.ref b4), (.ref dq)] _
   refine XS.dup X20.here hx rfl (hb hby d7_25) rfl rfl ?_
   show AT p e below T20 m 26 #[rv a0, jv tq, se, iv pp, iv wz] [(.ref b4), (.ref b4), (.ref dq)] _
   refine XS.iconst X20.here hx rfl (hb hby d7_26) ?_
   show AT p e below T20 m 27 #[rv a0, jv tq, se, iv pp, iv wz] [(.int (1 : Int32)), (.ref b4), (.ref b4), (.ref dq)] _
   refine XS.iloadN X20.here hx rfl (hb hby d7_27) rfl ?_
   show AT p e below T20 m 28 #[rv a0, jv tq, se, iv pp, iv wz] [(.int pp), (.int (1 : Int32)), (.ref b4), (.ref b4), (.ref dq)] _
   refine XS.i2l X20.here hx rfl (hb hby d7_28) rfl ?_
   show AT p e below T20 m 29 #[rv a0, jv tq, se, iv pp, iv wz] [(.long (pp.toInt64)), (.int (1 : Int32)), (.ref b4), (.ref b4), (.ref dq)] _
   refine st33 _ ?_
   show AT p e below T33 m 30 #[rv a0, jv tq, se, iv pp, iv wz] [(.ref b4), (.ref dq)] _
   refine st46.trans ?_
   show AT p e below T46 m 33 #[rv a0, jv tq, se, iv pp, iv wz] [] _
   refine XS.aloadN X46.here hx rfl (hb hby d7_33) rfl rfl ?_
   show AT p e below T46 m 34 #[rv a0, jv tq, se, iv pp, iv wz] [(.ref a0)] _
   refine st55 _ ?_
   show AT p e below T55 m 37 #[rv a0, jv tq, se, iv pp, iv wz] [(.ref dq)] _
   refine st56.trans ?_
   show AT p e below T56 m 40 #[rv a0, jv tq, se, iv pp, iv wz] [(.int (2 : Int32))] _
   refine XS.iconst X56.here hx rfl (hb hby d7_40) ?_
   show AT p e below T56 m 41 #[rv a0, jv tq, se, iv pp, iv wz] [(.int (1 : Int32)), (.int (2 : Int32))] _
   refine XS.icmpNo X56.here hx rfl (hb hby d7_41) rfl (XT.ii_le_f ((by decide) : (1 : Int32) < (2 : Int32))) ?_
   show AT p e below T56 m 44 #[rv a0, jv tq, se, iv pp, iv wz] [] _
   refine XS.lloadN X56.here hx rfl (hb hby d7_44) rfl ?_
   show AT p e below T56 m 45 #[rv a0, jv tq, se, iv pp, iv wz] [(.long tq)] _
   refine XS.aloadN X56.here hx rfl (hb hby d7_45) rfl rfl ?_
   show AT p e below T56 m 46 #[rv a0, jv tq, se, iv pp, iv wz] [(.ref a0), (.long tq)] _
   refine st57.trans ?_
   show AT p e below T57 m 49 #[rv a0, jv tq, se, iv pp, iv wz] [(.long tq), (.long tq)] _
   refine XS.lsub X57.here hx rfl (hb hby d7_49) rfl ?_
   show AT p e below T57 m 50 #[rv a0, jv tq, se, iv pp, iv wz] [(.long (tq - tq))] _
   refine st70 _ ?_
   show AT p e below T70 m 53 #[rv a0, jv tq, se, iv pp, iv wz] [(.long (2000000000 : Int64)), (.long (tq - tq))] _
   refine XS.lcmp X70.here hx rfl (hb hby d7_53) rfl ?_
   exact kg)
  rcases Decidable.em ((tq - tq) < (2000000000 : Int64)) with hc72 | hc72
  ·
   obtain ⟨fs, hr, hrun, hended, hW, hsame⟩ := X70.leave (v := none) (fun _ => rfl)
   subst hS0
   refine ⟨_, _, pre71 _ ?_, hrun, hended, _, _, rfl, ?_, ⟨_, rfl⟩, hW, hsame.mono (by decide) (by decide)⟩
   ·
    refine XS.ifYes X70.here hx rfl (pc0 := 54) (pc' := 68) rfl (hb hby d7_54) rfl (XT.ll_lt_t hc72) (by decide) (by decide) ?_
    show AT p e below T70 m 68 #[rv a0, jv tq, se, iv pp, iv wz] [] _
    exact X70.returnOut hx Bd.returns (hb hby d7_68) hr
   ·
    show Q7_11 Z a0 tq pp wz wa dq es ke i0 ki0 t0 d0 h0 n0 _ T70.heap _
    rw [e70]
    exact ⟨b4, k4, rfl, N57, K57, E57_58, (by rw [if_pos hc2]; exact F57_59), F57_60, F57_66, F57_67, F57_68, V57_69, E57_65, V57_64, sz4⟩
  ·
   exact absurd (own_self tq) hc72
 ·
  obtain ⟨T73, h73, X73, e73, W73, st73⟩ := putF X0 hx hZ hown (host := "") (Or.inl (ow hw 65 rfl)) Via.refl e0 pf1 pf0 (Or.inl (ow hw 66 rfl)) (ow hw 1 rfl) (ty := .long) (by decide) rfl rfl (g := (mkF m 7 #[rv a0, jv tq, se, iv pp, iv wz] [(.long tq), (.ref a0)])) rfl rfl (hb hby d7_7)
  have E73_74 := pf0.wr W73
  have F73_75 : Fld Z h73 a0 "com/example/minderd/minderd/process/Listings" "wholeAt" "J" (.long tq) := pf1.same W73
  have F73_76 := pf2.other W73 (Or.inr (slot_ne (Or.inr (ow hw 27 rfl)) (Or.inl (ow hw 66 rfl)) (by decide) (t := (.object "java/util/ArrayDeque")) (t' := .long) (by decide) (by decide)))
  have E73_77 := pf3.wr W73
  have F73_78 := pf4.other W73 (Or.inl (Ne.symm pf14))
  have F73_79 := pf5.other W73 (Or.inl (Ne.symm pf14))
  have F73_80 := pf6.other W73 (Or.inl (Ne.symm pf14))
  have V73_81 := pf7.other W73 (Ne.symm pf15)
  have E73_82 := pf9.wr W73
  have V73_83 := pf10.other W73 pf17
  have K73 := (Keep.refl h0 [a0, dq, es]).wr W73 (Or.inl (List.mem_of_getElem? (i := 0) rfl))
  have O73 := O0.wr W73 pf11
  have N73 := Fr.snoc X73 N0 pf11
  obtain ⟨T84, X84, e84, st84⟩ := getF X73 hx hZ hown (host := "") (Or.inl (ow hw 26 rfl)) Via.refl e73 F73_76 (g := (mkF m 15 #[rv a0, jv tq, se, iv pp, iv wz] [(.ref a0)])) rfl rfl (hb hby d7_15)
  obtain ⟨T85, h85, k85, X85, e85, E85, A85, B85, st85⟩ := newPE X84 hx hZ (ow hw 47 rfl) e84 (g := (mkF m 19 #[rv a0, jv tq, se, iv pp, iv wz] [(.int (2 : Int32)), (.ref dq)])) rfl (hb hby d7_19) rfl (by decide) (cap := 2) (by decide) (by decide) (by decide) (by decide) (ad := "[J") (by decide)
  obtain ⟨b85, g85⟩ : ∃ z, z = h73.size := ⟨_, rfl⟩
  rw [← g85] at A85 B85 st85
  have ne85_86 : a0 ≠ b85 := Nat.ne_of_lt (Nat.lt_of_lt_of_le (E73_74).lt (Nat.le_of_eq g85.symm))
  have ne85_87 : dq ≠ b85 := Nat.ne_of_lt (Nat.lt_of_lt_of_le (E73_77).lt (Nat.le_of_eq g85.symm))
  have ne85_88 : es ≠ b85 := Nat.ne_of_lt (Nat.lt_of_lt_of_le (V73_81).lt (Nat.le_of_eq g85.symm))
  have ne85_89 : i0 ≠ b85 := Nat.ne_of_lt (Nat.lt_of_lt_of_le (E73_82).lt (Nat.le_of_eq g85.symm))
  have gn85 : n0 ≤ b85 := Nat.le_trans (Nat.le_trans (Nat.le_of_eq O73.1.symm) O73.2.1) (Nat.le_of_eq g85.symm)
  have sz85 : h0.size ≤ b85 := Nat.le_trans K73.1 (Nat.le_of_eq g85.symm)
  have E85_90 := E73_74.ext E85
  have F85_91 := F73_75.ext E85
  have F85_92 := F73_76.ext E85
  have E85_93 := E73_77.ext E85
  have F85_94 := F73_78.ext E85
  have F85_95 := F73_79.ext E85
  have F85_96 := F73_80.ext E85
  have V85_97 := V73_81.ext E85
  have E85_98 := E73_82.ext E85
  have V85_99 := V73_83.ext E85
  have K85 := K73.ext E85
  have O85 := O73.ext E85
  have V85_100 : Arv Z h85 b85 k85 .long (2 : Int32) [(.long (0 : Int64)), (.long (0 : Int64))] (.long (0 : Int64)) := (Arv.new A85 (by decide)).pad (pad_rep [] (.long (0 : Int64)) 2)
  obtain ⟨cl101, Ar101, q101, S101, M101, H101, G101⟩ := id V85_100
  have hin101 := own_in (0 : Int32) S101 ⟨by decide, by decide⟩
  obtain ⟨T101, h101, X101, e101, W101, st101⟩ := stJ X85 hx hZ e85 Ar101 (j := (0 : Int32)) hin101 (g := (mkF m 24 #[rv a0, jv tq, se, iv pp, iv wz] [(.long tq), (.int (0 : Int32)), (.ref b85), (.ref b85), (.ref dq)])) rfl rfl (hb hby d7_24)
  have V101_102 : Arv Z h101 b85 k85 .long (2 : Int32) [(.long tq), (.long (0 : Int64))] (.long (0 : Int64)) := Arv.set Ar101 q101 S101 M101 H101 G101 rfl W101 0 rfl (Nat.le_of_ble_eq_true rfl)
  have E101_103 := E85_90.wr W101
  have F101_104 := F85_91.other W101 (Or.inl ne85_86)
  have F101_105 := F85_92.other W101 (Or.inl ne85_86)
  have E101_106 := E85_93.wr W101
  have F101_107 := F85_94.other W101 (Or.inl ne85_87)
  have F101_108 := F85_95.other W101 (Or.inl ne85_87)
  have F101_109 := F85_96.other W101 (Or.inl ne85_87)
  have V101_110 := V85_97.other W101 ne85_88
  have E101_111 := E85_98.wr W101
  have V101_112 := V85_99.other W101 ne85_89
  have E101_113 := B85.wr W101
  have K101 := K85.wr W101 (Or.inr sz85)
  have O101 := O85.wr W101 gn85
  have N101 := Fr.snoc X101 N73 gn85
  obtain ⟨cl114, Ar114, q114, S114, M114, H114, G114⟩ := id V101_102
  have hin114 := own_in (1 : Int32) S114 ⟨by decide, by decide⟩
  obtain ⟨T114, h114, X114, e114, W114, st114⟩ := stJ X101 hx hZ e101 Ar114 (j := (1 : Int32)) hin114 (g := (mkF m 29 #[rv a0, jv tq, se, iv pp, iv wz] [(.long (pp.toInt64)), (.int (1 : Int32)), (.ref b85), (.ref b85), (.ref dq)])) rfl rfl (hb hby d7_29)
  have V114_115 : Arv Z h114 b85 k85 .long (2 : Int32) [(.long tq), (.long (pp.toInt64))] (.long (0 : Int64)) := Arv.set Ar114 q114 S114 M114 H114 G114 rfl W114 1 rfl (Nat.le_of_ble_eq_true rfl)
  have E114_116 := E101_103.wr W114
  have F114_117 := F101_104.other W114 (Or.inl ne85_86)
  have F114_118 := F101_105.other W114 (Or.inl ne85_86)
  have E114_119 := E101_106.wr W114
  have F114_120 := F101_107.other W114 (Or.inl ne85_87)
  have F114_121 := F101_108.other W114 (Or.inl ne85_87)
  have F114_122 := F101_109.other W114 (Or.inl ne85_87)
  have V114_123 := V101_110.other W114 ne85_88
  have E114_124 := E101_111.wr W114
  have V114_125 := V101_112.other W114 ne85_89
  have E114_126 := E101_113.wr W114
  have K114 := K101.wr W114 (Or.inr sz85)
  have O114 := O101.wr W114 gn85
  have N114 := Fr.snoc X114 N101 gn85
  obtain ⟨cq127, kq127, q127a, q127b, q127c⟩ := isOf hZ e114 E114_119
  obtain ⟨_, _, ⟨T127, L127, k127, n127⟩, -, X127, ⟨Lc127, hQ127, l127, y127, z127⟩, st127⟩ := X114.virtualBack hx (y := y8) (z := y8) hown (mvT hZ (ow hw 48 rfl)) (mvT hZ (ow hw 49 rfl)) (notFace_of_selects (args := #[]) (mvT hZ (ow hw 51 rfl))) (mvT hZ (ow hw 51 rfl)) (mvT hZ (ow hw 50 rfl)) (by decide) (backOf (W := 0) (rm8_1 l Z ar hw [] dq b85 es ke i0 h114 n0 O114 E114_119 F114_120 F114_121 F114_122 V114_123 pf8 E114_126 pf12 pf13 pf16 ne85_87 ne85_88) hZ (ow hw 52 rfl) (ow hw 11 rfl) (by decide) (by decide)) q127a q127c (g := (mkF m 30 #[rv a0, jv tq, se, iv pp, iv wz] [(.ref b85), (.ref dq)])) rfl (by rw [hml]; rfl) (Steps.refl _) (argsL := [(.ref b85)]) (rest := []) (lenOf pd_8 rfl) rfl (by show 2 * 0 + _ ≤ _; exact Nat.le_of_eq rfl) (hb hby d7_30) (fun _ _ => ⟨rfl, e114, (by decide : 1 + 0 ≤ _), (by decide : 2 + 0 ≤ _)⟩)
  dsimp only [Pt.U, Pt.locs, Pt.cells, Pt.slots] at X127 l127 y127 z127 st127 hQ127
  subst l127 y127 z127
  obtain ⟨rfl, N127q, Kq127, u127_0, u127_1, u127_2, u127_3, u127_4⟩ := hQ127
  have N127 := Fr.app N114 N127q
  have E127_128 := E114_116.keep Kq127
  have F127_129 := F114_117.keep Kq127 (ninS pf14 (ninS pf15 nin0))
  have F127_130 := F114_118.keep Kq127 (ninS pf14 (ninS pf15 nin0))
  have E127_131 := E114_119.keep Kq127
  have E127_132 := E114_124.keep Kq127
  have V127_133 := V114_125.keep Kq127 (ninS pf18 (ninS pf19 nin0))
  have V127_134 := V114_115.keep Kq127 (ninS (Ne.symm ne85_87) (ninS (Ne.symm ne85_88) nin0))
  have E127_135 := E114_126.keep Kq127
  have K127 := K114.trans Kq127 (allS (Or.inl (List.mem_of_getElem? (i := 1) rfl)) (allS (Or.inl (List.mem_of_getElem? (i := 2) rfl)) all0))
  have O127 := O114.keep Kq127 (allS pf12 (allS pf13 all0))
  obtain ⟨T136, X136, e136, st136⟩ := getF X127 hx hZ hown (host := "") (Or.inl (ow hw 26 rfl)) Via.refl rfl F127_130 (g := (mkF m 34 #[rv a0, jv tq, se, iv pp, iv wz] [(.ref a0)])) rfl rfl (hb hby d7_34)
  obtain ⟨cq137, kq137, q137a, q137b, q137c⟩ := isOf hZ e136 E127_131
  obtain ⟨_, _, ⟨T137, L137, k137, n137⟩, -, X137, ⟨Lc137, hQ137, l137, y137, z137⟩, st137⟩ := X136.virtualBack hx (y := y10) (z := y10) hown (mvT hZ (ow hw 57 rfl)) (mvT hZ (ow hw 58 rfl)) (notFace_of_selects (args := #[]) (mvT hZ (ow hw 60 rfl))) (mvT hZ (ow hw 60 rfl)) (mvT hZ (ow hw 59 rfl)) (by decide) (backOf (W := 0) (rm10_2 l Z ar hw [] dq es ke i0 b85 T127.heap n0 O127 u127_1 u127_2 u127_3 u127_4) hZ (ow hw 61 rfl) (ow hw 11 rfl) (by decide) (by decide)) q137a q137c (g := (mkF m 37 #[rv a0, jv tq, se, iv pp, iv wz] [(.ref dq)])) rfl (by rw [hml]; rfl) (Steps.refl _) (argsL := []) (rest := []) (lenOf pd_4 rfl) rfl (by show 2 * 0 + _ ≤ _; exact Nat.le_of_eq rfl) (hb hby d7_37) (fun _ _ => ⟨rfl, e136, (by decide : 1 + 0 ≤ _), (by decide : 2 + 0 ≤ _)⟩)
  dsimp only [Pt.U, Pt.locs, Pt.cells, Pt.slots] at X137 l137 y137 z137 st137 hQ137
  subst l137 y137 z137
  obtain ⟨rfl, N137q, e137⟩ := hQ137
  have N137 := Fr.app N127 N137q
  obtain ⟨cq138, q138, q138'⟩ := E127_128.cell
  obtain ⟨_, _, ⟨T138, L138, k138, n138⟩, -, X138, ⟨Lc138, hQ138, l138, y138, z138⟩, st138⟩ := X137.privateBack hx (y := y12) hown (mvT hZ (ow hw 67 rfl)) (mvT hZ (ow hw 68 rfl)) (own_selP hZ (ow hw 1 rfl) (ow hw 69 rfl) (ow hw 68 rfl) (by decide)) (Cond.privateMethod_at (mvP hZ (ow hw 69 rfl) (args := #[]))) (mvT hZ (ow hw 70 rfl)) (by decide) (backOf (W := 2) (rm12 l Z ar hw [] a0 dq es ke i0 b85 ki0 k85 t0 d0 tq (pp.toInt64) T127.heap n0 O127 E127_128 F127_130 E127_131 u127_1 u127_2 u127_3 u127_4 pf8 E127_132 E127_135 V127_133 V127_134) hZ (ow hw 70 rfl) (ow hw 2 rfl) (by decide) (by decide)) (g := (mkF m 46 #[rv a0, jv tq, se, iv pp, iv wz] [(.ref a0), (.long tq)])) rfl (by rw [hml]; rfl) (Steps.refl _) (a := a0) (by rw [e137]; exact q138) q138' (argsL := []) (rest := [(.long tq)]) (lenOf pd_9 rfl) rfl (by show 2 * 0 + _ ≤ _; exact Nat.le_of_eq rfl) (hb hby d7_46) (fun _ _ => ⟨rfl, e137, (by decide : 1 + 1 ≤ _), (by decide : 2 + 4 ≤ _)⟩)
  dsimp only [Pt.U, Pt.locs, Pt.cells, Pt.slots] at X138 l138 y138 z138 st138 hQ138
  subst l138 y138 z138
  obtain ⟨rfl, N138q, Kq138⟩ := hQ138
  have N138 := Fr.app N137 N138q
  have E138_139 := E127_128.keep Kq138
  have F138_140 := F127_129.keep Kq138 nin0
  have F138_141 := F127_130.keep Kq138 nin0
  have E138_142 := E127_131.keep Kq138
  have E138_143 := E127_132.keep Kq138
  have V138_144 := V127_133.keep Kq138 nin0
  have V138_145 := V127_134.keep Kq138 nin0
  have E138_146 := E127_135.keep Kq138
  have F138_147 := u127_1.keep Kq138 nin0
  have F138_148 := u127_2.keep Kq138 nin0
  have F138_149 := u127_3.keep Kq138 nin0
  have V138_150 := u127_4.keep Kq138 nin0
  have K138 := K127.trans Kq138 all0
  have O138 := O127.keep Kq138 all0
  obtain ⟨T151, X151, e151, st151⟩ := getS2 X138 hx hZ hown (host := "") (Or.inl (ow hw 110 rfl)) Via.refl rfl (S_MAKING_NANOS.ext O138.2) (g := (mkF m 50 #[rv a0, jv tq, se, iv pp, iv wz] [(.long (tq - tq))])) rfl (hb hby d7_50)
  have pre152 : ∀ tg, AT p e below T151 m 54 #[rv a0, jv tq, se, iv pp, iv wz] [(.int (XT.cmpL (tq - tq) (2000000000 : Int64)))] tg → Steps p.tables e below S0 tg := fun tg kg => pre1 tg (by
   refine XS.ifNo X0.here hx rfl (hb hby d7_2) rfl (XT.i0_eq_f hc2) ?_
   show AT p e below s₁ m 5 #[rv a0, jv tq, se, iv pp, iv wz] [] _
   refine XS.aloadN X0.here hx rfl (hb hby d7_5) rfl rfl ?_
   show AT p e below s₁ m 6 #[rv a0, jv tq, se, iv pp, iv wz] [(.ref a0)] _
   refine XS.lloadN X0.here hx rfl (hb hby d7_6) rfl ?_
   show AT p e below s₁ m 7 #[rv a0, jv tq, se, iv pp, iv wz] [(.long tq), (.ref a0)] _
   refine st73 _ ?_
   show AT p e below T73 m 10 #[rv a0, jv tq, se, iv pp, iv wz] [] _
   refine XS.iloadN X73.here hx rfl (hb hby d7_10) rfl ?_
   show AT p e below T73 m 11 #[rv a0, jv tq, se, iv pp, iv wz] [(.int pp)] _
   refine XS.ifNo X73.here hx rfl (hb hby d7_11) rfl (XT.i0_le_f (hp : (0 : Int32) < pp)) ?_
   show AT p e below T73 m 14 #[rv a0, jv tq, se, iv pp, iv wz] [] _
   refine XS.aloadN X73.here hx rfl (hb hby d7_14) rfl rfl ?_
   show AT p e below T73 m 15 #[rv a0, jv tq, se, iv pp, iv wz] [(.ref a0)] _
   refine st84 _ ?_
   show AT p e below T84 m 18 #[rv a0, jv tq, se, iv pp, iv wz] [(.ref dq)] _
   refine XS.iconst X84.here hx rfl (hb hby d7_18) ?_
   show AT p e below T84 m 19 #[rv a0, jv tq, se, iv pp, iv wz] [(.int (2 : Int32)), (.ref dq)] _
   refine st85 _ ?_
   show AT p e below T85 m 21 #[rv a0, jv tq, se, iv pp, iv wz] [(.ref b85), (.ref dq)] _
   refine XS.dup X85.here hx rfl (hb hby d7_21) rfl rfl ?_
   show AT p e below T85 m 22 #[rv a0, jv tq, se, iv pp, iv wz] [(.ref b85), (.ref b85), (.ref dq)] _
   refine XS.iconst X85.here hx rfl (hb hby d7_22) ?_
   show AT p e below T85 m 23 #[rv a0, jv tq, se, iv pp, iv wz] [(.int (0 : Int32)), (.ref b85), (.ref b85), (.ref dq)] _
   refine XS.lloadN X85.here hx rfl (hb hby d7_23) rfl ?_
   show AT p e below T85 m 24 #[rv a0, jv tq, se, iv pp, iv wz] [(.long tq), (.int (0 : Int32)), (.ref b85), (.ref b85), (.ref dq)] _
   refine st101 _ ?_
   show AT p e below T101 m 25 #[rv a0, jv tq, se, iv pp, iv wz] [(.ref b85), (.ref dq)] _
   refine XS.dup X101.here hx rfl (hb hby d7_25) rfl rfl ?_
   show AT p e below T101 m 26 #[rv a0, jv tq, se, iv pp, iv wz] [(.ref b85), (.ref b85), (.ref dq)] _
   refine XS.iconst X101.here hx rfl (hb hby d7_26) ?_
   show AT p e below T101 m 27 #[rv a0, jv tq, se, iv pp, iv wz] [(.int (1 : Int32)), (.ref b85), (.ref b85), (.ref dq)] _
   refine XS.iloadN X101.here hx rfl (hb hby d7_27) rfl ?_
   show AT p e below T101 m 28 #[rv a0, jv tq, se, iv pp, iv wz] [(.int pp), (.int (1 : Int32)), (.ref b85), (.ref b85), (.ref dq)] _
   refine XS.i2l X101.here hx rfl (hb hby d7_28) rfl ?_
   show AT p e below T101 m 29 #[rv a0, jv tq, se, iv pp, iv wz] [(.long (pp.toInt64)), (.int (1 : Int32)), (.ref b85), (.ref b85), (.ref dq)] _
   refine st114 _ ?_
   show AT p e below T114 m 30 #[rv a0, jv tq, se, iv pp, iv wz] [(.ref b85), (.ref dq)] _
   refine st127.trans ?_
   show AT p e below T127 m 33 #[rv a0, jv tq, se, iv pp, iv wz] [] _
   refine XS.aloadN X127.here hx rfl (hb hby d7_33) rfl rfl ?_
   show AT p e below T127 m 34 #[rv a0, jv tq, se, iv pp, iv wz] [(.ref a0)] _
   refine st136 _ ?_
   show AT p e below T136 m 37 #[rv a0, jv tq, se, iv pp, iv wz] [(.ref dq)] _
   refine st137.trans ?_
   show AT p e below T137 m 40 #[rv a0, jv tq, se, iv pp, iv wz] [(.int (2 : Int32))] _
   refine XS.iconst X137.here hx rfl (hb hby d7_40) ?_
   show AT p e below T137 m 41 #[rv a0, jv tq, se, iv pp, iv wz] [(.int (1 : Int32)), (.int (2 : Int32))] _
   refine XS.icmpNo X137.here hx rfl (hb hby d7_41) rfl (XT.ii_le_f ((by decide) : (1 : Int32) < (2 : Int32))) ?_
   show AT p e below T137 m 44 #[rv a0, jv tq, se, iv pp, iv wz] [] _
   refine XS.lloadN X137.here hx rfl (hb hby d7_44) rfl ?_
   show AT p e below T137 m 45 #[rv a0, jv tq, se, iv pp, iv wz] [(.long tq)] _
   refine XS.aloadN X137.here hx rfl (hb hby d7_45) rfl rfl ?_
   show AT p e below T137 m 46 #[rv a0, jv tq, se, iv pp, iv wz] [(.ref a0), (.long tq)] _
   refine st138.trans ?_
   show AT p e below T138 m 49 #[rv a0, jv tq, se, iv pp, iv wz] [(.long tq), (.long tq)] _
   refine XS.lsub X138.here hx rfl (hb hby d7_49) rfl ?_
   show AT p e below T138 m 50 #[rv a0, jv tq, se, iv pp, iv wz] [(.long (tq - tq))] _
   refine st151 _ ?_
   show AT p e below T151 m 53 #[rv a0, jv tq, se, iv pp, iv wz] [(.long (2000000000 : Int64)), (.long (tq - tq))] _
   refine XS.lcmp X151.here hx rfl (hb hby d7_53) rfl ?_
   exact kg)
  rcases Decidable.em ((tq - tq) < (2000000000 : Int64)) with hc153 | hc153
  ·
   obtain ⟨fs, hr, hrun, hended, hW, hsame⟩ := X151.leave (v := none) (fun _ => rfl)
   subst hS0
   refine ⟨_, _, pre152 _ ?_, hrun, hended, _, _, rfl, ?_, ⟨_, rfl⟩, hW, hsame.mono (by decide) (by decide)⟩
   ·
    refine XS.ifYes X151.here hx rfl (pc0 := 54) (pc' := 68) rfl (hb hby d7_54) rfl (XT.ll_lt_t hc153) (by decide) (by decide) ?_
    show AT p e below T151 m 68 #[rv a0, jv tq, se, iv pp, iv wz] [] _
    exact X151.returnOut hx Bd.returns (hb hby d7_68) hr
   ·
    show Q7_11 Z a0 tq pp wz wa dq es ke i0 ki0 t0 d0 h0 n0 _ T151.heap _
    rw [e151]
    exact ⟨b85, k85, rfl, N138, K138, E138_139, (by rw [if_neg hc2]; exact F138_140), F138_141, F138_147, F138_148, F138_149, V138_150, E138_146, V138_145, sz85⟩
  ·
   exact absurd (own_self tq) hc153

theorem d5_0 : decode prog_29_method_2_code 0 = .ok (.aconst_null, 1) := by decide +kernel
theorem d5_1 : decode prog_29_method_2_code 1 = .ok (.astore 4, 2) := by decide +kernel
theorem d5_3 : decode prog_29_method_2_code 3 = .ok (.aload_n 0, 1) := by decide +kernel
theorem d5_4 : decode prog_29_method_2_code 4 = .ok (.getfield 10, 3) := by decide +kernel
theorem d5_7 : decode prog_29_method_2_code 7 = .ok (.invokevirtual 16, 3) := by decide +kernel
theorem d5_10 : decode prog_29_method_2_code 10 = .ok (.ifCond .ne 99, 3) := by decide +kernel
theorem d5_109 : decode prog_29_method_2_code 109 = .ok (.aload 4, 2) := by decide +kernel
theorem d5_111 : decode prog_29_method_2_code 111 = .ok (.areturn, 1) := by decide +kernel
theorem ef_5_0n (m : MethodId) (a0 : Addr) (qn : Int64) (la : Int32) : entryFrame m #[(.ref a0), (.long qn), (.int la)] 6 = mkF m 0 #[rv a0, jv qn, se, iv la, un, un] [] := by first | (simp [entryFrame, mkF, argsToLocals, Value.category]; done) | rfl
def Q5_0n (Z : State) (a0 : Addr) (qn : Int64) (la : Int32) (wa : Int64) (dq : Addr) (es : Addr) (ke : ClassId) (h0 : Heap) (n0 : Nat) (v : Option Value) (h : Heap) (L : List Loc) : Prop := v = some .null ∧ Fr n0 L ∧ h = h0
set_option maxRecDepth 65536 in
set_option maxHeartbeats 40000000 in
theorem rm5_0n (l : Launch) (Z : State) (ar : Array Value) (hw : ∀ d ∈ tables_1, d.before ar Z = true) (ws : List Jvm.Cond) (a0 : Addr) (qn : Int64) (la : Int32) (wa : Int64) (dq : Addr) (es : Addr) (ke : ClassId) (h0 : Heap) (n0 : Nat) (O0 : Old Z n0 h0) (pf0 : Exa Z h0 a0 "com/example/minderd/minderd/process/Listings") (pf1 : Fld Z h0 a0 "com/example/minderd/minderd/process/Listings" "recent" "Ljava/util/ArrayDeque;" (.ref dq)) (pf2 : Fld Z h0 a0 "com/example/minderd/minderd/process/Listings" "wholeAt" "J" (.long wa)) (pf3 : Exa Z h0 dq "java/util/ArrayDeque") (pf4 : Fld Z h0 dq "java/util/ArrayDeque" "elements" "[Ljava/lang/Object;" (.ref es)) (pf5 : Fld Z h0 dq "java/util/ArrayDeque" "head" "I" (.int (0 : Int32))) (pf6 : Fld Z h0 dq "java/util/ArrayDeque" "tail" "I" (.int (0 : Int32))) (pf7 : Arv Z h0 es ke (.object "java/lang/Object") (17 : Int32) [.null, .null] .null) :
    MetFree l y5 (head1 (Jvm.Cond.code y5 prog_29_method_2_code 6 (some (.array .int)) :: ws) ({ frames := 1, cells := 0, slots := 0, locals := 12 } : Room)) (fun a U => a = #[(.ref a0), (.long qn), (.int la)] ∧ Z.Warmed39 U.vm ∧ U.heap = h0) (fun _ _ _ _ _ => True) (fun _ U o U' => ∃ v L, o = .returned v ∧ Q5_0n Z a0 qn la wa dq es ke h0 n0 v U'.heap L ∧ FrameEnd U o U' L ({ frames := 1, cells := 0, slots := 0, locals := 12 } : Room).cells ({ frames := 1, cells := 0, slots := 0, locals := 12 } : Room).slots) := by
 refine MetFree.of_bodySF (plainFor_of_name pn_2) hisR ?_
 intro p e s m args below meth c s₁ Bd hml0 hP hK
 obtain ⟨rfl, hZ, hh⟩ := hP
 have hx := Bd.exec
 have hby := Bd.bytes
 have hml : c.maxLocals = 6 := hml0
 have hown : s.vm.findClass "com/example/minderd/minderd/process/Listings" = some m.cls := findClass_of_methodNamed Bd.named
 have hnm := (name_of_methodNamed Bd.named Bd.method).1
 have X0 : Stand p l e ({ frames := 1, cells := 0, slots := 0, locals := 12 } : Room) s m #[(.ref a0), (.long qn), (.int la)] below meth c s₁ [] 0 0 := Stand.of_body Bd
 have e0 : s₁.heap = h0 := by rw [← hh, Bd.state]; rfl
 have N0 := Fr.nil n0
 have Z0 : n0 ≤ h0.size := Nat.le_trans (Nat.le_of_eq O0.1.symm) O0.2.1
 obtain ⟨S0, hS0⟩ : ∃ z, z = s₁.setTop (entryFrame m #[(.ref a0), (.long qn), (.int la)] 6) := ⟨_, rfl⟩
 have pre0 : ∀ tg, AT p e below s₁ m 0 #[rv a0, jv qn, se, iv la, un, un] [] tg → Steps p.tables e below S0 tg := fun tg kg => by rw [hS0]; exact castTop (ef_5_0n m a0 qn la) kg
 obtain ⟨T1, X1, e1, st1⟩ := getF X0 hx hZ hown (host := "") (Or.inl (ow hw 26 rfl)) Via.refl e0 pf1 (g := (mkF m 4 #[rv a0, jv qn, se, iv la, .val .null, un] [(.ref a0)])) rfl rfl (hb hby d5_4)
 obtain ⟨cq2, kq2, q2a, q2b, q2c⟩ := isOf hZ e1 pf3
 obtain ⟨_, _, ⟨T2, L2, k2, n2⟩, -, X2, ⟨Lc2, hQ2, l2, y2, z2⟩, st2⟩ := X1.virtualBack hx (y := y6) (z := y6) hown (mvT hZ (ow hw 33 rfl)) (mvT hZ (ow hw 34 rfl)) (notFace_of_selects (args := #[]) (mvT hZ (ow hw 36 rfl))) (mvT hZ (ow hw 36 rfl)) (mvT hZ (ow hw 35 rfl)) (by decide) (backOf (W := 0) (rm6_0 l Z ar hw [] dq h0 n0 O0 pf5 pf6) hZ (ow hw 37 rfl) (ow hw 11 rfl) (by decide) (by decide)) q2a q2c (g := (mkF m 7 #[rv a0, jv qn, se, iv la, .val .null, un] [(.ref dq)])) rfl (by rw [hml]; rfl) (Steps.refl _) (argsL := []) (rest := []) (lenOf pd_10 rfl) rfl (by show 2 * 0 + _ ≤ _; exact Nat.le_of_eq rfl) (hb hby d5_7) (fun _ _ => ⟨rfl, e1, (by decide : 0 + 0 ≤ _), (by decide : 0 + 0 ≤ _)⟩)
 dsimp only [Pt.U, Pt.locs, Pt.cells, Pt.slots] at X2 l2 y2 z2 st2 hQ2
 subst l2 y2 z2
 obtain ⟨rfl, N2q, e2⟩ := hQ2
 have N2 := Fr.app N0 N2q
 obtain ⟨fs, hr, hrun, hended, hW, hsame⟩ := X2.leave (v := some .null) (fun h => by rw [Bd.returns] at h; cases h)
 subst hS0
 refine ⟨_, _, pre0 _ ?_, hrun, hended, _, _, rfl, ?_, ⟨_, rfl⟩, hW, hsame.mono (by decide) (by decide)⟩
 ·
  refine XS.aconstNull X0.here hx rfl (hb hby d5_0) ?_
  show AT p e below s₁ m 1 #[rv a0, jv qn, se, iv la, un, un] [.null] _
  refine XS.astore X0.here hx rfl (hb hby d5_1) rfl rfl (l' := #[rv a0, jv qn, se, iv la, .val .null, un]) rfl ?_
  show AT p e below s₁ m 3 #[rv a0, jv qn, se, iv la, .val .null, un] [] _
  refine XS.aloadN X0.here hx rfl (hb hby d5_3) rfl rfl ?_
  show AT p e below s₁ m 4 #[rv a0, jv qn, se, iv la, .val .null, un] [(.ref a0)] _
  refine st1 _ ?_
  show AT p e below T1 m 7 #[rv a0, jv qn, se, iv la, .val .null, un] [(.ref dq)] _
  refine st2.trans ?_
  show AT p e below T2 m 10 #[rv a0, jv qn, se, iv la, .val .null, un] [(.int (1 : Int32))] _
  refine XS.ifYes X2.here hx rfl (pc0 := 10) (pc' := 109) rfl (hb hby d5_10) rfl (XT.i0_ne_t ((by decide) : ¬ ((1 : Int32) = (0 : Int32)))) (by decide) (by decide) ?_
  show AT p e below T2 m 109 #[rv a0, jv qn, se, iv la, .val .null, un] [] _
  refine XS.aload X2.here hx rfl (hb hby d5_109) rfl rfl ?_
  show AT p e below T2 m 111 #[rv a0, jv qn, se, iv la, .val .null, un] [.null] _
  exact retOut X2 hx (t := (.array .int)) (i := .areturn) Bd.returns rfl (Or.inr (Or.inr (Or.inr (Or.inr ⟨rfl, rfl, rfl⟩)))) (hb hby d5_111) hr
 ·
  show Q5_0n Z a0 qn la wa dq es ke h0 n0 _ T2.heap _
  rw [e2]
  exact ⟨rfl, N2, rfl⟩

theorem d5_13 : decode prog_29_method_2_code 13 = .ok (.iload_n 3, 1) := by decide +kernel
theorem d5_14 : decode prog_29_method_2_code 14 = .ok (.ifCond .le 95, 3) := by decide +kernel
theorem ef_5_1a (m : MethodId) (a0 : Addr) (qn : Int64) (la : Int32) : entryFrame m #[(.ref a0), (.long qn), (.int la)] 6 = mkF m 0 #[rv a0, jv qn, se, iv la, un, un] [] := by first | (simp [entryFrame, mkF, argsToLocals, Value.category]; done) | rfl
def Q5_1a (Z : State) (a0 : Addr) (qn : Int64) (la : Int32) (wa : Int64) (dq : Addr) (es : Addr) (ke : ClassId) (i0 : Addr) (ki0 : ClassId) (t0 : Int64) (fr : Int32) (h0 : Heap) (n0 : Nat) (v : Option Value) (h : Heap) (L : List Loc) : Prop := v = some .null ∧ Fr n0 L ∧ h = h0
set_option maxRecDepth 65536 in
set_option maxHeartbeats 40000000 in
theorem rm5_1a (l : Launch) (Z : State) (ar : Array Value) (hw : ∀ d ∈ tables_1, d.before ar Z = true) (ws : List Jvm.Cond) (a0 : Addr) (qn : Int64) (la : Int32) (wa : Int64) (dq : Addr) (es : Addr) (ke : ClassId) (i0 : Addr) (ki0 : ClassId) (t0 : Int64) (fr : Int32) (h0 : Heap) (n0 : Nat) (O0 : Old Z n0 h0) (pf0 : Exa Z h0 a0 "com/example/minderd/minderd/process/Listings") (pf1 : Fld Z h0 a0 "com/example/minderd/minderd/process/Listings" "recent" "Ljava/util/ArrayDeque;" (.ref dq)) (pf2 : Fld Z h0 a0 "com/example/minderd/minderd/process/Listings" "wholeAt" "J" (.long wa)) (pf3 : Exa Z h0 dq "java/util/ArrayDeque") (pf4 : Fld Z h0 dq "java/util/ArrayDeque" "elements" "[Ljava/lang/Object;" (.ref es)) (pf5 : Fld Z h0 dq "java/util/ArrayDeque" "head" "I" (.int (0 : Int32))) (pf6 : Fld Z h0 dq "java/util/ArrayDeque" "tail" "I" (.int (1 : Int32))) (pf7 : Arv Z h0 es ke (.object "java/lang/Object") (17 : Int32) [(.ref i0), .null] .null) (pf8 : Exa Z h0 i0 "[J") (pf9 : Arv Z h0 i0 ki0 .long (2 : Int32) [(.long t0), (.long (fr.toInt64))] (.long (0 : Int64))) (h1 : ¬ (0 : Int32) < la) :
    MetFree l y5 (head1 (Jvm.Cond.code y5 prog_29_method_2_code 6 (some (.array .int)) :: ws) ({ frames := 1, cells := 0, slots := 0, locals := 12 } : Room)) (fun a U => a = #[(.ref a0), (.long qn), (.int la)] ∧ Z.Warmed39 U.vm ∧ U.heap = h0) (fun _ _ _ _ _ => True) (fun _ U o U' => ∃ v L, o = .returned v ∧ Q5_1a Z a0 qn la wa dq es ke i0 ki0 t0 fr h0 n0 v U'.heap L ∧ FrameEnd U o U' L ({ frames := 1, cells := 0, slots := 0, locals := 12 } : Room).cells ({ frames := 1, cells := 0, slots := 0, locals := 12 } : Room).slots) := by
 refine MetFree.of_bodySF (plainFor_of_name pn_2) hisR ?_
 intro p e s m args below meth c s₁ Bd hml0 hP hK
 obtain ⟨rfl, hZ, hh⟩ := hP
 have hx := Bd.exec
 have hby := Bd.bytes
 have hml : c.maxLocals = 6 := hml0
 have hown : s.vm.findClass "com/example/minderd/minderd/process/Listings" = some m.cls := findClass_of_methodNamed Bd.named
 have hnm := (name_of_methodNamed Bd.named Bd.method).1
 have X0 : Stand p l e ({ frames := 1, cells := 0, slots := 0, locals := 12 } : Room) s m #[(.ref a0), (.long qn), (.int la)] below meth c s₁ [] 0 0 := Stand.of_body Bd
 have e0 : s₁.heap = h0 := by rw [← hh, Bd.state]; rfl
 have N0 := Fr.nil n0
 have Z0 : n0 ≤ h0.size := Nat.le_trans (Nat.le_of_eq O0.1.symm) O0.2.1
 obtain ⟨S0, hS0⟩ : ∃ z, z = s₁.setTop (entryFrame m #[(.ref a0), (.long qn), (.int la)] 6) := ⟨_, rfl⟩
 have pre0 : ∀ tg, AT p e below s₁ m 0 #[rv a0, jv qn, se, iv la, un, un] [] tg → Steps p.tables e below S0 tg := fun tg kg => by rw [hS0]; exact castTop (ef_5_1a m a0 qn la) kg
 obtain ⟨T1, X1, e1, st1⟩ := getF X0 hx hZ hown (host := "") (Or.inl (ow hw 26 rfl)) Via.refl e0 pf1 (g := (mkF m 4 #[rv a0, jv qn, se, iv la, .val .null, un] [(.ref a0)])) rfl rfl (hb hby d5_4)
 obtain ⟨cq2, kq2, q2a, q2b, q2c⟩ := isOf hZ e1 pf3
 obtain ⟨_, _, ⟨T2, L2, k2, n2⟩, -, X2, ⟨Lc2, hQ2, l2, y2, z2⟩, st2⟩ := X1.virtualBack hx (y := y6) (z := y6) hown (mvT hZ (ow hw 33 rfl)) (mvT hZ (ow hw 34 rfl)) (notFace_of_selects (args := #[]) (mvT hZ (ow hw 36 rfl))) (mvT hZ (ow hw 36 rfl)) (mvT hZ (ow hw 35 rfl)) (by decide) (backOf (W := 0) (rm6_1 l Z ar hw [] dq h0 n0 O0 pf5 pf6) hZ (ow hw 37 rfl) (ow hw 11 rfl) (by decide) (by decide)) q2a q2c (g := (mkF m 7 #[rv a0, jv qn, se, iv la, .val .null, un] [(.ref dq)])) rfl (by rw [hml]; rfl) (Steps.refl _) (argsL := []) (rest := []) (lenOf pd_10 rfl) rfl (by show 2 * 0 + _ ≤ _; exact Nat.le_of_eq rfl) (hb hby d5_7) (fun _ _ => ⟨rfl, e1, (by decide : 0 + 0 ≤ _), (by decide : 0 + 0 ≤ _)⟩)
 dsimp only [Pt.U, Pt.locs, Pt.cells, Pt.slots] at X2 l2 y2 z2 st2 hQ2
 subst l2 y2 z2
 obtain ⟨rfl, N2q, e2⟩ := hQ2
 have N2 := Fr.app N0 N2q
 obtain ⟨fs, hr, hrun, hended, hW, hsame⟩ := X2.leave (v := some .null) (fun h => by rw [Bd.returns] at h; cases h)
 subst hS0
 refine ⟨_, _, pre0 _ ?_, hrun, hended, _, _, rfl, ?_, ⟨_, rfl⟩, hW, hsame.mono (by decide) (by decide)⟩
 ·
  refine XS.aconstNull X0.here hx rfl (hb hby d5_0) ?_
  show AT p e below s₁ m 1 #[rv a0, jv qn, se, iv la, un, un] [.null] _
  refine XS.astore X0.here hx rfl (hb hby d5_1) rfl rfl (l' := #[rv a0, jv qn, se, iv la, .val .null, un]) rfl ?_
  show AT p e below s₁ m 3 #[rv a0, jv qn, se, iv la, .val .null, un] [] _
  refine XS.aloadN X0.here hx rfl (hb hby d5_3) rfl rfl ?_
  show AT p e below s₁ m 4 #[rv a0, jv qn, se, iv la, .val .null, un] [(.ref a0)] _
  refine st1 _ ?_
  show AT p e below T1 m 7 #[rv a0, jv qn, se, iv la, .val .null, un] [(.ref dq)] _
  refine st2.trans ?_
  show AT p e below T2 m 10 #[rv a0, jv qn, se, iv la, .val .null, un] [(.int (0 : Int32))] _
  refine XS.ifNo X2.here hx rfl (hb hby d5_10) rfl (XT.i0_ne_f ((by decide) : (0 : Int32) = (0 : Int32))) ?_
  show AT p e below T2 m 13 #[rv a0, jv qn, se, iv la, .val .null, un] [] _
  refine XS.iloadN X2.here hx rfl (hb hby d5_13) rfl ?_
  show AT p e below T2 m 14 #[rv a0, jv qn, se, iv la, .val .null, un] [(.int la)] _
  refine XS.ifYes X2.here hx rfl (pc0 := 14) (pc' := 109) rfl (hb hby d5_14) rfl (XT.i0_le_t (h1 : ¬ ((0 : Int32) < la))) (by decide) (by decide) ?_
  show AT p e below T2 m 109 #[rv a0, jv qn, se, iv la, .val .null, un] [] _
  refine XS.aload X2.here hx rfl (hb hby d5_109) rfl rfl ?_
  show AT p e below T2 m 111 #[rv a0, jv qn, se, iv la, .val .null, un] [.null] _
  exact retOut X2 hx (t := (.array .int)) (i := .areturn) Bd.returns rfl (Or.inr (Or.inr (Or.inr (Or.inr ⟨rfl, rfl, rfl⟩)))) (hb hby d5_111) hr
 ·
  show Q5_1a Z a0 qn la wa dq es ke i0 ki0 t0 fr h0 n0 _ T2.heap _
  rw [e2]
  exact ⟨rfl, N2, rfl⟩

theorem d5_17 : decode prog_29_method_2_code 17 = .ok (.lload_n 1, 1) := by decide +kernel
theorem d5_18 : decode prog_29_method_2_code 18 = .ok (.aload_n 0, 1) := by decide +kernel
theorem d5_19 : decode prog_29_method_2_code 19 = .ok (.getfield 20, 3) := by decide +kernel
theorem d5_22 : decode prog_29_method_2_code 22 = .ok (.lsub, 1) := by decide +kernel
theorem d5_23 : decode prog_29_method_2_code 23 = .ok (.getstatic 24, 3) := by decide +kernel
theorem d5_26 : decode prog_29_method_2_code 26 = .ok (.lcmp, 1) := by decide +kernel
theorem d5_27 : decode prog_29_method_2_code 27 = .ok (.ifCond .ge 82, 3) := by decide +kernel
theorem ef_5_1b (m : MethodId) (a0 : Addr) (qn : Int64) (la : Int32) : entryFrame m #[(.ref a0), (.long qn), (.int la)] 6 = mkF m 0 #[rv a0, jv qn, se, iv la, un, un] [] := by first | (simp [entryFrame, mkF, argsToLocals, Value.category]; done) | rfl
def Q5_1b (Z : State) (a0 : Addr) (qn : Int64) (la : Int32) (wa : Int64) (dq : Addr) (es : Addr) (ke : ClassId) (i0 : Addr) (ki0 : ClassId) (t0 : Int64) (fr : Int32) (h0 : Heap) (n0 : Nat) (v : Option Value) (h : Heap) (L : List Loc) : Prop := v = some .null ∧ Fr n0 L ∧ h = h0
set_option maxRecDepth 65536 in
set_option maxHeartbeats 40000000 in
theorem rm5_1b (l : Launch) (Z : State) (ar : Array Value) (hw : ∀ d ∈ tables_1, d.before ar Z = true) (ws : List Jvm.Cond) (a0 : Addr) (qn : Int64) (la : Int32) (wa : Int64) (dq : Addr) (es : Addr) (ke : ClassId) (i0 : Addr) (ki0 : ClassId) (t0 : Int64) (fr : Int32) (h0 : Heap) (n0 : Nat) (O0 : Old Z n0 h0) (HW : Wd Z ) (pf0 : Exa Z h0 a0 "com/example/minderd/minderd/process/Listings") (pf1 : Fld Z h0 a0 "com/example/minderd/minderd/process/Listings" "recent" "Ljava/util/ArrayDeque;" (.ref dq)) (pf2 : Fld Z h0 a0 "com/example/minderd/minderd/process/Listings" "wholeAt" "J" (.long wa)) (pf3 : Exa Z h0 dq "java/util/ArrayDeque") (pf4 : Fld Z h0 dq "java/util/ArrayDeque" "elements" "[Ljava/lang/Object;" (.ref es)) (pf5 : Fld Z h0 dq "java/util/ArrayDeque" "head" "I" (.int (0 : Int32))) (pf6 : Fld Z h0 dq "java/util/ArrayDeque" "tail" "I" (.int (1 : Int32))) (pf7 : Arv Z h0 es ke (.object "java/lang/Object") (17 : Int32) [(.ref i0), .null] .null) (pf8 : Exa Z h0 i0 "[J") (pf9 : Arv Z h0 i0 ki0 .long (2 : Int32) [(.long t0), (.long (fr.toInt64))] (.long (0 : Int64))) (h1 : (0 : Int32) < la) (h2 : ¬ (qn - wa) < (600000000000 : Int64)) :
    MetFree l y5 (head1 (Jvm.Cond.code y5 prog_29_method_2_code 6 (some (.array .int)) :: ws) ({ frames := 1, cells := 0, slots := 0, locals := 12 } : Room)) (fun a U => a = #[(.ref a0), (.long qn), (.int la)] ∧ Z.Warmed39 U.vm ∧ U.heap = h0) (fun _ _ _ _ _ => True) (fun _ U o U' => ∃ v L, o = .returned v ∧ Q5_1b Z a0 qn la wa dq es ke i0 ki0 t0 fr h0 n0 v U'.heap L ∧ FrameEnd U o U' L ({ frames := 1, cells := 0, slots := 0, locals := 12 } : Room).cells ({ frames := 1, cells := 0, slots := 0, locals := 12 } : Room).slots) := by
 refine MetFree.of_bodySF (plainFor_of_name pn_2) hisR ?_
 intro p e s m args below meth c s₁ Bd hml0 hP hK
 obtain ⟨rfl, hZ, hh⟩ := hP
 have hx := Bd.exec
 have hby := Bd.bytes
 have hml : c.maxLocals = 6 := hml0
 have hown : s.vm.findClass "com/example/minderd/minderd/process/Listings" = some m.cls := findClass_of_methodNamed Bd.named
 have hnm := (name_of_methodNamed Bd.named Bd.method).1
 have X0 : Stand p l e ({ frames := 1, cells := 0, slots := 0, locals := 12 } : Room) s m #[(.ref a0), (.long qn), (.int la)] below meth c s₁ [] 0 0 := Stand.of_body Bd
 have e0 : s₁.heap = h0 := by rw [← hh, Bd.state]; rfl
 have N0 := Fr.nil n0
 have Z0 : n0 ≤ h0.size := Nat.le_trans (Nat.le_of_eq O0.1.symm) O0.2.1
 obtain ⟨S0, hS0⟩ : ∃ z, z = s₁.setTop (entryFrame m #[(.ref a0), (.long qn), (.int la)] 6) := ⟨_, rfl⟩
 have pre0 : ∀ tg, AT p e below s₁ m 0 #[rv a0, jv qn, se, iv la, un, un] [] tg → Steps p.tables e below S0 tg := fun tg kg => by rw [hS0]; exact castTop (ef_5_1b m a0 qn la) kg
 obtain ⟨S_MAKING_NANOS, S_WHOLE_NANOS⟩ := id HW
 obtain ⟨T1, X1, e1, st1⟩ := getF X0 hx hZ hown (host := "") (Or.inl (ow hw 26 rfl)) Via.refl e0 pf1 (g := (mkF m 4 #[rv a0, jv qn, se, iv la, .val .null, un] [(.ref a0)])) rfl rfl (hb hby d5_4)
 obtain ⟨cq2, kq2, q2a, q2b, q2c⟩ := isOf hZ e1 pf3
 obtain ⟨_, _, ⟨T2, L2, k2, n2⟩, -, X2, ⟨Lc2, hQ2, l2, y2, z2⟩, st2⟩ := X1.virtualBack hx (y := y6) (z := y6) hown (mvT hZ (ow hw 33 rfl)) (mvT hZ (ow hw 34 rfl)) (notFace_of_selects (args := #[]) (mvT hZ (ow hw 36 rfl))) (mvT hZ (ow hw 36 rfl)) (mvT hZ (ow hw 35 rfl)) (by decide) (backOf (W := 0) (rm6_1 l Z ar hw [] dq h0 n0 O0 pf5 pf6) hZ (ow hw 37 rfl) (ow hw 11 rfl) (by decide) (by decide)) q2a q2c (g := (mkF m 7 #[rv a0, jv qn, se, iv la, .val .null, un] [(.ref dq)])) rfl (by rw [hml]; rfl) (Steps.refl _) (argsL := []) (rest := []) (lenOf pd_10 rfl) rfl (by show 2 * 0 + _ ≤ _; exact Nat.le_of_eq rfl) (hb hby d5_7) (fun _ _ => ⟨rfl, e1, (by decide : 0 + 0 ≤ _), (by decide : 0 + 0 ≤ _)⟩)
 dsimp only [Pt.U, Pt.locs, Pt.cells, Pt.slots] at X2 l2 y2 z2 st2 hQ2
 subst l2 y2 z2
 obtain ⟨rfl, N2q, e2⟩ := hQ2
 have N2 := Fr.app N0 N2q
 obtain ⟨T3, X3, e3, st3⟩ := getF X2 hx hZ hown (host := "") (Or.inl (ow hw 65 rfl)) Via.refl e2 pf2 (g := (mkF m 19 #[rv a0, jv qn, se, iv la, .val .null, un] [(.ref a0), (.long qn)])) rfl rfl (hb hby d5_19)
 obtain ⟨T4, X4, e4, st4⟩ := getS2 X3 hx hZ hown (host := "") (Or.inl (ow hw 112 rfl)) Via.refl e3 (S_WHOLE_NANOS.ext O0.2) (g := (mkF m 23 #[rv a0, jv qn, se, iv la, .val .null, un] [(.long (qn - wa))])) rfl (hb hby d5_23)
 obtain ⟨fs, hr, hrun, hended, hW, hsame⟩ := X4.leave (v := some .null) (fun h => by rw [Bd.returns] at h; cases h)
 subst hS0
 refine ⟨_, _, pre0 _ ?_, hrun, hended, _, _, rfl, ?_, ⟨_, rfl⟩, hW, hsame.mono (by decide) (by decide)⟩
 ·
  refine XS.aconstNull X0.here hx rfl (hb hby d5_0) ?_
  show AT p e below s₁ m 1 #[rv a0, jv qn, se, iv la, un, un] [.null] _
  refine XS.astore X0.here hx rfl (hb hby d5_1) rfl rfl (l' := #[rv a0, jv qn, se, iv la, .val .null, un]) rfl ?_
  show AT p e below s₁ m 3 #[rv a0, jv qn, se, iv la, .val .null, un] [] _
  refine XS.aloadN X0.here hx rfl (hb hby d5_3) rfl rfl ?_
  show AT p e below s₁ m 4 #[rv a0, jv qn, se, iv la, .val .null, un] [(.ref a0)] _
  refine st1 _ ?_
  show AT p e below T1 m 7 #[rv a0, jv qn, se, iv la, .val .null, un] [(.ref dq)] _
  refine st2.trans ?_
  show AT p e below T2 m 10 #[rv a0, jv qn, se, iv la, .val .null, un] [(.int (0 : Int32))] _
  refine XS.ifNo X2.here hx rfl (hb hby d5_10) rfl (XT.i0_ne_f ((by decide) : (0 : Int32) = (0 : Int32))) ?_
  show AT p e below T2 m 13 #[rv a0, jv qn, se, iv la, .val .null, un] [] _
  refine XS.iloadN X2.here hx rfl (hb hby d5_13) rfl ?_
  show AT p e below T2 m 14 #[rv a0, jv qn, se, iv la, .val .null, un] [(.int la)] _
  refine XS.ifNo X2.here hx rfl (hb hby d5_14) rfl (XT.i0_le_f (h1 : (0 : Int32) < la)) ?_
  show AT p e below T2 m 17 #[rv a0, jv qn, se, iv la, .val .null, un] [] _
  refine XS.lloadN X2.here hx rfl (hb hby d5_17) rfl ?_
  show AT p e below T2 m 18 #[rv a0, jv qn, se, iv la, .val .null, un] [(.long qn)] _
  refine XS.aloadN X2.here hx rfl (hb hby d5_18) rfl rfl ?_
  show AT p e below T2 m 19 #[rv a0, jv qn, se, iv la, .val .null, un] [(.ref a0), (.long qn)] _
  refine st3 _ ?_
  show AT p e below T3 m 22 #[rv a0, jv qn, se, iv la, .val .null, un] [(.long wa), (.long qn)] _
  refine XS.lsub X3.here hx rfl (hb hby d5_22) rfl ?_
  show AT p e below T3 m 23 #[rv a0, jv qn, se, iv la, .val .null, un] [(.long (qn - wa))] _
  refine st4 _ ?_
  show AT p e below T4 m 26 #[rv a0, jv qn, se, iv la, .val .null, un] [(.long (600000000000 : Int64)), (.long (qn - wa))] _
  refine XS.lcmp X4.here hx rfl (hb hby d5_26) rfl ?_
  show AT p e below T4 m 27 #[rv a0, jv qn, se, iv la, .val .null, un] [(.int (XT.cmpL (qn - wa) (600000000000 : Int64)))] _
  refine XS.ifYes X4.here hx rfl (pc0 := 27) (pc' := 109) rfl (hb hby d5_27) rfl (XT.ll_ge_t (h2 : ¬ ((qn - wa) < (600000000000 : Int64)))) (by decide) (by decide) ?_
  show AT p e below T4 m 109 #[rv a0, jv qn, se, iv la, .val .null, un] [] _
  refine XS.aload X4.here hx rfl (hb hby d5_109) rfl rfl ?_
  show AT p e below T4 m 111 #[rv a0, jv qn, se, iv la, .val .null, un] [.null] _
  exact retOut X4 hx (t := (.array .int)) (i := .areturn) Bd.returns rfl (Or.inr (Or.inr (Or.inr (Or.inr ⟨rfl, rfl, rfl⟩)))) (hb hby d5_111) hr
 ·
  show Q5_1b Z a0 qn la wa dq es ke i0 ki0 t0 fr h0 n0 _ T4.heap _
  rw [e4]
  exact ⟨rfl, N2, rfl⟩

theorem d5_30 : decode prog_29_method_2_code 30 = .ok (.aload_n 0, 1) := by decide +kernel
theorem d5_31 : decode prog_29_method_2_code 31 = .ok (.getfield 10, 3) := by decide +kernel
theorem d5_34 : decode prog_29_method_2_code 34 = .ok (.invokevirtual 27, 3) := by decide +kernel
theorem d5_37 : decode prog_29_method_2_code 37 = .ok (.checkcast 31, 3) := by decide +kernel
theorem d5_40 : decode prog_29_method_2_code 40 = .ok (.iconst 1, 1) := by decide +kernel
theorem d5_41 : decode prog_29_method_2_code 41 = .ok (.laload, 1) := by decide +kernel
theorem d5_42 : decode prog_29_method_2_code 42 = .ok (.l2i, 1) := by decide +kernel
theorem d5_43 : decode prog_29_method_2_code 43 = .ok (.istore 5, 2) := by decide +kernel
theorem d5_45 : decode prog_29_method_2_code 45 = .ok (.iload 5, 2) := by decide +kernel
theorem d5_47 : decode prog_29_method_2_code 47 = .ok (.iload_n 3, 1) := by decide +kernel
theorem d5_48 : decode prog_29_method_2_code 48 = .ok (.if_icmp .ge 22, 3) := by decide +kernel
theorem d5_51 : decode prog_29_method_2_code 51 = .ok (.iconst 2, 1) := by decide +kernel
theorem d5_52 : decode prog_29_method_2_code 52 = .ok (.newarray .int, 2) := by decide +kernel
theorem d5_54 : decode prog_29_method_2_code 54 = .ok (.dup, 1) := by decide +kernel
theorem d5_55 : decode prog_29_method_2_code 55 = .ok (.iconst 0, 1) := by decide +kernel
theorem d5_56 : decode prog_29_method_2_code 56 = .ok (.iload 5, 2) := by decide +kernel
theorem d5_58 : decode prog_29_method_2_code 58 = .ok (.iconst 1, 1) := by decide +kernel
theorem d5_59 : decode prog_29_method_2_code 59 = .ok (.iadd, 1) := by decide +kernel
theorem d5_60 : decode prog_29_method_2_code 60 = .ok (.iastore, 1) := by decide +kernel
theorem d5_61 : decode prog_29_method_2_code 61 = .ok (.dup, 1) := by decide +kernel
theorem d5_62 : decode prog_29_method_2_code 62 = .ok (.iconst 1, 1) := by decide +kernel
theorem d5_63 : decode prog_29_method_2_code 63 = .ok (.iload_n 3, 1) := by decide +kernel
theorem d5_64 : decode prog_29_method_2_code 64 = .ok (.iastore, 1) := by decide +kernel
theorem d5_65 : decode prog_29_method_2_code 65 = .ok (.astore 4, 2) := by decide +kernel
theorem d5_67 : decode prog_29_method_2_code 67 = .ok (.goto 42, 3) := by decide +kernel
theorem ef_5_1l (m : MethodId) (a0 : Addr) (qn : Int64) (la : Int32) : entryFrame m #[(.ref a0), (.long qn), (.int la)] 6 = mkF m 0 #[rv a0, jv qn, se, iv la, un, un] [] := by first | (simp [entryFrame, mkF, argsToLocals, Value.category]; done) | rfl
def Q5_1l (Z : State) (a0 : Addr) (qn : Int64) (la : Int32) (wa : Int64) (dq : Addr) (es : Addr) (ke : ClassId) (i0 : Addr) (ki0 : ClassId) (t0 : Int64) (fr : Int32) (h0 : Heap) (n0 : Nat) (v : Option Value) (h : Heap) (L : List Loc) : Prop := ∃ (b : Addr) (kb : ClassId), v = some (.ref b) ∧ Fr n0 L ∧ Keep h0 h [] ∧ Arv Z h b kb .int (2 : Int32) [(.int (fr + (1 : Int32))), (.int la)] (.int (0 : Int32)) ∧ h0.size ≤ b
set_option maxRecDepth 65536 in
set_option maxHeartbeats 40000000 in
theorem rm5_1l (l : Launch) (Z : State) (ar : Array Value) (hw : ∀ d ∈ tables_1, d.before ar Z = true) (ws : List Jvm.Cond) (a0 : Addr) (qn : Int64) (la : Int32) (wa : Int64) (dq : Addr) (es : Addr) (ke : ClassId) (i0 : Addr) (ki0 : ClassId) (t0 : Int64) (fr : Int32) (h0 : Heap) (n0 : Nat) (O0 : Old Z n0 h0) (HW : Wd Z ) (pf0 : Exa Z h0 a0 "com/example/minderd/minderd/process/Listings") (pf1 : Fld Z h0 a0 "com/example/minderd/minderd/process/Listings" "recent" "Ljava/util/ArrayDeque;" (.ref dq)) (pf2 : Fld Z h0 a0 "com/example/minderd/minderd/process/Listings" "wholeAt" "J" (.long wa)) (pf3 : Exa Z h0 dq "java/util/ArrayDeque") (pf4 : Fld Z h0 dq "java/util/ArrayDeque" "elements" "[Ljava/lang/Object;" (.ref es)) (pf5 : Fld Z h0 dq "java/util/ArrayDeque" "head" "I" (.int (0 : Int32))) (pf6 : Fld Z h0 dq "java/util/ArrayDeque" "tail" "I" (.int (1 : Int32))) (pf7 : Arv Z h0 es ke (.object "java/lang/Object") (17 : Int32) [(.ref i0), .null] .null) (pf8 : Exa Z h0 i0 "[J") (pf9 : Arv Z h0 i0 ki0 .long (2 : Int32) [(.long t0), (.long (fr.toInt64))] (.long (0 : Int64))) (h1 : (0 : Int32) < la) (h2 : (qn - wa) < (600000000000 : Int64)) (h3 : fr < la) :
    MetFree l y5 (head1 (Jvm.Cond.code y5 prog_29_method_2_code 6 (some (.array .int)) :: ws) ({ frames := 2, cells := 1, slots := 2, locals := 26 } : Room)) (fun a U => a = #[(.ref a0), (.long qn), (.int la)] ∧ Z.Warmed39 U.vm ∧ U.heap = h0) (fun _ _ _ _ _ => True) (fun _ U o U' => ∃ v L, o = .returned v ∧ Q5_1l Z a0 qn la wa dq es ke i0 ki0 t0 fr h0 n0 v U'.heap L ∧ FrameEnd U o U' L ({ frames := 2, cells := 1, slots := 2, locals := 26 } : Room).cells ({ frames := 2, cells := 1, slots := 2, locals := 26 } : Room).slots) := by
 refine MetFree.of_bodySF (plainFor_of_name pn_2) hisR ?_
 intro p e s m args below meth c s₁ Bd hml0 hP hK
 obtain ⟨rfl, hZ, hh⟩ := hP
 have hx := Bd.exec
 have hby := Bd.bytes
 have hml : c.maxLocals = 6 := hml0
 have hown : s.vm.findClass "com/example/minderd/minderd/process/Listings" = some m.cls := findClass_of_methodNamed Bd.named
 have hnm := (name_of_methodNamed Bd.named Bd.method).1
 have X0 : Stand p l e ({ frames := 2, cells := 1, slots := 2, locals := 26 } : Room) s m #[(.ref a0), (.long qn), (.int la)] below meth c s₁ [] 0 0 := Stand.of_body Bd
 have e0 : s₁.heap = h0 := by rw [← hh, Bd.state]; rfl
 have N0 := Fr.nil n0
 have Z0 : n0 ≤ h0.size := Nat.le_trans (Nat.le_of_eq O0.1.symm) O0.2.1
 obtain ⟨S0, hS0⟩ : ∃ z, z = s₁.setTop (entryFrame m #[(.ref a0), (.long qn), (.int la)] 6) := ⟨_, rfl⟩
 have pre0 : ∀ tg, AT p e below s₁ m 0 #[rv a0, jv qn, se, iv la, un, un] [] tg → Steps p.tables e below S0 tg := fun tg kg => by rw [hS0]; exact castTop (ef_5_1l m a0 qn la) kg
 obtain ⟨S_MAKING_NANOS, S_WHOLE_NANOS⟩ := id HW
 obtain ⟨T1, X1, e1, st1⟩ := getF X0 hx hZ hown (host := "") (Or.inl (ow hw 26 rfl)) Via.refl e0 pf1 (g := (mkF m 4 #[rv a0, jv qn, se, iv la, .val .null, un] [(.ref a0)])) rfl rfl (hb hby d5_4)
 obtain ⟨cq2, kq2, q2a, q2b, q2c⟩ := isOf hZ e1 pf3
 obtain ⟨_, _, ⟨T2, L2, k2, n2⟩, -, X2, ⟨Lc2, hQ2, l2, y2, z2⟩, st2⟩ := X1.virtualBack hx (y := y6) (z := y6) hown (mvT hZ (ow hw 33 rfl)) (mvT hZ (ow hw 34 rfl)) (notFace_of_selects (args := #[]) (mvT hZ (ow hw 36 rfl))) (mvT hZ (ow hw 36 rfl)) (mvT hZ (ow hw 35 rfl)) (by decide) (backOf (W := 0) (rm6_1 l Z ar hw [] dq h0 n0 O0 pf5 pf6) hZ (ow hw 37 rfl) (ow hw 11 rfl) (by decide) (by decide)) q2a q2c (g := (mkF m 7 #[rv a0, jv qn, se, iv la, .val .null, un] [(.ref dq)])) rfl (by rw [hml]; rfl) (Steps.refl _) (argsL := []) (rest := []) (lenOf pd_10 rfl) rfl (by show 2 * 0 + _ ≤ _; exact Nat.le_of_eq rfl) (hb hby d5_7) (fun _ _ => ⟨rfl, e1, (by decide : 0 + 0 ≤ _), (by decide : 0 + 0 ≤ _)⟩)
 dsimp only [Pt.U, Pt.locs, Pt.cells, Pt.slots] at X2 l2 y2 z2 st2 hQ2
 subst l2 y2 z2
 obtain ⟨rfl, N2q, e2⟩ := hQ2
 have N2 := Fr.app N0 N2q
 obtain ⟨T3, X3, e3, st3⟩ := getF X2 hx hZ hown (host := "") (Or.inl (ow hw 65 rfl)) Via.refl e2 pf2 (g := (mkF m 19 #[rv a0, jv qn, se, iv la, .val .null, un] [(.ref a0), (.long qn)])) rfl rfl (hb hby d5_19)
 obtain ⟨T4, X4, e4, st4⟩ := getS2 X3 hx hZ hown (host := "") (Or.inl (ow hw 112 rfl)) Via.refl e3 (S_WHOLE_NANOS.ext O0.2) (g := (mkF m 23 #[rv a0, jv qn, se, iv la, .val .null, un] [(.long (qn - wa))])) rfl (hb hby d5_23)
 obtain ⟨T5, X5, e5, st5⟩ := getF X4 hx hZ hown (host := "") (Or.inl (ow hw 26 rfl)) Via.refl e4 pf1 (g := (mkF m 31 #[rv a0, jv qn, se, iv la, .val .null, un] [(.ref a0)])) rfl rfl (hb hby d5_31)
 obtain ⟨cq6, kq6, q6a, q6b, q6c⟩ := isOf hZ e5 pf3
 obtain ⟨_, _, ⟨T6, L6, k6, n6⟩, -, X6, ⟨Lc6, hQ6, l6, y6, z6⟩, st6⟩ := X5.virtualBack hx (y := y17) (z := y17) hown (mvT hZ (ow hw 114 rfl)) (mvT hZ (ow hw 115 rfl)) (notFace_of_selects (args := #[]) (mvT hZ (ow hw 117 rfl))) (mvT hZ (ow hw 117 rfl)) (mvT hZ (ow hw 116 rfl)) (by decide) (backOf (W := 0) (rm17_1 l Z ar hw [] dq es ke i0 h0 n0 O0 pf4 pf5 pf6 pf7) hZ (ow hw 118 rfl) (ow hw 11 rfl) (by decide) (by decide)) q6a q6c (g := (mkF m 34 #[rv a0, jv qn, se, iv la, .val .null, un] [(.ref dq)])) rfl (by rw [hml]; rfl) (Steps.refl _) (argsL := []) (rest := []) (lenOf pd_7 rfl) rfl (by show 2 * 0 + _ ≤ _; exact Nat.le_of_eq rfl) (hb hby d5_34) (fun _ _ => ⟨rfl, e5, (by decide : 0 + 0 ≤ _), (by decide : 0 + 0 ≤ _)⟩)
 dsimp only [Pt.U, Pt.locs, Pt.cells, Pt.slots] at X6 l6 y6 z6 st6 hQ6
 subst l6 y6 z6
 obtain ⟨rfl, N6q, e6⟩ := hQ6
 have N6 := Fr.app N2 N6q
 obtain ⟨T7, X7, e7, st7⟩ := castY X6 hx hZ hown (ow hw 108 rfl) e6 (Ins.self pf8) (g := (mkF m 37 #[rv a0, jv qn, se, iv la, .val .null, un] [(.ref i0)])) rfl rfl (hb hby d5_37)
 obtain ⟨cl8, Ar8, q8, S8, N8, H8, G8⟩ := id pf9
 have hin8 := own_in (1 : Int32) S8 ⟨by decide, by decide⟩
 have hat8 : cl8.slots[((1 : Int32)).toNatClampNeg]? = some (.long (fr.toInt64)) := Has.at H8 hin8 rfl
 have pre9 : ∀ tg, AT p e below T7 m 43 #[rv a0, jv qn, se, iv la, .val .null, un] [(.int ((fr.toInt64).toInt32))] tg → Steps p.tables e below S0 tg := fun tg kg => pre0 tg (by
  refine XS.aconstNull X0.here hx rfl (hb hby d5_0) ?_
  show AT p e below s₁ m 1 #[rv a0, jv qn, se, iv la, un, un] [.null] _
  refine XS.astore X0.here hx rfl (hb hby d5_1) rfl rfl (l' := #[rv a0, jv qn, se, iv la, .val .null, un]) rfl ?_
  show AT p e below s₁ m 3 #[rv a0, jv qn, se, iv la, .val .null, un] [] _
  refine XS.aloadN X0.here hx rfl (hb hby d5_3) rfl rfl ?_
  show AT p e below s₁ m 4 #[rv a0, jv qn, se, iv la, .val .null, un] [(.ref a0)] _
  refine st1 _ ?_
  show AT p e below T1 m 7 #[rv a0, jv qn, se, iv la, .val .null, un] [(.ref dq)] _
  refine st2.trans ?_
  show AT p e below T2 m 10 #[rv a0, jv qn, se, iv la, .val .null, un] [(.int (0 : Int32))] _
  refine XS.ifNo X2.here hx rfl (hb hby d5_10) rfl (XT.i0_ne_f ((by decide) : (0 : Int32) = (0 : Int32))) ?_
  show AT p e below T2 m 13 #[rv a0, jv qn, se, iv la, .val .null, un] [] _
  refine XS.iloadN X2.here hx rfl (hb hby d5_13) rfl ?_
  show AT p e below T2 m 14 #[rv a0, jv qn, se, iv la, .val .null, un] [(.int la)] _
  refine XS.ifNo X2.here hx rfl (hb hby d5_14) rfl (XT.i0_le_f (h1 : (0 : Int32) < la)) ?_
  show AT p e below T2 m 17 #[rv a0, jv qn, se, iv la, .val .null, un] [] _
  refine XS.lloadN X2.here hx rfl (hb hby d5_17) rfl ?_
  show AT p e below T2 m 18 #[rv a0, jv qn, se, iv la, .val .null, un] [(.long qn)] _
  refine XS.aloadN X2.here hx rfl (hb hby d5_18) rfl rfl ?_
  show AT p e below T2 m 19 #[rv a0, jv qn, se, iv la, .val .null, un] [(.ref a0), (.long qn)] _
  refine st3 _ ?_
  show AT p e below T3 m 22 #[rv a0, jv qn, se, iv la, .val .null, un] [(.long wa), (.long qn)] _
  refine XS.lsub X3.here hx rfl (hb hby d5_22) rfl ?_
  show AT p e below T3 m 23 #[rv a0, jv qn, se, iv la, .val .null, un] [(.long (qn - wa))] _
  refine st4 _ ?_
  show AT p e below T4 m 26 #[rv a0, jv qn, se, iv la, .val .null, un] [(.long (600000000000 : Int64)), (.long (qn - wa))] _
  refine XS.lcmp X4.here hx rfl (hb hby d5_26) rfl ?_
  show AT p e below T4 m 27 #[rv a0, jv qn, se, iv la, .val .null, un] [(.int (XT.cmpL (qn - wa) (600000000000 : Int64)))] _
  refine XS.ifNo X4.here hx rfl (hb hby d5_27) rfl (XT.ll_ge_f (h2 : (qn - wa) < (600000000000 : Int64))) ?_
  show AT p e below T4 m 30 #[rv a0, jv qn, se, iv la, .val .null, un] [] _
  refine XS.aloadN X4.here hx rfl (hb hby d5_30) rfl rfl ?_
  show AT p e below T4 m 31 #[rv a0, jv qn, se, iv la, .val .null, un] [(.ref a0)] _
  refine st5 _ ?_
  show AT p e below T5 m 34 #[rv a0, jv qn, se, iv la, .val .null, un] [(.ref dq)] _
  refine st6.trans ?_
  show AT p e below T6 m 37 #[rv a0, jv qn, se, iv la, .val .null, un] [(.ref i0)] _
  refine st7 _ ?_
  show AT p e below T7 m 40 #[rv a0, jv qn, se, iv la, .val .null, un] [(.ref i0)] _
  refine XS.iconst X7.here hx rfl (hb hby d5_40) ?_
  show AT p e below T7 m 41 #[rv a0, jv qn, se, iv la, .val .null, un] [(.int (1 : Int32)), (.ref i0)] _
  refine X7.laload hx (j := (1 : Int32)) (v := (.long (fr.toInt64))) (by rw [e7]; exact Ar8.1) (State.isArrayOf_alike hZ.alike Ar8.2.1) Ar8.2.2 hin8 hat8 (g := (mkF m 41 #[rv a0, jv qn, se, iv la, .val .null, un] [(.int (1 : Int32)), (.ref i0)])) rfl rfl (hb hby d5_41) _ ?_
  show AT p e below T7 m 42 #[rv a0, jv qn, se, iv la, .val .null, un] [(.long (fr.toInt64))] _
  refine XS.l2i X7.here hx rfl (hb hby d5_42) rfl ?_
  exact kg)
 have hw10 : ((fr.toInt64).toInt32) = fr := own_id fr
 have pre10 : ∀ tg, AT p e below T7 m 43 #[rv a0, jv qn, se, iv la, .val .null, un] [(.int fr)] tg → Steps p.tables e below S0 tg := by
   have q := pre9
   rw [hw10] at q
   exact q
 obtain ⟨T11, h11, k11, X11, e11, E11, A11, B11, st11⟩ := newPE X7 hx hZ (ow hw 122 rfl) e7 (g := (mkF m 52 #[rv a0, jv qn, se, iv la, .val .null, iv fr] [(.int (2 : Int32))])) rfl (hb hby d5_52) rfl (by decide) (cap := 2) (by decide) (by decide) (by decide) (by decide) (ad := "[I") (by decide)
 obtain ⟨b11, g11⟩ : ∃ z, z = h0.size := ⟨_, rfl⟩
 rw [← g11] at A11 B11 st11
 have ne11_12 : a0 ≠ b11 := Nat.ne_of_lt (Nat.lt_of_lt_of_le (pf0).lt (Nat.le_of_eq g11.symm))
 have ne11_13 : dq ≠ b11 := Nat.ne_of_lt (Nat.lt_of_lt_of_le (pf3).lt (Nat.le_of_eq g11.symm))
 have ne11_14 : es ≠ b11 := Nat.ne_of_lt (Nat.lt_of_lt_of_le (pf7).lt (Nat.le_of_eq g11.symm))
 have ne11_15 : i0 ≠ b11 := Nat.ne_of_lt (Nat.lt_of_lt_of_le (pf8).lt (Nat.le_of_eq g11.symm))
 have gn11 : n0 ≤ b11 := Nat.le_trans (Nat.le_trans (Nat.le_of_eq O0.1.symm) O0.2.1) (Nat.le_of_eq g11.symm)
 have sz11 : h0.size ≤ b11 := Nat.le_trans (Keep.refl h0 []).1 (Nat.le_of_eq g11.symm)
 have E11_16 := pf0.ext E11
 have F11_17 := pf1.ext E11
 have F11_18 := pf2.ext E11
 have E11_19 := pf3.ext E11
 have F11_20 := pf4.ext E11
 have F11_21 := pf5.ext E11
 have F11_22 := pf6.ext E11
 have V11_23 := pf7.ext E11
 have E11_24 := pf8.ext E11
 have V11_25 := pf9.ext E11
 have K11 := (Keep.refl h0 []).ext E11
 have O11 := O0.ext E11
 have V11_26 : Arv Z h11 b11 k11 .int (2 : Int32) [(.int (0 : Int32)), (.int (0 : Int32))] (.int (0 : Int32)) := (Arv.new A11 (by decide)).pad (pad_rep [] (.int (0 : Int32)) 2)
 obtain ⟨cl27, Ar27, q27, S27, M27, H27, G27⟩ := id V11_26
 have hin27 := own_in (0 : Int32) S27 ⟨by decide, by decide⟩
 obtain ⟨T27, h27, X27, e27, W27, st27⟩ := stI X11 hx hZ e11 Ar27 (j := (0 : Int32)) hin27 (g := (mkF m 60 #[rv a0, jv qn, se, iv la, .val .null, iv fr] [(.int (fr + (1 : Int32))), (.int (0 : Int32)), (.ref b11), (.ref b11)])) rfl rfl (hb hby d5_60)
 have V27_28 : Arv Z h27 b11 k11 .int (2 : Int32) [(.int (fr + (1 : Int32))), (.int (0 : Int32))] (.int (0 : Int32)) := Arv.set Ar27 q27 S27 M27 H27 G27 rfl W27 0 rfl (Nat.le_of_ble_eq_true rfl)
 have E27_29 := E11_16.wr W27
 have F27_30 := F11_17.other W27 (Or.inl ne11_12)
 have F27_31 := F11_18.other W27 (Or.inl ne11_12)
 have E27_32 := E11_19.wr W27
 have F27_33 := F11_20.other W27 (Or.inl ne11_13)
 have F27_34 := F11_21.other W27 (Or.inl ne11_13)
 have F27_35 := F11_22.other W27 (Or.inl ne11_13)
 have V27_36 := V11_23.other W27 ne11_14
 have E27_37 := E11_24.wr W27
 have V27_38 := V11_25.other W27 ne11_15
 have E27_39 := B11.wr W27
 have K27 := K11.wr W27 (Or.inr sz11)
 have O27 := O11.wr W27 gn11
 have N27 := Fr.snoc X27 N6 gn11
 obtain ⟨cl40, Ar40, q40, S40, M40, H40, G40⟩ := id V27_28
 have hin40 := own_in (1 : Int32) S40 ⟨by decide, by decide⟩
 obtain ⟨T40, h40, X40, e40, W40, st40⟩ := stI X27 hx hZ e27 Ar40 (j := (1 : Int32)) hin40 (g := (mkF m 64 #[rv a0, jv qn, se, iv la, .val .null, iv fr] [(.int la), (.int (1 : Int32)), (.ref b11), (.ref b11)])) rfl rfl (hb hby d5_64)
 have V40_41 : Arv Z h40 b11 k11 .int (2 : Int32) [(.int (fr + (1 : Int32))), (.int la)] (.int (0 : Int32)) := Arv.set Ar40 q40 S40 M40 H40 G40 rfl W40 1 rfl (Nat.le_of_ble_eq_true rfl)
 have E40_42 := E27_29.wr W40
 have F40_43 := F27_30.other W40 (Or.inl ne11_12)
 have F40_44 := F27_31.other W40 (Or.inl ne11_12)
 have E40_45 := E27_32.wr W40
 have F40_46 := F27_33.other W40 (Or.inl ne11_13)
 have F40_47 := F27_34.other W40 (Or.inl ne11_13)
 have F40_48 := F27_35.other W40 (Or.inl ne11_13)
 have V40_49 := V27_36.other W40 ne11_14
 have E40_50 := E27_37.wr W40
 have V40_51 := V27_38.other W40 ne11_15
 have E40_52 := E27_39.wr W40
 have K40 := K27.wr W40 (Or.inr sz11)
 have O40 := O27.wr W40 gn11
 have N40 := Fr.snoc X40 N27 gn11
 obtain ⟨fs, hr, hrun, hended, hW, hsame⟩ := X40.leave (v := some (.ref b11)) (fun h => by rw [Bd.returns] at h; cases h)
 subst hS0
 refine ⟨_, _, pre10 _ ?_, hrun, hended, _, _, rfl, ?_, ⟨_, rfl⟩, hW, hsame.mono (by decide) (by decide)⟩
 ·
  refine XS.istore X7.here hx rfl (hb hby d5_43) rfl (l' := #[rv a0, jv qn, se, iv la, .val .null, iv fr]) rfl ?_
  show AT p e below T7 m 45 #[rv a0, jv qn, se, iv la, .val .null, iv fr] [] _
  refine XS.iload X7.here hx rfl (hb hby d5_45) rfl ?_
  show AT p e below T7 m 47 #[rv a0, jv qn, se, iv la, .val .null, iv fr] [(.int fr)] _
  refine XS.iloadN X7.here hx rfl (hb hby d5_47) rfl ?_
  show AT p e below T7 m 48 #[rv a0, jv qn, se, iv la, .val .null, iv fr] [(.int la), (.int fr)] _
  refine XS.icmpNo X7.here hx rfl (hb hby d5_48) rfl (XT.ii_ge_f (h3 : fr < la)) ?_
  show AT p e below T7 m 51 #[rv a0, jv qn, se, iv la, .val .null, iv fr] [] _
  refine XS.iconst X7.here hx rfl (hb hby d5_51) ?_
  show AT p e below T7 m 52 #[rv a0, jv qn, se, iv la, .val .null, iv fr] [(.int (2 : Int32))] _
  refine st11 _ ?_
  show AT p e below T11 m 54 #[rv a0, jv qn, se, iv la, .val .null, iv fr] [(.ref b11)] _
  refine XS.dup X11.here hx rfl (hb hby d5_54) rfl rfl ?_
  show AT p e below T11 m 55 #[rv a0, jv qn, se, iv la, .val .null, iv fr] [(.ref b11), (.ref b11)] _
  refine XS.iconst X11.here hx rfl (hb hby d5_55) ?_
  show AT p e below T11 m 56 #[rv a0, jv qn, se, iv la, .val .null, iv fr] [(.int (0 : Int32)), (.ref b11), (.ref b11)] _
  refine XS.iload X11.here hx rfl (hb hby d5_56) rfl ?_
  show AT p e below T11 m 58 #[rv a0, jv qn, se, iv la, .val .null, iv fr] [(.int fr), (.int (0 : Int32)), (.ref b11), (.ref b11)] _
  refine XS.iconst X11.here hx rfl (hb hby d5_58) ?_
  show AT p e below T11 m 59 #[rv a0, jv qn, se, iv la, .val .null, iv fr] [(.int (1 : Int32)), (.int fr), (.int (0 : Int32)), (.ref b11), (.ref b11)] _
  refine XS.iadd X11.here hx rfl (hb hby d5_59) rfl ?_
  show AT p e below T11 m 60 #[rv a0, jv qn, se, iv la, .val .null, iv fr] [(.int (fr + (1 : Int32))), (.int (0 : Int32)), (.ref b11), (.ref b11)] _
  refine st27 _ ?_
  show AT p e below T27 m 61 #[rv a0, jv qn, se, iv la, .val .null, iv fr] [(.ref b11)] _
  refine XS.dup X27.here hx rfl (hb hby d5_61) rfl rfl ?_
  show AT p e below T27 m 62 #[rv a0, jv qn, se, iv la, .val .null, iv fr] [(.ref b11), (.ref b11)] _
  refine XS.iconst X27.here hx rfl (hb hby d5_62) ?_
  show AT p e below T27 m 63 #[rv a0, jv qn, se, iv la, .val .null, iv fr] [(.int (1 : Int32)), (.ref b11), (.ref b11)] _
  refine XS.iloadN X27.here hx rfl (hb hby d5_63) rfl ?_
  show AT p e below T27 m 64 #[rv a0, jv qn, se, iv la, .val .null, iv fr] [(.int la), (.int (1 : Int32)), (.ref b11), (.ref b11)] _
  refine st40 _ ?_
  show AT p e below T40 m 65 #[rv a0, jv qn, se, iv la, .val .null, iv fr] [(.ref b11)] _
  refine XS.astore X40.here hx rfl (hb hby d5_65) rfl rfl (l' := #[rv a0, jv qn, se, iv la, rv b11, iv fr]) rfl ?_
  show AT p e below T40 m 67 #[rv a0, jv qn, se, iv la, rv b11, iv fr] [] _
  refine XS.goto X40.here hx rfl (pc0 := 67) (pc' := 109) rfl (hb hby d5_67) (by decide) (by decide) ?_
  show AT p e below T40 m 109 #[rv a0, jv qn, se, iv la, rv b11, iv fr] [] _
  refine XS.aload X40.here hx rfl (hb hby d5_109) rfl rfl ?_
  show AT p e below T40 m 111 #[rv a0, jv qn, se, iv la, rv b11, iv fr] [(.ref b11)] _
  exact retOut X40 hx (t := (.array .int)) (i := .areturn) Bd.returns rfl (Or.inr (Or.inr (Or.inr (Or.inr ⟨rfl, rfl, rfl⟩)))) (hb hby d5_111) hr
 ·
  show Q5_1l Z a0 qn la wa dq es ke i0 ki0 t0 fr h0 n0 _ T40.heap _
  rw [e40]
  exact ⟨b11, k11, rfl, N40, K40, V40_41, sz11⟩

theorem d5_70 : decode prog_29_method_2_code 70 = .ok (.iload 5, 2) := by decide +kernel
theorem d5_72 : decode prog_29_method_2_code 72 = .ok (.iload_n 3, 1) := by decide +kernel
theorem d5_73 : decode prog_29_method_2_code 73 = .ok (.if_icmp .le 31, 3) := by decide +kernel
theorem d5_76 : decode prog_29_method_2_code 76 = .ok (.iconst 4, 1) := by decide +kernel
theorem d5_77 : decode prog_29_method_2_code 77 = .ok (.newarray .int, 2) := by decide +kernel
theorem d5_79 : decode prog_29_method_2_code 79 = .ok (.dup, 1) := by decide +kernel
theorem d5_80 : decode prog_29_method_2_code 80 = .ok (.iconst 0, 1) := by decide +kernel
theorem d5_81 : decode prog_29_method_2_code 81 = .ok (.iload 5, 2) := by decide +kernel
theorem d5_83 : decode prog_29_method_2_code 83 = .ok (.iconst 1, 1) := by decide +kernel
theorem d5_84 : decode prog_29_method_2_code 84 = .ok (.iadd, 1) := by decide +kernel
theorem d5_85 : decode prog_29_method_2_code 85 = .ok (.iastore, 1) := by decide +kernel
theorem d5_86 : decode prog_29_method_2_code 86 = .ok (.dup, 1) := by decide +kernel
theorem d5_87 : decode prog_29_method_2_code 87 = .ok (.iconst 1, 1) := by decide +kernel
theorem d5_88 : decode prog_29_method_2_code 88 = .ok (.ldc 35, 2) := by decide +kernel
theorem d5_90 : decode prog_29_method_2_code 90 = .ok (.iastore, 1) := by decide +kernel
theorem d5_91 : decode prog_29_method_2_code 91 = .ok (.dup, 1) := by decide +kernel
theorem d5_92 : decode prog_29_method_2_code 92 = .ok (.iconst 2, 1) := by decide +kernel
theorem d5_93 : decode prog_29_method_2_code 93 = .ok (.iconst 1, 1) := by decide +kernel
theorem d5_94 : decode prog_29_method_2_code 94 = .ok (.iastore, 1) := by decide +kernel
theorem d5_95 : decode prog_29_method_2_code 95 = .ok (.dup, 1) := by decide +kernel
theorem d5_96 : decode prog_29_method_2_code 96 = .ok (.iconst 3, 1) := by decide +kernel
theorem d5_97 : decode prog_29_method_2_code 97 = .ok (.iload_n 3, 1) := by decide +kernel
theorem d5_98 : decode prog_29_method_2_code 98 = .ok (.iastore, 1) := by decide +kernel
theorem d5_99 : decode prog_29_method_2_code 99 = .ok (.astore 4, 2) := by decide +kernel
theorem d5_101 : decode prog_29_method_2_code 101 = .ok (.goto 8, 3) := by decide +kernel
theorem ef_5_1g (m : MethodId) (a0 : Addr) (qn : Int64) (la : Int32) : entryFrame m #[(.ref a0), (.long qn), (.int la)] 6 = mkF m 0 #[rv a0, jv qn, se, iv la, un, un] [] := by first | (simp [entryFrame, mkF, argsToLocals, Value.category]; done) | rfl
def Q5_1g (Z : State) (a0 : Addr) (qn : Int64) (la : Int32) (wa : Int64) (dq : Addr) (es : Addr) (ke : ClassId) (i0 : Addr) (ki0 : ClassId) (t0 : Int64) (fr : Int32) (h0 : Heap) (n0 : Nat) (v : Option Value) (h : Heap) (L : List Loc) : Prop := ∃ (b : Addr) (kb : ClassId), v = some (.ref b) ∧ Fr n0 L ∧ Keep h0 h [] ∧ Arv Z h b kb .int (4 : Int32) [(.int (fr + (1 : Int32))), (.int (2147483647 : Int32)), (.int (1 : Int32)), (.int la)] (.int (0 : Int32)) ∧ h0.size ≤ b
set_option maxRecDepth 65536 in
set_option maxHeartbeats 40000000 in
theorem rm5_1g (l : Launch) (Z : State) (ar : Array Value) (hw : ∀ d ∈ tables_1, d.before ar Z = true) (ws : List Jvm.Cond) (a0 : Addr) (qn : Int64) (la : Int32) (wa : Int64) (dq : Addr) (es : Addr) (ke : ClassId) (i0 : Addr) (ki0 : ClassId) (t0 : Int64) (fr : Int32) (h0 : Heap) (n0 : Nat) (O0 : Old Z n0 h0) (HW : Wd Z ) (pf0 : Exa Z h0 a0 "com/example/minderd/minderd/process/Listings") (pf1 : Fld Z h0 a0 "com/example/minderd/minderd/process/Listings" "recent" "Ljava/util/ArrayDeque;" (.ref dq)) (pf2 : Fld Z h0 a0 "com/example/minderd/minderd/process/Listings" "wholeAt" "J" (.long wa)) (pf3 : Exa Z h0 dq "java/util/ArrayDeque") (pf4 : Fld Z h0 dq "java/util/ArrayDeque" "elements" "[Ljava/lang/Object;" (.ref es)) (pf5 : Fld Z h0 dq "java/util/ArrayDeque" "head" "I" (.int (0 : Int32))) (pf6 : Fld Z h0 dq "java/util/ArrayDeque" "tail" "I" (.int (1 : Int32))) (pf7 : Arv Z h0 es ke (.object "java/lang/Object") (17 : Int32) [(.ref i0), .null] .null) (pf8 : Exa Z h0 i0 "[J") (pf9 : Arv Z h0 i0 ki0 .long (2 : Int32) [(.long t0), (.long (fr.toInt64))] (.long (0 : Int64))) (h1 : (0 : Int32) < la) (h2 : (qn - wa) < (600000000000 : Int64)) (h3 : ¬ fr < la) (h4 : la < fr) :
    MetFree l y5 (head1 (Jvm.Cond.code y5 prog_29_method_2_code 6 (some (.array .int)) :: ws) ({ frames := 2, cells := 1, slots := 4, locals := 26 } : Room)) (fun a U => a = #[(.ref a0), (.long qn), (.int la)] ∧ Z.Warmed39 U.vm ∧ U.heap = h0) (fun _ _ _ _ _ => True) (fun _ U o U' => ∃ v L, o = .returned v ∧ Q5_1g Z a0 qn la wa dq es ke i0 ki0 t0 fr h0 n0 v U'.heap L ∧ FrameEnd U o U' L ({ frames := 2, cells := 1, slots := 4, locals := 26 } : Room).cells ({ frames := 2, cells := 1, slots := 4, locals := 26 } : Room).slots) := by
 refine MetFree.of_bodySF (plainFor_of_name pn_2) hisR ?_
 intro p e s m args below meth c s₁ Bd hml0 hP hK
 obtain ⟨rfl, hZ, hh⟩ := hP
 have hx := Bd.exec
 have hby := Bd.bytes
 have hml : c.maxLocals = 6 := hml0
 have hown : s.vm.findClass "com/example/minderd/minderd/process/Listings" = some m.cls := findClass_of_methodNamed Bd.named
 have hnm := (name_of_methodNamed Bd.named Bd.method).1
 have X0 : Stand p l e ({ frames := 2, cells := 1, slots := 4, locals := 26 } : Room) s m #[(.ref a0), (.long qn), (.int la)] below meth c s₁ [] 0 0 := Stand.of_body Bd
 have e0 : s₁.heap = h0 := by rw [← hh, Bd.state]; rfl
 have N0 := Fr.nil n0
 have Z0 : n0 ≤ h0.size := Nat.le_trans (Nat.le_of_eq O0.1.symm) O0.2.1
 obtain ⟨S0, hS0⟩ : ∃ z, z = s₁.setTop (entryFrame m #[(.ref a0), (.long qn), (.int la)] 6) := ⟨_, rfl⟩
 have pre0 : ∀ tg, AT p e below s₁ m 0 #[rv a0, jv qn, se, iv la, un, un] [] tg → Steps p.tables e below S0 tg := fun tg kg => by rw [hS0]; exact castTop (ef_5_1g m a0 qn la) kg
 obtain ⟨S_MAKING_NANOS, S_WHOLE_NANOS⟩ := id HW
 obtain ⟨T1, X1, e1, st1⟩ := getF X0 hx hZ hown (host := "") (Or.inl (ow hw 26 rfl)) Via.refl e0 pf1 (g := (mkF m 4 #[rv a0, jv qn, se, iv la, .val .null, un] [(.ref a0)])) rfl rfl (hb hby d5_4)
 obtain ⟨cq2, kq2, q2a, q2b, q2c⟩ := isOf hZ e1 pf3
 obtain ⟨_, _, ⟨T2, L2, k2, n2⟩, -, X2, ⟨Lc2, hQ2, l2, y2, z2⟩, st2⟩ := X1.virtualBack hx (y := y6) (z := y6) hown (mvT hZ (ow hw 33 rfl)) (mvT hZ (ow hw 34 rfl)) (notFace_of_selects (args := #[]) (mvT hZ (ow hw 36 rfl))) (mvT hZ (ow hw 36 rfl)) (mvT hZ (ow hw 35 rfl)) (by decide) (backOf (W := 0) (rm6_1 l Z ar hw [] dq h0 n0 O0 pf5 pf6) hZ (ow hw 37 rfl) (ow hw 11 rfl) (by decide) (by decide)) q2a q2c (g := (mkF m 7 #[rv a0, jv qn, se, iv la, .val .null, un] [(.ref dq)])) rfl (by rw [hml]; rfl) (Steps.refl _) (argsL := []) (rest := []) (lenOf pd_10 rfl) rfl (by show 2 * 0 + _ ≤ _; exact Nat.le_of_eq rfl) (hb hby d5_7) (fun _ _ => ⟨rfl, e1, (by decide : 0 + 0 ≤ _), (by decide : 0 + 0 ≤ _)⟩)
 dsimp only [Pt.U, Pt.locs, Pt.cells, Pt.slots] at X2 l2 y2 z2 st2 hQ2
 subst l2 y2 z2
 obtain ⟨rfl, N2q, e2⟩ := hQ2
 have N2 := Fr.app N0 N2q
 obtain ⟨T3, X3, e3, st3⟩ := getF X2 hx hZ hown (host := "") (Or.inl (ow hw 65 rfl)) Via.refl e2 pf2 (g := (mkF m 19 #[rv a0, jv qn, se, iv la, .val .null, un] [(.ref a0), (.long qn)])) rfl rfl (hb hby d5_19)
 obtain ⟨T4, X4, e4, st4⟩ := getS2 X3 hx hZ hown (host := "") (Or.inl (ow hw 112 rfl)) Via.refl e3 (S_WHOLE_NANOS.ext O0.2) (g := (mkF m 23 #[rv a0, jv qn, se, iv la, .val .null, un] [(.long (qn - wa))])) rfl (hb hby d5_23)
 obtain ⟨T5, X5, e5, st5⟩ := getF X4 hx hZ hown (host := "") (Or.inl (ow hw 26 rfl)) Via.refl e4 pf1 (g := (mkF m 31 #[rv a0, jv qn, se, iv la, .val .null, un] [(.ref a0)])) rfl rfl (hb hby d5_31)
 obtain ⟨cq6, kq6, q6a, q6b, q6c⟩ := isOf hZ e5 pf3
 obtain ⟨_, _, ⟨T6, L6, k6, n6⟩, -, X6, ⟨Lc6, hQ6, l6, y6, z6⟩, st6⟩ := X5.virtualBack hx (y := y17) (z := y17) hown (mvT hZ (ow hw 114 rfl)) (mvT hZ (ow hw 115 rfl)) (notFace_of_selects (args := #[]) (mvT hZ (ow hw 117 rfl))) (mvT hZ (ow hw 117 rfl)) (mvT hZ (ow hw 116 rfl)) (by decide) (backOf (W := 0) (rm17_1 l Z ar hw [] dq es ke i0 h0 n0 O0 pf4 pf5 pf6 pf7) hZ (ow hw 118 rfl) (ow hw 11 rfl) (by decide) (by decide)) q6a q6c (g := (mkF m 34 #[rv a0, jv qn, se, iv la, .val .null, un] [(.ref dq)])) rfl (by rw [hml]; rfl) (Steps.refl _) (argsL := []) (rest := []) (lenOf pd_7 rfl) rfl (by show 2 * 0 + _ ≤ _; exact Nat.le_of_eq rfl) (hb hby d5_34) (fun _ _ => ⟨rfl, e5, (by decide : 0 + 0 ≤ _), (by decide : 0 + 0 ≤ _)⟩)
 dsimp only [Pt.U, Pt.locs, Pt.cells, Pt.slots] at X6 l6 y6 z6 st6 hQ6
 subst l6 y6 z6
 obtain ⟨rfl, N6q, e6⟩ := hQ6
 have N6 := Fr.app N2 N6q
 obtain ⟨T7, X7, e7, st7⟩ := castY X6 hx hZ hown (ow hw 108 rfl) e6 (Ins.self pf8) (g := (mkF m 37 #[rv a0, jv qn, se, iv la, .val .null, un] [(.ref i0)])) rfl rfl (hb hby d5_37)
 obtain ⟨cl8, Ar8, q8, S8, N8, H8, G8⟩ := id pf9
 have hin8 := own_in (1 : Int32) S8 ⟨by decide, by decide⟩
 have hat8 : cl8.slots[((1 : Int32)).toNatClampNeg]? = some (.long (fr.toInt64)) := Has.at H8 hin8 rfl
 have pre9 : ∀ tg, AT p e below T7 m 43 #[rv a0, jv qn, se, iv la, .val .null, un] [(.int ((fr.toInt64).toInt32))] tg → Steps p.tables e below S0 tg := fun tg kg => pre0 tg (by
  refine XS.aconstNull X0.here hx rfl (hb hby d5_0) ?_
  show AT p e below s₁ m 1 #[rv a0, jv qn, se, iv la, un, un] [.null] _
  refine XS.astore X0.here hx rfl (hb hby d5_1) rfl rfl (l' := #[rv a0, jv qn, se, iv la, .val .null, un]) rfl ?_
  show AT p e below s₁ m 3 #[rv a0, jv qn, se, iv la, .val .null, un] [] _
  refine XS.aloadN X0.here hx rfl (hb hby d5_3) rfl rfl ?_
  show AT p e below s₁ m 4 #[rv a0, jv qn, se, iv la, .val .null, un] [(.ref a0)] _
  refine st1 _ ?_
  show AT p e below T1 m 7 #[rv a0, jv qn, se, iv la, .val .null, un] [(.ref dq)] _
  refine st2.trans ?_
  show AT p e below T2 m 10 #[rv a0, jv qn, se, iv la, .val .null, un] [(.int (0 : Int32))] _
  refine XS.ifNo X2.here hx rfl (hb hby d5_10) rfl (XT.i0_ne_f ((by decide) : (0 : Int32) = (0 : Int32))) ?_
  show AT p e below T2 m 13 #[rv a0, jv qn, se, iv la, .val .null, un] [] _
  refine XS.iloadN X2.here hx rfl (hb hby d5_13) rfl ?_
  show AT p e below T2 m 14 #[rv a0, jv qn, se, iv la, .val .null, un] [(.int la)] _
  refine XS.ifNo X2.here hx rfl (hb hby d5_14) rfl (XT.i0_le_f (h1 : (0 : Int32) < la)) ?_
  show AT p e below T2 m 17 #[rv a0, jv qn, se, iv la, .val .null, un] [] _
  refine XS.lloadN X2.here hx rfl (hb hby d5_17) rfl ?_
  show AT p e below T2 m 18 #[rv a0, jv qn, se, iv la, .val .null, un] [(.long qn)] _
  refine XS.aloadN X2.here hx rfl (hb hby d5_18) rfl rfl ?_
  show AT p e below T2 m 19 #[rv a0, jv qn, se, iv la, .val .null, un] [(.ref a0), (.long qn)] _
  refine st3 _ ?_
  show AT p e below T3 m 22 #[rv a0, jv qn, se, iv la, .val .null, un] [(.long wa), (.long qn)] _
  refine XS.lsub X3.here hx rfl (hb hby d5_22) rfl ?_
  show AT p e below T3 m 23 #[rv a0, jv qn, se, iv la, .val .null, un] [(.long (qn - wa))] _
  refine st4 _ ?_
  show AT p e below T4 m 26 #[rv a0, jv qn, se, iv la, .val .null, un] [(.long (600000000000 : Int64)), (.long (qn - wa))] _
  refine XS.lcmp X4.here hx rfl (hb hby d5_26) rfl ?_
  show AT p e below T4 m 27 #[rv a0, jv qn, se, iv la, .val .null, un] [(.int (XT.cmpL (qn - wa) (600000000000 : Int64)))] _
  refine XS.ifNo X4.here hx rfl (hb hby d5_27) rfl (XT.ll_ge_f (h2 : (qn - wa) < (600000000000 : Int64))) ?_
  show AT p e below T4 m 30 #[rv a0, jv qn, se, iv la, .val .null, un] [] _
  refine XS.aloadN X4.here hx rfl (hb hby d5_30) rfl rfl ?_
  show AT p e below T4 m 31 #[rv a0, jv qn, se, iv la, .val .null, un] [(.ref a0)] _
  refine st5 _ ?_
  show AT p e below T5 m 34 #[rv a0, jv qn, se, iv la, .val .null, un] [(.ref dq)] _
  refine st6.trans ?_
  show AT p e below T6 m 37 #[rv a0, jv qn, se, iv la, .val .null, un] [(.ref i0)] _
  refine st7 _ ?_
  show AT p e below T7 m 40 #[rv a0, jv qn, se, iv la, .val .null, un] [(.ref i0)] _
  refine XS.iconst X7.here hx rfl (hb hby d5_40) ?_
  show AT p e below T7 m 41 #[rv a0, jv qn, se, iv la, .val .null, un] [(.int (1 : Int32)), (.ref i0)] _
  refine X7.laload hx (j := (1 : Int32)) (v := (.long (fr.toInt64))) (by rw [e7]; exact Ar8.1) (State.isArrayOf_alike hZ.alike Ar8.2.1) Ar8.2.2 hin8 hat8 (g := (mkF m 41 #[rv a0, jv qn, se, iv la, .val .null, un] [(.int (1 : Int32)), (.ref i0)])) rfl rfl (hb hby d5_41) _ ?_
  show AT p e below T7 m 42 #[rv a0, jv qn, se, iv la, .val .null, un] [(.long (fr.toInt64))] _
  refine XS.l2i X7.here hx rfl (hb hby d5_42) rfl ?_
  exact kg)
 have hw10 : ((fr.toInt64).toInt32) = fr := own_id fr
 have pre10 : ∀ tg, AT p e below T7 m 43 #[rv a0, jv qn, se, iv la, .val .null, un] [(.int fr)] tg → Steps p.tables e below S0 tg := by
   have q := pre9
   rw [hw10] at q
   exact q
 obtain ⟨T11, h11, k11, X11, e11, E11, A11, B11, st11⟩ := newPE X7 hx hZ (ow hw 122 rfl) e7 (g := (mkF m 77 #[rv a0, jv qn, se, iv la, .val .null, iv fr] [(.int (4 : Int32))])) rfl (hb hby d5_77) rfl (by decide) (cap := 4) (by decide) (by decide) (by decide) (by decide) (ad := "[I") (by decide)
 obtain ⟨b11, g11⟩ : ∃ z, z = h0.size := ⟨_, rfl⟩
 rw [← g11] at A11 B11 st11
 have ne11_12 : a0 ≠ b11 := Nat.ne_of_lt (Nat.lt_of_lt_of_le (pf0).lt (Nat.le_of_eq g11.symm))
 have ne11_13 : dq ≠ b11 := Nat.ne_of_lt (Nat.lt_of_lt_of_le (pf3).lt (Nat.le_of_eq g11.symm))
 have ne11_14 : es ≠ b11 := Nat.ne_of_lt (Nat.lt_of_lt_of_le (pf7).lt (Nat.le_of_eq g11.symm))
 have ne11_15 : i0 ≠ b11 := Nat.ne_of_lt (Nat.lt_of_lt_of_le (pf8).lt (Nat.le_of_eq g11.symm))
 have gn11 : n0 ≤ b11 := Nat.le_trans (Nat.le_trans (Nat.le_of_eq O0.1.symm) O0.2.1) (Nat.le_of_eq g11.symm)
 have sz11 : h0.size ≤ b11 := Nat.le_trans (Keep.refl h0 []).1 (Nat.le_of_eq g11.symm)
 have E11_16 := pf0.ext E11
 have F11_17 := pf1.ext E11
 have F11_18 := pf2.ext E11
 have E11_19 := pf3.ext E11
 have F11_20 := pf4.ext E11
 have F11_21 := pf5.ext E11
 have F11_22 := pf6.ext E11
 have V11_23 := pf7.ext E11
 have E11_24 := pf8.ext E11
 have V11_25 := pf9.ext E11
 have K11 := (Keep.refl h0 []).ext E11
 have O11 := O0.ext E11
 have V11_26 : Arv Z h11 b11 k11 .int (4 : Int32) [(.int (0 : Int32)), (.int (0 : Int32)), (.int (0 : Int32)), (.int (0 : Int32))] (.int (0 : Int32)) := (Arv.new A11 (by decide)).pad (pad_rep [] (.int (0 : Int32)) 4)
 obtain ⟨cl27, Ar27, q27, S27, M27, H27, G27⟩ := id V11_26
 have hin27 := own_in (0 : Int32) S27 ⟨by decide, by decide⟩
 obtain ⟨T27, h27, X27, e27, W27, st27⟩ := stI X11 hx hZ e11 Ar27 (j := (0 : Int32)) hin27 (g := (mkF m 85 #[rv a0, jv qn, se, iv la, .val .null, iv fr] [(.int (fr + (1 : Int32))), (.int (0 : Int32)), (.ref b11), (.ref b11)])) rfl rfl (hb hby d5_85)
 have V27_28 : Arv Z h27 b11 k11 .int (4 : Int32) [(.int (fr + (1 : Int32))), (.int (0 : Int32)), (.int (0 : Int32)), (.int (0 : Int32))] (.int (0 : Int32)) := Arv.set Ar27 q27 S27 M27 H27 G27 rfl W27 0 rfl (Nat.le_of_ble_eq_true rfl)
 have E27_29 := E11_16.wr W27
 have F27_30 := F11_17.other W27 (Or.inl ne11_12)
 have F27_31 := F11_18.other W27 (Or.inl ne11_12)
 have E27_32 := E11_19.wr W27
 have F27_33 := F11_20.other W27 (Or.inl ne11_13)
 have F27_34 := F11_21.other W27 (Or.inl ne11_13)
 have F27_35 := F11_22.other W27 (Or.inl ne11_13)
 have V27_36 := V11_23.other W27 ne11_14
 have E27_37 := E11_24.wr W27
 have V27_38 := V11_25.other W27 ne11_15
 have E27_39 := B11.wr W27
 have K27 := K11.wr W27 (Or.inr sz11)
 have O27 := O11.wr W27 gn11
 have N27 := Fr.snoc X27 N6 gn11
 obtain ⟨cl40, Ar40, q40, S40, M40, H40, G40⟩ := id V27_28
 have hin40 := own_in (1 : Int32) S40 ⟨by decide, by decide⟩
 obtain ⟨T40, h40, X40, e40, W40, st40⟩ := stI X27 hx hZ e27 Ar40 (j := (1 : Int32)) hin40 (g := (mkF m 90 #[rv a0, jv qn, se, iv la, .val .null, iv fr] [(.int (2147483647 : Int32)), (.int (1 : Int32)), (.ref b11), (.ref b11)])) rfl rfl (hb hby d5_90)
 have V40_41 : Arv Z h40 b11 k11 .int (4 : Int32) [(.int (fr + (1 : Int32))), (.int (2147483647 : Int32)), (.int (0 : Int32)), (.int (0 : Int32))] (.int (0 : Int32)) := Arv.set Ar40 q40 S40 M40 H40 G40 rfl W40 1 rfl (Nat.le_of_ble_eq_true rfl)
 have E40_42 := E27_29.wr W40
 have F40_43 := F27_30.other W40 (Or.inl ne11_12)
 have F40_44 := F27_31.other W40 (Or.inl ne11_12)
 have E40_45 := E27_32.wr W40
 have F40_46 := F27_33.other W40 (Or.inl ne11_13)
 have F40_47 := F27_34.other W40 (Or.inl ne11_13)
 have F40_48 := F27_35.other W40 (Or.inl ne11_13)
 have V40_49 := V27_36.other W40 ne11_14
 have E40_50 := E27_37.wr W40
 have V40_51 := V27_38.other W40 ne11_15
 have E40_52 := E27_39.wr W40
 have K40 := K27.wr W40 (Or.inr sz11)
 have O40 := O27.wr W40 gn11
 have N40 := Fr.snoc X40 N27 gn11
 obtain ⟨cl53, Ar53, q53, S53, M53, H53, G53⟩ := id V40_41
 have hin53 := own_in (2 : Int32) S53 ⟨by decide, by decide⟩
 obtain ⟨T53, h53, X53, e53, W53, st53⟩ := stI X40 hx hZ e40 Ar53 (j := (2 : Int32)) hin53 (g := (mkF m 94 #[rv a0, jv qn, se, iv la, .val .null, iv fr] [(.int (1 : Int32)), (.int (2 : Int32)), (.ref b11), (.ref b11)])) rfl rfl (hb hby d5_94)
 have V53_54 : Arv Z h53 b11 k11 .int (4 : Int32) [(.int (fr + (1 : Int32))), (.int (2147483647 : Int32)), (.int (1 : Int32)), (.int (0 : Int32))] (.int (0 : Int32)) := Arv.set Ar53 q53 S53 M53 H53 G53 rfl W53 2 rfl (Nat.le_of_ble_eq_true rfl)
 have E53_55 := E40_42.wr W53
 have F53_56 := F40_43.other W53 (Or.inl ne11_12)
 have F53_57 := F40_44.other W53 (Or.inl ne11_12)
 have E53_58 := E40_45.wr W53
 have F53_59 := F40_46.other W53 (Or.inl ne11_13)
 have F53_60 := F40_47.other W53 (Or.inl ne11_13)
 have F53_61 := F40_48.other W53 (Or.inl ne11_13)
 have V53_62 := V40_49.other W53 ne11_14
 have E53_63 := E40_50.wr W53
 have V53_64 := V40_51.other W53 ne11_15
 have E53_65 := E40_52.wr W53
 have K53 := K40.wr W53 (Or.inr sz11)
 have O53 := O40.wr W53 gn11
 have N53 := Fr.snoc X53 N40 gn11
 obtain ⟨cl66, Ar66, q66, S66, M66, H66, G66⟩ := id V53_54
 have hin66 := own_in (3 : Int32) S66 ⟨by decide, by decide⟩
 obtain ⟨T66, h66, X66, e66, W66, st66⟩ := stI X53 hx hZ e53 Ar66 (j := (3 : Int32)) hin66 (g := (mkF m 98 #[rv a0, jv qn, se, iv la, .val .null, iv fr] [(.int la), (.int (3 : Int32)), (.ref b11), (.ref b11)])) rfl rfl (hb hby d5_98)
 have V66_67 : Arv Z h66 b11 k11 .int (4 : Int32) [(.int (fr + (1 : Int32))), (.int (2147483647 : Int32)), (.int (1 : Int32)), (.int la)] (.int (0 : Int32)) := Arv.set Ar66 q66 S66 M66 H66 G66 rfl W66 3 rfl (Nat.le_of_ble_eq_true rfl)
 have E66_68 := E53_55.wr W66
 have F66_69 := F53_56.other W66 (Or.inl ne11_12)
 have F66_70 := F53_57.other W66 (Or.inl ne11_12)
 have E66_71 := E53_58.wr W66
 have F66_72 := F53_59.other W66 (Or.inl ne11_13)
 have F66_73 := F53_60.other W66 (Or.inl ne11_13)
 have F66_74 := F53_61.other W66 (Or.inl ne11_13)
 have V66_75 := V53_62.other W66 ne11_14
 have E66_76 := E53_63.wr W66
 have V66_77 := V53_64.other W66 ne11_15
 have E66_78 := E53_65.wr W66
 have K66 := K53.wr W66 (Or.inr sz11)
 have O66 := O53.wr W66 gn11
 have N66 := Fr.snoc X66 N53 gn11
 obtain ⟨fs, hr, hrun, hended, hW, hsame⟩ := X66.leave (v := some (.ref b11)) (fun h => by rw [Bd.returns] at h; cases h)
 subst hS0
 refine ⟨_, _, pre10 _ ?_, hrun, hended, _, _, rfl, ?_, ⟨_, rfl⟩, hW, hsame.mono (by decide) (by decide)⟩
 ·
  refine XS.istore X7.here hx rfl (hb hby d5_43) rfl (l' := #[rv a0, jv qn, se, iv la, .val .null, iv fr]) rfl ?_
  show AT p e below T7 m 45 #[rv a0, jv qn, se, iv la, .val .null, iv fr] [] _
  refine XS.iload X7.here hx rfl (hb hby d5_45) rfl ?_
  show AT p e below T7 m 47 #[rv a0, jv qn, se, iv la, .val .null, iv fr] [(.int fr)] _
  refine XS.iloadN X7.here hx rfl (hb hby d5_47) rfl ?_
  show AT p e below T7 m 48 #[rv a0, jv qn, se, iv la, .val .null, iv fr] [(.int la), (.int fr)] _
  refine XS.icmpYes X7.here hx rfl (pc0 := 48) (pc' := 70) rfl (hb hby d5_48) rfl (XT.ii_ge_t (h3 : ¬ (fr < la))) (by decide) (by decide) ?_
  show AT p e below T7 m 70 #[rv a0, jv qn, se, iv la, .val .null, iv fr] [] _
  refine XS.iload X7.here hx rfl (hb hby d5_70) rfl ?_
  show AT p e below T7 m 72 #[rv a0, jv qn, se, iv la, .val .null, iv fr] [(.int fr)] _
  refine XS.iloadN X7.here hx rfl (hb hby d5_72) rfl ?_
  show AT p e below T7 m 73 #[rv a0, jv qn, se, iv la, .val .null, iv fr] [(.int la), (.int fr)] _
  refine XS.icmpNo X7.here hx rfl (hb hby d5_73) rfl (XT.ii_le_f (h4 : la < fr)) ?_
  show AT p e below T7 m 76 #[rv a0, jv qn, se, iv la, .val .null, iv fr] [] _
  refine XS.iconst X7.here hx rfl (hb hby d5_76) ?_
  show AT p e below T7 m 77 #[rv a0, jv qn, se, iv la, .val .null, iv fr] [(.int (4 : Int32))] _
  refine st11 _ ?_
  show AT p e below T11 m 79 #[rv a0, jv qn, se, iv la, .val .null, iv fr] [(.ref b11)] _
  refine XS.dup X11.here hx rfl (hb hby d5_79) rfl rfl ?_
  show AT p e below T11 m 80 #[rv a0, jv qn, se, iv la, .val .null, iv fr] [(.ref b11), (.ref b11)] _
  refine XS.iconst X11.here hx rfl (hb hby d5_80) ?_
  show AT p e below T11 m 81 #[rv a0, jv qn, se, iv la, .val .null, iv fr] [(.int (0 : Int32)), (.ref b11), (.ref b11)] _
  refine XS.iload X11.here hx rfl (hb hby d5_81) rfl ?_
  show AT p e below T11 m 83 #[rv a0, jv qn, se, iv la, .val .null, iv fr] [(.int fr), (.int (0 : Int32)), (.ref b11), (.ref b11)] _
  refine XS.iconst X11.here hx rfl (hb hby d5_83) ?_
  show AT p e below T11 m 84 #[rv a0, jv qn, se, iv la, .val .null, iv fr] [(.int (1 : Int32)), (.int fr), (.int (0 : Int32)), (.ref b11), (.ref b11)] _
  refine XS.iadd X11.here hx rfl (hb hby d5_84) rfl ?_
  show AT p e below T11 m 85 #[rv a0, jv qn, se, iv la, .val .null, iv fr] [(.int (fr + (1 : Int32))), (.int (0 : Int32)), (.ref b11), (.ref b11)] _
  refine st27 _ ?_
  show AT p e below T27 m 86 #[rv a0, jv qn, se, iv la, .val .null, iv fr] [(.ref b11)] _
  refine XS.dup X27.here hx rfl (hb hby d5_86) rfl rfl ?_
  show AT p e below T27 m 87 #[rv a0, jv qn, se, iv la, .val .null, iv fr] [(.ref b11), (.ref b11)] _
  refine XS.iconst X27.here hx rfl (hb hby d5_87) ?_
  show AT p e below T27 m 88 #[rv a0, jv qn, se, iv la, .val .null, iv fr] [(.int (1 : Int32)), (.ref b11), (.ref b11)] _
  refine X27.ldcInt hx hown (mvT hZ (ow hw 128 rfl)) (g := (mkF m 88 #[rv a0, jv qn, se, iv la, .val .null, iv fr] [(.int (1 : Int32)), (.ref b11), (.ref b11)])) rfl (hb hby d5_88) _ ?_
  show AT p e below T27 m 90 #[rv a0, jv qn, se, iv la, .val .null, iv fr] [(.int (2147483647 : Int32)), (.int (1 : Int32)), (.ref b11), (.ref b11)] _
  refine st40 _ ?_
  show AT p e below T40 m 91 #[rv a0, jv qn, se, iv la, .val .null, iv fr] [(.ref b11)] _
  refine XS.dup X40.here hx rfl (hb hby d5_91) rfl rfl ?_
  show AT p e below T40 m 92 #[rv a0, jv qn, se, iv la, .val .null, iv fr] [(.ref b11), (.ref b11)] _
  refine XS.iconst X40.here hx rfl (hb hby d5_92) ?_
  show AT p e below T40 m 93 #[rv a0, jv qn, se, iv la, .val .null, iv fr] [(.int (2 : Int32)), (.ref b11), (.ref b11)] _
  refine XS.iconst X40.here hx rfl (hb hby d5_93) ?_
  show AT p e below T40 m 94 #[rv a0, jv qn, se, iv la, .val .null, iv fr] [(.int (1 : Int32)), (.int (2 : Int32)), (.ref b11), (.ref b11)] _
  refine st53 _ ?_
  show AT p e below T53 m 95 #[rv a0, jv qn, se, iv la, .val .null, iv fr] [(.ref b11)] _
  refine XS.dup X53.here hx rfl (hb hby d5_95) rfl rfl ?_
  show AT p e below T53 m 96 #[rv a0, jv qn, se, iv la, .val .null, iv fr] [(.ref b11), (.ref b11)] _
  refine XS.iconst X53.here hx rfl (hb hby d5_96) ?_
  show AT p e below T53 m 97 #[rv a0, jv qn, se, iv la, .val .null, iv fr] [(.int (3 : Int32)), (.ref b11), (.ref b11)] _
  refine XS.iloadN X53.here hx rfl (hb hby d5_97) rfl ?_
  show AT p e below T53 m 98 #[rv a0, jv qn, se, iv la, .val .null, iv fr] [(.int la), (.int (3 : Int32)), (.ref b11), (.ref b11)] _
  refine st66 _ ?_
  show AT p e below T66 m 99 #[rv a0, jv qn, se, iv la, .val .null, iv fr] [(.ref b11)] _
  refine XS.astore X66.here hx rfl (hb hby d5_99) rfl rfl (l' := #[rv a0, jv qn, se, iv la, rv b11, iv fr]) rfl ?_
  show AT p e below T66 m 101 #[rv a0, jv qn, se, iv la, rv b11, iv fr] [] _
  refine XS.goto X66.here hx rfl (pc0 := 101) (pc' := 109) rfl (hb hby d5_101) (by decide) (by decide) ?_
  show AT p e below T66 m 109 #[rv a0, jv qn, se, iv la, rv b11, iv fr] [] _
  refine XS.aload X66.here hx rfl (hb hby d5_109) rfl rfl ?_
  show AT p e below T66 m 111 #[rv a0, jv qn, se, iv la, rv b11, iv fr] [(.ref b11)] _
  exact retOut X66 hx (t := (.array .int)) (i := .areturn) Bd.returns rfl (Or.inr (Or.inr (Or.inr (Or.inr ⟨rfl, rfl, rfl⟩)))) (hb hby d5_111) hr
 ·
  show Q5_1g Z a0 qn la wa dq es ke i0 ki0 t0 fr h0 n0 _ T66.heap _
  rw [e66]
  exact ⟨b11, k11, rfl, N66, K66, V66_67, sz11⟩

theorem d5_104 : decode prog_29_method_2_code 104 = .ok (.iconst 0, 1) := by decide +kernel
theorem d5_105 : decode prog_29_method_2_code 105 = .ok (.newarray .int, 2) := by decide +kernel
theorem d5_107 : decode prog_29_method_2_code 107 = .ok (.astore 4, 2) := by decide +kernel
theorem ef_5_1e (m : MethodId) (a0 : Addr) (qn : Int64) (la : Int32) : entryFrame m #[(.ref a0), (.long qn), (.int la)] 6 = mkF m 0 #[rv a0, jv qn, se, iv la, un, un] [] := by first | (simp [entryFrame, mkF, argsToLocals, Value.category]; done) | rfl
def Q5_1e (Z : State) (a0 : Addr) (qn : Int64) (la : Int32) (wa : Int64) (dq : Addr) (es : Addr) (ke : ClassId) (i0 : Addr) (ki0 : ClassId) (t0 : Int64) (fr : Int32) (h0 : Heap) (n0 : Nat) (v : Option Value) (h : Heap) (L : List Loc) : Prop := ∃ (b : Addr) (kb : ClassId), v = some (.ref b) ∧ Fr n0 L ∧ Keep h0 h [] ∧ Arv Z h b kb .int (0 : Int32) [] (.int (0 : Int32)) ∧ h0.size ≤ b
set_option maxRecDepth 65536 in
set_option maxHeartbeats 40000000 in
theorem rm5_1e (l : Launch) (Z : State) (ar : Array Value) (hw : ∀ d ∈ tables_1, d.before ar Z = true) (ws : List Jvm.Cond) (a0 : Addr) (qn : Int64) (la : Int32) (wa : Int64) (dq : Addr) (es : Addr) (ke : ClassId) (i0 : Addr) (ki0 : ClassId) (t0 : Int64) (fr : Int32) (h0 : Heap) (n0 : Nat) (O0 : Old Z n0 h0) (HW : Wd Z ) (pf0 : Exa Z h0 a0 "com/example/minderd/minderd/process/Listings") (pf1 : Fld Z h0 a0 "com/example/minderd/minderd/process/Listings" "recent" "Ljava/util/ArrayDeque;" (.ref dq)) (pf2 : Fld Z h0 a0 "com/example/minderd/minderd/process/Listings" "wholeAt" "J" (.long wa)) (pf3 : Exa Z h0 dq "java/util/ArrayDeque") (pf4 : Fld Z h0 dq "java/util/ArrayDeque" "elements" "[Ljava/lang/Object;" (.ref es)) (pf5 : Fld Z h0 dq "java/util/ArrayDeque" "head" "I" (.int (0 : Int32))) (pf6 : Fld Z h0 dq "java/util/ArrayDeque" "tail" "I" (.int (1 : Int32))) (pf7 : Arv Z h0 es ke (.object "java/lang/Object") (17 : Int32) [(.ref i0), .null] .null) (pf8 : Exa Z h0 i0 "[J") (pf9 : Arv Z h0 i0 ki0 .long (2 : Int32) [(.long t0), (.long (fr.toInt64))] (.long (0 : Int64))) (h1 : (0 : Int32) < la) (h2 : (qn - wa) < (600000000000 : Int64)) (h3 : ¬ fr < la) (h4 : ¬ la < fr) :
    MetFree l y5 (head1 (Jvm.Cond.code y5 prog_29_method_2_code 6 (some (.array .int)) :: ws) ({ frames := 2, cells := 1, slots := 0, locals := 26 } : Room)) (fun a U => a = #[(.ref a0), (.long qn), (.int la)] ∧ Z.Warmed39 U.vm ∧ U.heap = h0) (fun _ _ _ _ _ => True) (fun _ U o U' => ∃ v L, o = .returned v ∧ Q5_1e Z a0 qn la wa dq es ke i0 ki0 t0 fr h0 n0 v U'.heap L ∧ FrameEnd U o U' L ({ frames := 2, cells := 1, slots := 0, locals := 26 } : Room).cells ({ frames := 2, cells := 1, slots := 0, locals := 26 } : Room).slots) := by
 refine MetFree.of_bodySF (plainFor_of_name pn_2) hisR ?_
 intro p e s m args below meth c s₁ Bd hml0 hP hK
 obtain ⟨rfl, hZ, hh⟩ := hP
 have hx := Bd.exec
 have hby := Bd.bytes
 have hml : c.maxLocals = 6 := hml0
 have hown : s.vm.findClass "com/example/minderd/minderd/process/Listings" = some m.cls := findClass_of_methodNamed Bd.named
 have hnm := (name_of_methodNamed Bd.named Bd.method).1
 have X0 : Stand p l e ({ frames := 2, cells := 1, slots := 0, locals := 26 } : Room) s m #[(.ref a0), (.long qn), (.int la)] below meth c s₁ [] 0 0 := Stand.of_body Bd
 have e0 : s₁.heap = h0 := by rw [← hh, Bd.state]; rfl
 have N0 := Fr.nil n0
 have Z0 : n0 ≤ h0.size := Nat.le_trans (Nat.le_of_eq O0.1.symm) O0.2.1
 obtain ⟨S0, hS0⟩ : ∃ z, z = s₁.setTop (entryFrame m #[(.ref a0), (.long qn), (.int la)] 6) := ⟨_, rfl⟩
 have pre0 : ∀ tg, AT p e below s₁ m 0 #[rv a0, jv qn, se, iv la, un, un] [] tg → Steps p.tables e below S0 tg := fun tg kg => by rw [hS0]; exact castTop (ef_5_1e m a0 qn la) kg
 obtain ⟨S_MAKING_NANOS, S_WHOLE_NANOS⟩ := id HW
 obtain ⟨T1, X1, e1, st1⟩ := getF X0 hx hZ hown (host := "") (Or.inl (ow hw 26 rfl)) Via.refl e0 pf1 (g := (mkF m 4 #[rv a0, jv qn, se, iv la, .val .null, un] [(.ref a0)])) rfl rfl (hb hby d5_4)
 obtain ⟨cq2, kq2, q2a, q2b, q2c⟩ := isOf hZ e1 pf3
 obtain ⟨_, _, ⟨T2, L2, k2, n2⟩, -, X2, ⟨Lc2, hQ2, l2, y2, z2⟩, st2⟩ := X1.virtualBack hx (y := y6) (z := y6) hown (mvT hZ (ow hw 33 rfl)) (mvT hZ (ow hw 34 rfl)) (notFace_of_selects (args := #[]) (mvT hZ (ow hw 36 rfl))) (mvT hZ (ow hw 36 rfl)) (mvT hZ (ow hw 35 rfl)) (by decide) (backOf (W := 0) (rm6_1 l Z ar hw [] dq h0 n0 O0 pf5 pf6) hZ (ow hw 37 rfl) (ow hw 11 rfl) (by decide) (by decide)) q2a q2c (g := (mkF m 7 #[rv a0, jv qn, se, iv la, .val .null, un] [(.ref dq)])) rfl (by rw [hml]; rfl) (Steps.refl _) (argsL := []) (rest := []) (lenOf pd_10 rfl) rfl (by show 2 * 0 + _ ≤ _; exact Nat.le_of_eq rfl) (hb hby d5_7) (fun _ _ => ⟨rfl, e1, (by decide : 0 + 0 ≤ _), (by decide : 0 + 0 ≤ _)⟩)
 dsimp only [Pt.U, Pt.locs, Pt.cells, Pt.slots] at X2 l2 y2 z2 st2 hQ2
 subst l2 y2 z2
 obtain ⟨rfl, N2q, e2⟩ := hQ2
 have N2 := Fr.app N0 N2q
 obtain ⟨T3, X3, e3, st3⟩ := getF X2 hx hZ hown (host := "") (Or.inl (ow hw 65 rfl)) Via.refl e2 pf2 (g := (mkF m 19 #[rv a0, jv qn, se, iv la, .val .null, un] [(.ref a0), (.long qn)])) rfl rfl (hb hby d5_19)
 obtain ⟨T4, X4, e4, st4⟩ := getS2 X3 hx hZ hown (host := "") (Or.inl (ow hw 112 rfl)) Via.refl e3 (S_WHOLE_NANOS.ext O0.2) (g := (mkF m 23 #[rv a0, jv qn, se, iv la, .val .null, un] [(.long (qn - wa))])) rfl (hb hby d5_23)
 obtain ⟨T5, X5, e5, st5⟩ := getF X4 hx hZ hown (host := "") (Or.inl (ow hw 26 rfl)) Via.refl e4 pf1 (g := (mkF m 31 #[rv a0, jv qn, se, iv la, .val .null, un] [(.ref a0)])) rfl rfl (hb hby d5_31)
 obtain ⟨cq6, kq6, q6a, q6b, q6c⟩ := isOf hZ e5 pf3
 obtain ⟨_, _, ⟨T6, L6, k6, n6⟩, -, X6, ⟨Lc6, hQ6, l6, y6, z6⟩, st6⟩ := X5.virtualBack hx (y := y17) (z := y17) hown (mvT hZ (ow hw 114 rfl)) (mvT hZ (ow hw 115 rfl)) (notFace_of_selects (args := #[]) (mvT hZ (ow hw 117 rfl))) (mvT hZ (ow hw 117 rfl)) (mvT hZ (ow hw 116 rfl)) (by decide) (backOf (W := 0) (rm17_1 l Z ar hw [] dq es ke i0 h0 n0 O0 pf4 pf5 pf6 pf7) hZ (ow hw 118 rfl) (ow hw 11 rfl) (by decide) (by decide)) q6a q6c (g := (mkF m 34 #[rv a0, jv qn, se, iv la, .val .null, un] [(.ref dq)])) rfl (by rw [hml]; rfl) (Steps.refl _) (argsL := []) (rest := []) (lenOf pd_7 rfl) rfl (by show 2 * 0 + _ ≤ _; exact Nat.le_of_eq rfl) (hb hby d5_34) (fun _ _ => ⟨rfl, e5, (by decide : 0 + 0 ≤ _), (by decide : 0 + 0 ≤ _)⟩)
 dsimp only [Pt.U, Pt.locs, Pt.cells, Pt.slots] at X6 l6 y6 z6 st6 hQ6
 subst l6 y6 z6
 obtain ⟨rfl, N6q, e6⟩ := hQ6
 have N6 := Fr.app N2 N6q
 obtain ⟨T7, X7, e7, st7⟩ := castY X6 hx hZ hown (ow hw 108 rfl) e6 (Ins.self pf8) (g := (mkF m 37 #[rv a0, jv qn, se, iv la, .val .null, un] [(.ref i0)])) rfl rfl (hb hby d5_37)
 obtain ⟨cl8, Ar8, q8, S8, N8, H8, G8⟩ := id pf9
 have hin8 := own_in (1 : Int32) S8 ⟨by decide, by decide⟩
 have hat8 : cl8.slots[((1 : Int32)).toNatClampNeg]? = some (.long (fr.toInt64)) := Has.at H8 hin8 rfl
 have pre9 : ∀ tg, AT p e below T7 m 43 #[rv a0, jv qn, se, iv la, .val .null, un] [(.int ((fr.toInt64).toInt32))] tg → Steps p.tables e below S0 tg := fun tg kg => pre0 tg (by
  refine XS.aconstNull X0.here hx rfl (hb hby d5_0) ?_
  show AT p e below s₁ m 1 #[rv a0, jv qn, se, iv la, un, un] [.null] _
  refine XS.astore X0.here hx rfl (hb hby d5_1) rfl rfl (l' := #[rv a0, jv qn, se, iv la, .val .null, un]) rfl ?_
  show AT p e below s₁ m 3 #[rv a0, jv qn, se, iv la, .val .null, un] [] _
  refine XS.aloadN X0.here hx rfl (hb hby d5_3) rfl rfl ?_
  show AT p e below s₁ m 4 #[rv a0, jv qn, se, iv la, .val .null, un] [(.ref a0)] _
  refine st1 _ ?_
  show AT p e below T1 m 7 #[rv a0, jv qn, se, iv la, .val .null, un] [(.ref dq)] _
  refine st2.trans ?_
  show AT p e below T2 m 10 #[rv a0, jv qn, se, iv la, .val .null, un] [(.int (0 : Int32))] _
  refine XS.ifNo X2.here hx rfl (hb hby d5_10) rfl (XT.i0_ne_f ((by decide) : (0 : Int32) = (0 : Int32))) ?_
  show AT p e below T2 m 13 #[rv a0, jv qn, se, iv la, .val .null, un] [] _
  refine XS.iloadN X2.here hx rfl (hb hby d5_13) rfl ?_
  show AT p e below T2 m 14 #[rv a0, jv qn, se, iv la, .val .null, un] [(.int la)] _
  refine XS.ifNo X2.here hx rfl (hb hby d5_14) rfl (XT.i0_le_f (h1 : (0 : Int32) < la)) ?_
  show AT p e below T2 m 17 #[rv a0, jv qn, se, iv la, .val .null, un] [] _
  refine XS.lloadN X2.here hx rfl (hb hby d5_17) rfl ?_
  show AT p e below T2 m 18 #[rv a0, jv qn, se, iv la, .val .null, un] [(.long qn)] _
  refine XS.aloadN X2.here hx rfl (hb hby d5_18) rfl rfl ?_
  show AT p e below T2 m 19 #[rv a0, jv qn, se, iv la, .val .null, un] [(.ref a0), (.long qn)] _
  refine st3 _ ?_
  show AT p e below T3 m 22 #[rv a0, jv qn, se, iv la, .val .null, un] [(.long wa), (.long qn)] _
  refine XS.lsub X3.here hx rfl (hb hby d5_22) rfl ?_
  show AT p e below T3 m 23 #[rv a0, jv qn, se, iv la, .val .null, un] [(.long (qn - wa))] _
  refine st4 _ ?_
  show AT p e below T4 m 26 #[rv a0, jv qn, se, iv la, .val .null, un] [(.long (600000000000 : Int64)), (.long (qn - wa))] _
  refine XS.lcmp X4.here hx rfl (hb hby d5_26) rfl ?_
  show AT p e below T4 m 27 #[rv a0, jv qn, se, iv la, .val .null, un] [(.int (XT.cmpL (qn - wa) (600000000000 : Int64)))] _
  refine XS.ifNo X4.here hx rfl (hb hby d5_27) rfl (XT.ll_ge_f (h2 : (qn - wa) < (600000000000 : Int64))) ?_
  show AT p e below T4 m 30 #[rv a0, jv qn, se, iv la, .val .null, un] [] _
  refine XS.aloadN X4.here hx rfl (hb hby d5_30) rfl rfl ?_
  show AT p e below T4 m 31 #[rv a0, jv qn, se, iv la, .val .null, un] [(.ref a0)] _
  refine st5 _ ?_
  show AT p e below T5 m 34 #[rv a0, jv qn, se, iv la, .val .null, un] [(.ref dq)] _
  refine st6.trans ?_
  show AT p e below T6 m 37 #[rv a0, jv qn, se, iv la, .val .null, un] [(.ref i0)] _
  refine st7 _ ?_
  show AT p e below T7 m 40 #[rv a0, jv qn, se, iv la, .val .null, un] [(.ref i0)] _
  refine XS.iconst X7.here hx rfl (hb hby d5_40) ?_
  show AT p e below T7 m 41 #[rv a0, jv qn, se, iv la, .val .null, un] [(.int (1 : Int32)), (.ref i0)] _
  refine X7.laload hx (j := (1 : Int32)) (v := (.long (fr.toInt64))) (by rw [e7]; exact Ar8.1) (State.isArrayOf_alike hZ.alike Ar8.2.1) Ar8.2.2 hin8 hat8 (g := (mkF m 41 #[rv a0, jv qn, se, iv la, .val .null, un] [(.int (1 : Int32)), (.ref i0)])) rfl rfl (hb hby d5_41) _ ?_
  show AT p e below T7 m 42 #[rv a0, jv qn, se, iv la, .val .null, un] [(.long (fr.toInt64))] _
  refine XS.l2i X7.here hx rfl (hb hby d5_42) rfl ?_
  exact kg)
 have hw10 : ((fr.toInt64).toInt32) = fr := own_id fr
 have pre10 : ∀ tg, AT p e below T7 m 43 #[rv a0, jv qn, se, iv la, .val .null, un] [(.int fr)] tg → Steps p.tables e below S0 tg := by
   have q := pre9
   rw [hw10] at q
   exact q
 obtain ⟨T11, h11, k11, X11, e11, E11, A11, B11, st11⟩ := newPE X7 hx hZ (ow hw 122 rfl) e7 (g := (mkF m 105 #[rv a0, jv qn, se, iv la, .val .null, iv fr] [(.int (0 : Int32))])) rfl (hb hby d5_105) rfl (by decide) (cap := 0) (by decide) (by decide) (by decide) (by decide) (ad := "[I") (by decide)
 obtain ⟨b11, g11⟩ : ∃ z, z = h0.size := ⟨_, rfl⟩
 rw [← g11] at A11 B11 st11
 have ne11_12 : a0 ≠ b11 := Nat.ne_of_lt (Nat.lt_of_lt_of_le (pf0).lt (Nat.le_of_eq g11.symm))
 have ne11_13 : dq ≠ b11 := Nat.ne_of_lt (Nat.lt_of_lt_of_le (pf3).lt (Nat.le_of_eq g11.symm))
 have ne11_14 : es ≠ b11 := Nat.ne_of_lt (Nat.lt_of_lt_of_le (pf7).lt (Nat.le_of_eq g11.symm))
 have ne11_15 : i0 ≠ b11 := Nat.ne_of_lt (Nat.lt_of_lt_of_le (pf8).lt (Nat.le_of_eq g11.symm))
 have gn11 : n0 ≤ b11 := Nat.le_trans (Nat.le_trans (Nat.le_of_eq O0.1.symm) O0.2.1) (Nat.le_of_eq g11.symm)
 have sz11 : h0.size ≤ b11 := Nat.le_trans (Keep.refl h0 []).1 (Nat.le_of_eq g11.symm)
 have E11_16 := pf0.ext E11
 have F11_17 := pf1.ext E11
 have F11_18 := pf2.ext E11
 have E11_19 := pf3.ext E11
 have F11_20 := pf4.ext E11
 have F11_21 := pf5.ext E11
 have F11_22 := pf6.ext E11
 have V11_23 := pf7.ext E11
 have E11_24 := pf8.ext E11
 have V11_25 := pf9.ext E11
 have K11 := (Keep.refl h0 []).ext E11
 have O11 := O0.ext E11
 have V11_26 : Arv Z h11 b11 k11 .int (0 : Int32) [] (.int (0 : Int32)) := (Arv.new A11 (by decide))
 obtain ⟨fs, hr, hrun, hended, hW, hsame⟩ := X11.leave (v := some (.ref b11)) (fun h => by rw [Bd.returns] at h; cases h)
 subst hS0
 refine ⟨_, _, pre10 _ ?_, hrun, hended, _, _, rfl, ?_, ⟨_, rfl⟩, hW, hsame.mono (by decide) (by decide)⟩
 ·
  refine XS.istore X7.here hx rfl (hb hby d5_43) rfl (l' := #[rv a0, jv qn, se, iv la, .val .null, iv fr]) rfl ?_
  show AT p e below T7 m 45 #[rv a0, jv qn, se, iv la, .val .null, iv fr] [] _
  refine XS.iload X7.here hx rfl (hb hby d5_45) rfl ?_
  show AT p e below T7 m 47 #[rv a0, jv qn, se, iv la, .val .null, iv fr] [(.int fr)] _
  refine XS.iloadN X7.here hx rfl (hb hby d5_47) rfl ?_
  show AT p e below T7 m 48 #[rv a0, jv qn, se, iv la, .val .null, iv fr] [(.int la), (.int fr)] _
  refine XS.icmpYes X7.here hx rfl (pc0 := 48) (pc' := 70) rfl (hb hby d5_48) rfl (XT.ii_ge_t (h3 : ¬ (fr < la))) (by decide) (by decide) ?_
  show AT p e below T7 m 70 #[rv a0, jv qn, se, iv la, .val .null, iv fr] [] _
  refine XS.iload X7.here hx rfl (hb hby d5_70) rfl ?_
  show AT p e below T7 m 72 #[rv a0, jv qn, se, iv la, .val .null, iv fr] [(.int fr)] _
  refine XS.iloadN X7.here hx rfl (hb hby d5_72) rfl ?_
  show AT p e below T7 m 73 #[rv a0, jv qn, se, iv la, .val .null, iv fr] [(.int la), (.int fr)] _
  refine XS.icmpYes X7.here hx rfl (pc0 := 73) (pc' := 104) rfl (hb hby d5_73) rfl (XT.ii_le_t (h4 : ¬ (la < fr))) (by decide) (by decide) ?_
  show AT p e below T7 m 104 #[rv a0, jv qn, se, iv la, .val .null, iv fr] [] _
  refine XS.iconst X7.here hx rfl (hb hby d5_104) ?_
  show AT p e below T7 m 105 #[rv a0, jv qn, se, iv la, .val .null, iv fr] [(.int (0 : Int32))] _
  refine st11 _ ?_
  show AT p e below T11 m 107 #[rv a0, jv qn, se, iv la, .val .null, iv fr] [(.ref b11)] _
  refine XS.astore X11.here hx rfl (hb hby d5_107) rfl rfl (l' := #[rv a0, jv qn, se, iv la, rv b11, iv fr]) rfl ?_
  show AT p e below T11 m 109 #[rv a0, jv qn, se, iv la, rv b11, iv fr] [] _
  refine XS.aload X11.here hx rfl (hb hby d5_109) rfl rfl ?_
  show AT p e below T11 m 111 #[rv a0, jv qn, se, iv la, rv b11, iv fr] [(.ref b11)] _
  exact retOut X11 hx (t := (.array .int)) (i := .areturn) Bd.returns rfl (Or.inr (Or.inr (Or.inr (Or.inr ⟨rfl, rfl, rfl⟩)))) (hb hby d5_111) hr
 ·
  show Q5_1e Z a0 qn la wa dq es ke i0 ki0 t0 fr h0 n0 _ T11.heap _
  rw [e11]
  exact ⟨b11, k11, rfl, N6, K11, V11_26, sz11⟩

theorem ef_5_2a (m : MethodId) (a0 : Addr) (qn : Int64) (la : Int32) : entryFrame m #[(.ref a0), (.long qn), (.int la)] 6 = mkF m 0 #[rv a0, jv qn, se, iv la, un, un] [] := by first | (simp [entryFrame, mkF, argsToLocals, Value.category]; done) | rfl
def Q5_2a (Z : State) (a0 : Addr) (qn : Int64) (la : Int32) (wa : Int64) (dq : Addr) (es : Addr) (ke : ClassId) (i0 : Addr) (i1 : Addr) (ki0 : ClassId) (t0 : Int64) (fr : Int32) (h0 : Heap) (n0 : Nat) (v : Option Value) (h : Heap) (L : List Loc) : Prop := v = some .null ∧ Fr n0 L ∧ h = h0
set_option maxRecDepth 65536 in
set_option maxHeartbeats 40000000 in
theorem rm5_2a (l : Launch) (Z : State) (ar : Array Value) (hw : ∀ d ∈ tables_1, d.before ar Z = true) (ws : List Jvm.Cond) (a0 : Addr) (qn : Int64) (la : Int32) (wa : Int64) (dq : Addr) (es : Addr) (ke : ClassId) (i0 : Addr) (i1 : Addr) (ki0 : ClassId) (t0 : Int64) (fr : Int32) (h0 : Heap) (n0 : Nat) (O0 : Old Z n0 h0) (pf0 : Exa Z h0 a0 "com/example/minderd/minderd/process/Listings") (pf1 : Fld Z h0 a0 "com/example/minderd/minderd/process/Listings" "recent" "Ljava/util/ArrayDeque;" (.ref dq)) (pf2 : Fld Z h0 a0 "com/example/minderd/minderd/process/Listings" "wholeAt" "J" (.long wa)) (pf3 : Exa Z h0 dq "java/util/ArrayDeque") (pf4 : Fld Z h0 dq "java/util/ArrayDeque" "elements" "[Ljava/lang/Object;" (.ref es)) (pf5 : Fld Z h0 dq "java/util/ArrayDeque" "head" "I" (.int (0 : Int32))) (pf6 : Fld Z h0 dq "java/util/ArrayDeque" "tail" "I" (.int (2 : Int32))) (pf7 : Arv Z h0 es ke (.object "java/lang/Object") (17 : Int32) [(.ref i0), (.ref i1)] .null) (pf8 : Exa Z h0 i0 "[J") (pf9 : Arv Z h0 i0 ki0 .long (2 : Int32) [(.long t0), (.long (fr.toInt64))] (.long (0 : Int64))) (h1 : ¬ (0 : Int32) < la) :
    MetFree l y5 (head1 (Jvm.Cond.code y5 prog_29_method_2_code 6 (some (.array .int)) :: ws) ({ frames := 1, cells := 0, slots := 0, locals := 12 } : Room)) (fun a U => a = #[(.ref a0), (.long qn), (.int la)] ∧ Z.Warmed39 U.vm ∧ U.heap = h0) (fun _ _ _ _ _ => True) (fun _ U o U' => ∃ v L, o = .returned v ∧ Q5_2a Z a0 qn la wa dq es ke i0 i1 ki0 t0 fr h0 n0 v U'.heap L ∧ FrameEnd U o U' L ({ frames := 1, cells := 0, slots := 0, locals := 12 } : Room).cells ({ frames := 1, cells := 0, slots := 0, locals := 12 } : Room).slots) := by
 refine MetFree.of_bodySF (plainFor_of_name pn_2) hisR ?_
 intro p e s m args below meth c s₁ Bd hml0 hP hK
 obtain ⟨rfl, hZ, hh⟩ := hP
 have hx := Bd.exec
 have hby := Bd.bytes
 have hml : c.maxLocals = 6 := hml0
 have hown : s.vm.findClass "com/example/minderd/minderd/process/Listings" = some m.cls := findClass_of_methodNamed Bd.named
 have hnm := (name_of_methodNamed Bd.named Bd.method).1
 have X0 : Stand p l e ({ frames := 1, cells := 0, slots := 0, locals := 12 } : Room) s m #[(.ref a0), (.long qn), (.int la)] below meth c s₁ [] 0 0 := Stand.of_body Bd
 have e0 : s₁.heap = h0 := by rw [← hh, Bd.state]; rfl
 have N0 := Fr.nil n0
 have Z0 : n0 ≤ h0.size := Nat.le_trans (Nat.le_of_eq O0.1.symm) O0.2.1
 obtain ⟨S0, hS0⟩ : ∃ z, z = s₁.setTop (entryFrame m #[(.ref a0), (.long qn), (.int la)] 6) := ⟨_, rfl⟩
 have pre0 : ∀ tg, AT p e below s₁ m 0 #[rv a0, jv qn, se, iv la, un, un] [] tg → Steps p.tables e below S0 tg := fun tg kg => by rw [hS0]; exact castTop (ef_5_2a m a0 qn la) kg
 obtain ⟨T1, X1, e1, st1⟩ := getF X0 hx hZ hown (host := "") (Or.inl (ow hw 26 rfl)) Via.refl e0 pf1 (g := (mkF m 4 #[rv a0, jv qn, se, iv la, .val .null, un] [(.ref a0)])) rfl rfl (hb hby d5_4)
 obtain ⟨cq2, kq2, q2a, q2b, q2c⟩ := isOf hZ e1 pf3
 obtain ⟨_, _, ⟨T2, L2, k2, n2⟩, -, X2, ⟨Lc2, hQ2, l2, y2, z2⟩, st2⟩ := X1.virtualBack hx (y := y6) (z := y6) hown (mvT hZ (ow hw 33 rfl)) (mvT hZ (ow hw 34 rfl)) (notFace_of_selects (args := #[]) (mvT hZ (ow hw 36 rfl))) (mvT hZ (ow hw 36 rfl)) (mvT hZ (ow hw 35 rfl)) (by decide) (backOf (W := 0) (rm6_2 l Z ar hw [] dq h0 n0 O0 pf5 pf6) hZ (ow hw 37 rfl) (ow hw 11 rfl) (by decide) (by decide)) q2a q2c (g := (mkF m 7 #[rv a0, jv qn, se, iv la, .val .null, un] [(.ref dq)])) rfl (by rw [hml]; rfl) (Steps.refl _) (argsL := []) (rest := []) (lenOf pd_10 rfl) rfl (by show 2 * 0 + _ ≤ _; exact Nat.le_of_eq rfl) (hb hby d5_7) (fun _ _ => ⟨rfl, e1, (by decide : 0 + 0 ≤ _), (by decide : 0 + 0 ≤ _)⟩)
 dsimp only [Pt.U, Pt.locs, Pt.cells, Pt.slots] at X2 l2 y2 z2 st2 hQ2
 subst l2 y2 z2
 obtain ⟨rfl, N2q, e2⟩ := hQ2
 have N2 := Fr.app N0 N2q
 obtain ⟨fs, hr, hrun, hended, hW, hsame⟩ := X2.leave (v := some .null) (fun h => by rw [Bd.returns] at h; cases h)
 subst hS0
 refine ⟨_, _, pre0 _ ?_, hrun, hended, _, _, rfl, ?_, ⟨_, rfl⟩, hW, hsame.mono (by decide) (by decide)⟩
 ·
  refine XS.aconstNull X0.here hx rfl (hb hby d5_0) ?_
  show AT p e below s₁ m 1 #[rv a0, jv qn, se, iv la, un, un] [.null] _
  refine XS.astore X0.here hx rfl (hb hby d5_1) rfl rfl (l' := #[rv a0, jv qn, se, iv la, .val .null, un]) rfl ?_
  show AT p e below s₁ m 3 #[rv a0, jv qn, se, iv la, .val .null, un] [] _
  refine XS.aloadN X0.here hx rfl (hb hby d5_3) rfl rfl ?_
  show AT p e below s₁ m 4 #[rv a0, jv qn, se, iv la, .val .null, un] [(.ref a0)] _
  refine st1 _ ?_
  show AT p e below T1 m 7 #[rv a0, jv qn, se, iv la, .val .null, un] [(.ref dq)] _
  refine st2.trans ?_
  show AT p e below T2 m 10 #[rv a0, jv qn, se, iv la, .val .null, un] [(.int (0 : Int32))] _
  refine XS.ifNo X2.here hx rfl (hb hby d5_10) rfl (XT.i0_ne_f ((by decide) : (0 : Int32) = (0 : Int32))) ?_
  show AT p e below T2 m 13 #[rv a0, jv qn, se, iv la, .val .null, un] [] _
  refine XS.iloadN X2.here hx rfl (hb hby d5_13) rfl ?_
  show AT p e below T2 m 14 #[rv a0, jv qn, se, iv la, .val .null, un] [(.int la)] _
  refine XS.ifYes X2.here hx rfl (pc0 := 14) (pc' := 109) rfl (hb hby d5_14) rfl (XT.i0_le_t (h1 : ¬ ((0 : Int32) < la))) (by decide) (by decide) ?_
  show AT p e below T2 m 109 #[rv a0, jv qn, se, iv la, .val .null, un] [] _
  refine XS.aload X2.here hx rfl (hb hby d5_109) rfl rfl ?_
  show AT p e below T2 m 111 #[rv a0, jv qn, se, iv la, .val .null, un] [.null] _
  exact retOut X2 hx (t := (.array .int)) (i := .areturn) Bd.returns rfl (Or.inr (Or.inr (Or.inr (Or.inr ⟨rfl, rfl, rfl⟩)))) (hb hby d5_111) hr
 ·
  show Q5_2a Z a0 qn la wa dq es ke i0 i1 ki0 t0 fr h0 n0 _ T2.heap _
  rw [e2]
  exact ⟨rfl, N2, rfl⟩

theorem ef_5_2b (m : MethodId) (a0 : Addr) (qn : Int64) (la : Int32) : entryFrame m #[(.ref a0), (.long qn), (.int la)] 6 = mkF m 0 #[rv a0, jv qn, se, iv la, un, un] [] := by first | (simp [entryFrame, mkF, argsToLocals, Value.category]; done) | rfl
def Q5_2b (Z : State) (a0 : Addr) (qn : Int64) (la : Int32) (wa : Int64) (dq : Addr) (es : Addr) (ke : ClassId) (i0 : Addr) (i1 : Addr) (ki0 : ClassId) (t0 : Int64) (fr : Int32) (h0 : Heap) (n0 : Nat) (v : Option Value) (h : Heap) (L : List Loc) : Prop := v = some .null ∧ Fr n0 L ∧ h = h0
set_option maxRecDepth 65536 in
set_option maxHeartbeats 40000000 in
theorem rm5_2b (l : Launch) (Z : State) (ar : Array Value) (hw : ∀ d ∈ tables_1, d.before ar Z = true) (ws : List Jvm.Cond) (a0 : Addr) (qn : Int64) (la : Int32) (wa : Int64) (dq : Addr) (es : Addr) (ke : ClassId) (i0 : Addr) (i1 : Addr) (ki0 : ClassId) (t0 : Int64) (fr : Int32) (h0 : Heap) (n0 : Nat) (O0 : Old Z n0 h0) (HW : Wd Z ) (pf0 : Exa Z h0 a0 "com/example/minderd/minderd/process/Listings") (pf1 : Fld Z h0 a0 "com/example/minderd/minderd/process/Listings" "recent" "Ljava/util/ArrayDeque;" (.ref dq)) (pf2 : Fld Z h0 a0 "com/example/minderd/minderd/process/Listings" "wholeAt" "J" (.long wa)) (pf3 : Exa Z h0 dq "java/util/ArrayDeque") (pf4 : Fld Z h0 dq "java/util/ArrayDeque" "elements" "[Ljava/lang/Object;" (.ref es)) (pf5 : Fld Z h0 dq "java/util/ArrayDeque" "head" "I" (.int (0 : Int32))) (pf6 : Fld Z h0 dq "java/util/ArrayDeque" "tail" "I" (.int (2 : Int32))) (pf7 : Arv Z h0 es ke (.object "java/lang/Object") (17 : Int32) [(.ref i0), (.ref i1)] .null) (pf8 : Exa Z h0 i0 "[J") (pf9 : Arv Z h0 i0 ki0 .long (2 : Int32) [(.long t0), (.long (fr.toInt64))] (.long (0 : Int64))) (h1 : (0 : Int32) < la) (h2 : ¬ (qn - wa) < (600000000000 : Int64)) :
    MetFree l y5 (head1 (Jvm.Cond.code y5 prog_29_method_2_code 6 (some (.array .int)) :: ws) ({ frames := 1, cells := 0, slots := 0, locals := 12 } : Room)) (fun a U => a = #[(.ref a0), (.long qn), (.int la)] ∧ Z.Warmed39 U.vm ∧ U.heap = h0) (fun _ _ _ _ _ => True) (fun _ U o U' => ∃ v L, o = .returned v ∧ Q5_2b Z a0 qn la wa dq es ke i0 i1 ki0 t0 fr h0 n0 v U'.heap L ∧ FrameEnd U o U' L ({ frames := 1, cells := 0, slots := 0, locals := 12 } : Room).cells ({ frames := 1, cells := 0, slots := 0, locals := 12 } : Room).slots) := by
 refine MetFree.of_bodySF (plainFor_of_name pn_2) hisR ?_
 intro p e s m args below meth c s₁ Bd hml0 hP hK
 obtain ⟨rfl, hZ, hh⟩ := hP
 have hx := Bd.exec
 have hby := Bd.bytes
 have hml : c.maxLocals = 6 := hml0
 have hown : s.vm.findClass "com/example/minderd/minderd/process/Listings" = some m.cls := findClass_of_methodNamed Bd.named
 have hnm := (name_of_methodNamed Bd.named Bd.method).1
 have X0 : Stand p l e ({ frames := 1, cells := 0, slots := 0, locals := 12 } : Room) s m #[(.ref a0), (.long qn), (.int la)] below meth c s₁ [] 0 0 := Stand.of_body Bd
 have e0 : s₁.heap = h0 := by rw [← hh, Bd.state]; rfl
 have N0 := Fr.nil n0
 have Z0 : n0 ≤ h0.size := Nat.le_trans (Nat.le_of_eq O0.1.symm) O0.2.1
 obtain ⟨S0, hS0⟩ : ∃ z, z = s₁.setTop (entryFrame m #[(.ref a0), (.long qn), (.int la)] 6) := ⟨_, rfl⟩
 have pre0 : ∀ tg, AT p e below s₁ m 0 #[rv a0, jv qn, se, iv la, un, un] [] tg → Steps p.tables e below S0 tg := fun tg kg => by rw [hS0]; exact castTop (ef_5_2b m a0 qn la) kg
 obtain ⟨S_MAKING_NANOS, S_WHOLE_NANOS⟩ := id HW
 obtain ⟨T1, X1, e1, st1⟩ := getF X0 hx hZ hown (host := "") (Or.inl (ow hw 26 rfl)) Via.refl e0 pf1 (g := (mkF m 4 #[rv a0, jv qn, se, iv la, .val .null, un] [(.ref a0)])) rfl rfl (hb hby d5_4)
 obtain ⟨cq2, kq2, q2a, q2b, q2c⟩ := isOf hZ e1 pf3
 obtain ⟨_, _, ⟨T2, L2, k2, n2⟩, -, X2, ⟨Lc2, hQ2, l2, y2, z2⟩, st2⟩ := X1.virtualBack hx (y := y6) (z := y6) hown (mvT hZ (ow hw 33 rfl)) (mvT hZ (ow hw 34 rfl)) (notFace_of_selects (args := #[]) (mvT hZ (ow hw 36 rfl))) (mvT hZ (ow hw 36 rfl)) (mvT hZ (ow hw 35 rfl)) (by decide) (backOf (W := 0) (rm6_2 l Z ar hw [] dq h0 n0 O0 pf5 pf6) hZ (ow hw 37 rfl) (ow hw 11 rfl) (by decide) (by decide)) q2a q2c (g := (mkF m 7 #[rv a0, jv qn, se, iv la, .val .null, un] [(.ref dq)])) rfl (by rw [hml]; rfl) (Steps.refl _) (argsL := []) (rest := []) (lenOf pd_10 rfl) rfl (by show 2 * 0 + _ ≤ _; exact Nat.le_of_eq rfl) (hb hby d5_7) (fun _ _ => ⟨rfl, e1, (by decide : 0 + 0 ≤ _), (by decide : 0 + 0 ≤ _)⟩)
 dsimp only [Pt.U, Pt.locs, Pt.cells, Pt.slots] at X2 l2 y2 z2 st2 hQ2
 subst l2 y2 z2
 obtain ⟨rfl, N2q, e2⟩ := hQ2
 have N2 := Fr.app N0 N2q
 obtain ⟨T3, X3, e3, st3⟩ := getF X2 hx hZ hown (host := "") (Or.inl (ow hw 65 rfl)) Via.refl e2 pf2 (g := (mkF m 19 #[rv a0, jv qn, se, iv la, .val .null, un] [(.ref a0), (.long qn)])) rfl rfl (hb hby d5_19)
 obtain ⟨T4, X4, e4, st4⟩ := getS2 X3 hx hZ hown (host := "") (Or.inl (ow hw 112 rfl)) Via.refl e3 (S_WHOLE_NANOS.ext O0.2) (g := (mkF m 23 #[rv a0, jv qn, se, iv la, .val .null, un] [(.long (qn - wa))])) rfl (hb hby d5_23)
 obtain ⟨fs, hr, hrun, hended, hW, hsame⟩ := X4.leave (v := some .null) (fun h => by rw [Bd.returns] at h; cases h)
 subst hS0
 refine ⟨_, _, pre0 _ ?_, hrun, hended, _, _, rfl, ?_, ⟨_, rfl⟩, hW, hsame.mono (by decide) (by decide)⟩
 ·
  refine XS.aconstNull X0.here hx rfl (hb hby d5_0) ?_
  show AT p e below s₁ m 1 #[rv a0, jv qn, se, iv la, un, un] [.null] _
  refine XS.astore X0.here hx rfl (hb hby d5_1) rfl rfl (l' := #[rv a0, jv qn, se, iv la, .val .null, un]) rfl ?_
  show AT p e below s₁ m 3 #[rv a0, jv qn, se, iv la, .val .null, un] [] _
  refine XS.aloadN X0.here hx rfl (hb hby d5_3) rfl rfl ?_
  show AT p e below s₁ m 4 #[rv a0, jv qn, se, iv la, .val .null, un] [(.ref a0)] _
  refine st1 _ ?_
  show AT p e below T1 m 7 #[rv a0, jv qn, se, iv la, .val .null, un] [(.ref dq)] _
  refine st2.trans ?_
  show AT p e below T2 m 10 #[rv a0, jv qn, se, iv la, .val .null, un] [(.int (0 : Int32))] _
  refine XS.ifNo X2.here hx rfl (hb hby d5_10) rfl (XT.i0_ne_f ((by decide) : (0 : Int32) = (0 : Int32))) ?_
  show AT p e below T2 m 13 #[rv a0, jv qn, se, iv la, .val .null, un] [] _
  refine XS.iloadN X2.here hx rfl (hb hby d5_13) rfl ?_
  show AT p e below T2 m 14 #[rv a0, jv qn, se, iv la, .val .null, un] [(.int la)] _
  refine XS.ifNo X2.here hx rfl (hb hby d5_14) rfl (XT.i0_le_f (h1 : (0 : Int32) < la)) ?_
  show AT p e below T2 m 17 #[rv a0, jv qn, se, iv la, .val .null, un] [] _
  refine XS.lloadN X2.here hx rfl (hb hby d5_17) rfl ?_
  show AT p e below T2 m 18 #[rv a0, jv qn, se, iv la, .val .null, un] [(.long qn)] _
  refine XS.aloadN X2.here hx rfl (hb hby d5_18) rfl rfl ?_
  show AT p e below T2 m 19 #[rv a0, jv qn, se, iv la, .val .null, un] [(.ref a0), (.long qn)] _
  refine st3 _ ?_
  show AT p e below T3 m 22 #[rv a0, jv qn, se, iv la, .val .null, un] [(.long wa), (.long qn)] _
  refine XS.lsub X3.here hx rfl (hb hby d5_22) rfl ?_
  show AT p e below T3 m 23 #[rv a0, jv qn, se, iv la, .val .null, un] [(.long (qn - wa))] _
  refine st4 _ ?_
  show AT p e below T4 m 26 #[rv a0, jv qn, se, iv la, .val .null, un] [(.long (600000000000 : Int64)), (.long (qn - wa))] _
  refine XS.lcmp X4.here hx rfl (hb hby d5_26) rfl ?_
  show AT p e below T4 m 27 #[rv a0, jv qn, se, iv la, .val .null, un] [(.int (XT.cmpL (qn - wa) (600000000000 : Int64)))] _
  refine XS.ifYes X4.here hx rfl (pc0 := 27) (pc' := 109) rfl (hb hby d5_27) rfl (XT.ll_ge_t (h2 : ¬ ((qn - wa) < (600000000000 : Int64)))) (by decide) (by decide) ?_
  show AT p e below T4 m 109 #[rv a0, jv qn, se, iv la, .val .null, un] [] _
  refine XS.aload X4.here hx rfl (hb hby d5_109) rfl rfl ?_
  show AT p e below T4 m 111 #[rv a0, jv qn, se, iv la, .val .null, un] [.null] _
  exact retOut X4 hx (t := (.array .int)) (i := .areturn) Bd.returns rfl (Or.inr (Or.inr (Or.inr (Or.inr ⟨rfl, rfl, rfl⟩)))) (hb hby d5_111) hr
 ·
  show Q5_2b Z a0 qn la wa dq es ke i0 i1 ki0 t0 fr h0 n0 _ T4.heap _
  rw [e4]
  exact ⟨rfl, N2, rfl⟩

theorem ef_5_2l (m : MethodId) (a0 : Addr) (qn : Int64) (la : Int32) : entryFrame m #[(.ref a0), (.long qn), (.int la)] 6 = mkF m 0 #[rv a0, jv qn, se, iv la, un, un] [] := by first | (simp [entryFrame, mkF, argsToLocals, Value.category]; done) | rfl
def Q5_2l (Z : State) (a0 : Addr) (qn : Int64) (la : Int32) (wa : Int64) (dq : Addr) (es : Addr) (ke : ClassId) (i0 : Addr) (i1 : Addr) (ki0 : ClassId) (t0 : Int64) (fr : Int32) (h0 : Heap) (n0 : Nat) (v : Option Value) (h : Heap) (L : List Loc) : Prop := ∃ (b : Addr) (kb : ClassId), v = some (.ref b) ∧ Fr n0 L ∧ Keep h0 h [] ∧ Arv Z h b kb .int (2 : Int32) [(.int (fr + (1 : Int32))), (.int la)] (.int (0 : Int32)) ∧ h0.size ≤ b
set_option maxRecDepth 65536 in
set_option maxHeartbeats 40000000 in
theorem rm5_2l (l : Launch) (Z : State) (ar : Array Value) (hw : ∀ d ∈ tables_1, d.before ar Z = true) (ws : List Jvm.Cond) (a0 : Addr) (qn : Int64) (la : Int32) (wa : Int64) (dq : Addr) (es : Addr) (ke : ClassId) (i0 : Addr) (i1 : Addr) (ki0 : ClassId) (t0 : Int64) (fr : Int32) (h0 : Heap) (n0 : Nat) (O0 : Old Z n0 h0) (HW : Wd Z ) (pf0 : Exa Z h0 a0 "com/example/minderd/minderd/process/Listings") (pf1 : Fld Z h0 a0 "com/example/minderd/minderd/process/Listings" "recent" "Ljava/util/ArrayDeque;" (.ref dq)) (pf2 : Fld Z h0 a0 "com/example/minderd/minderd/process/Listings" "wholeAt" "J" (.long wa)) (pf3 : Exa Z h0 dq "java/util/ArrayDeque") (pf4 : Fld Z h0 dq "java/util/ArrayDeque" "elements" "[Ljava/lang/Object;" (.ref es)) (pf5 : Fld Z h0 dq "java/util/ArrayDeque" "head" "I" (.int (0 : Int32))) (pf6 : Fld Z h0 dq "java/util/ArrayDeque" "tail" "I" (.int (2 : Int32))) (pf7 : Arv Z h0 es ke (.object "java/lang/Object") (17 : Int32) [(.ref i0), (.ref i1)] .null) (pf8 : Exa Z h0 i0 "[J") (pf9 : Arv Z h0 i0 ki0 .long (2 : Int32) [(.long t0), (.long (fr.toInt64))] (.long (0 : Int64))) (h1 : (0 : Int32) < la) (h2 : (qn - wa) < (600000000000 : Int64)) (h3 : fr < la) :
    MetFree l y5 (head1 (Jvm.Cond.code y5 prog_29_method_2_code 6 (some (.array .int)) :: ws) ({ frames := 2, cells := 1, slots := 2, locals := 26 } : Room)) (fun a U => a = #[(.ref a0), (.long qn), (.int la)] ∧ Z.Warmed39 U.vm ∧ U.heap = h0) (fun _ _ _ _ _ => True) (fun _ U o U' => ∃ v L, o = .returned v ∧ Q5_2l Z a0 qn la wa dq es ke i0 i1 ki0 t0 fr h0 n0 v U'.heap L ∧ FrameEnd U o U' L ({ frames := 2, cells := 1, slots := 2, locals := 26 } : Room).cells ({ frames := 2, cells := 1, slots := 2, locals := 26 } : Room).slots) := by
 refine MetFree.of_bodySF (plainFor_of_name pn_2) hisR ?_
 intro p e s m args below meth c s₁ Bd hml0 hP hK
 obtain ⟨rfl, hZ, hh⟩ := hP
 have hx := Bd.exec
 have hby := Bd.bytes
 have hml : c.maxLocals = 6 := hml0
 have hown : s.vm.findClass "com/example/minderd/minderd/process/Listings" = some m.cls := findClass_of_methodNamed Bd.named
 have hnm := (name_of_methodNamed Bd.named Bd.method).1
 have X0 : Stand p l e ({ frames := 2, cells := 1, slots := 2, locals := 26 } : Room) s m #[(.ref a0), (.long qn), (.int la)] below meth c s₁ [] 0 0 := Stand.of_body Bd
 have e0 : s₁.heap = h0 := by rw [← hh, Bd.state]; rfl
 have N0 := Fr.nil n0
 have Z0 : n0 ≤ h0.size := Nat.le_trans (Nat.le_of_eq O0.1.symm) O0.2.1
 obtain ⟨S0, hS0⟩ : ∃ z, z = s₁.setTop (entryFrame m #[(.ref a0), (.long qn), (.int la)] 6) := ⟨_, rfl⟩
 have pre0 : ∀ tg, AT p e below s₁ m 0 #[rv a0, jv qn, se, iv la, un, un] [] tg → Steps p.tables e below S0 tg := fun tg kg => by rw [hS0]; exact castTop (ef_5_2l m a0 qn la) kg
 obtain ⟨S_MAKING_NANOS, S_WHOLE_NANOS⟩ := id HW
 obtain ⟨T1, X1, e1, st1⟩ := getF X0 hx hZ hown (host := "") (Or.inl (ow hw 26 rfl)) Via.refl e0 pf1 (g := (mkF m 4 #[rv a0, jv qn, se, iv la, .val .null, un] [(.ref a0)])) rfl rfl (hb hby d5_4)
 obtain ⟨cq2, kq2, q2a, q2b, q2c⟩ := isOf hZ e1 pf3
 obtain ⟨_, _, ⟨T2, L2, k2, n2⟩, -, X2, ⟨Lc2, hQ2, l2, y2, z2⟩, st2⟩ := X1.virtualBack hx (y := y6) (z := y6) hown (mvT hZ (ow hw 33 rfl)) (mvT hZ (ow hw 34 rfl)) (notFace_of_selects (args := #[]) (mvT hZ (ow hw 36 rfl))) (mvT hZ (ow hw 36 rfl)) (mvT hZ (ow hw 35 rfl)) (by decide) (backOf (W := 0) (rm6_2 l Z ar hw [] dq h0 n0 O0 pf5 pf6) hZ (ow hw 37 rfl) (ow hw 11 rfl) (by decide) (by decide)) q2a q2c (g := (mkF m 7 #[rv a0, jv qn, se, iv la, .val .null, un] [(.ref dq)])) rfl (by rw [hml]; rfl) (Steps.refl _) (argsL := []) (rest := []) (lenOf pd_10 rfl) rfl (by show 2 * 0 + _ ≤ _; exact Nat.le_of_eq rfl) (hb hby d5_7) (fun _ _ => ⟨rfl, e1, (by decide : 0 + 0 ≤ _), (by decide : 0 + 0 ≤ _)⟩)
 dsimp only [Pt.U, Pt.locs, Pt.cells, Pt.slots] at X2 l2 y2 z2 st2 hQ2
 subst l2 y2 z2
 obtain ⟨rfl, N2q, e2⟩ := hQ2
 have N2 := Fr.app N0 N2q
 obtain ⟨T3, X3, e3, st3⟩ := getF X2 hx hZ hown (host := "") (Or.inl (ow hw 65 rfl)) Via.refl e2 pf2 (g := (mkF m 19 #[rv a0, jv qn, se, iv la, .val .null, un] [(.ref a0), (.long qn)])) rfl rfl (hb hby d5_19)
 obtain ⟨T4, X4, e4, st4⟩ := getS2 X3 hx hZ hown (host := "") (Or.inl (ow hw 112 rfl)) Via.refl e3 (S_WHOLE_NANOS.ext O0.2) (g := (mkF m 23 #[rv a0, jv qn, se, iv la, .val .null, un] [(.long (qn - wa))])) rfl (hb hby d5_23)
 obtain ⟨T5, X5, e5, st5⟩ := getF X4 hx hZ hown (host := "") (Or.inl (ow hw 26 rfl)) Via.refl e4 pf1 (g := (mkF m 31 #[rv a0, jv qn, se, iv la, .val .null, un] [(.ref a0)])) rfl rfl (hb hby d5_31)
 obtain ⟨cq6, kq6, q6a, q6b, q6c⟩ := isOf hZ e5 pf3
 obtain ⟨_, _, ⟨T6, L6, k6, n6⟩, -, X6, ⟨Lc6, hQ6, l6, y6, z6⟩, st6⟩ := X5.virtualBack hx (y := y17) (z := y17) hown (mvT hZ (ow hw 114 rfl)) (mvT hZ (ow hw 115 rfl)) (notFace_of_selects (args := #[]) (mvT hZ (ow hw 117 rfl))) (mvT hZ (ow hw 117 rfl)) (mvT hZ (ow hw 116 rfl)) (by decide) (backOf (W := 0) (rm17_2 l Z ar hw [] dq es ke i0 i1 h0 n0 O0 pf4 pf5 pf6 pf7) hZ (ow hw 118 rfl) (ow hw 11 rfl) (by decide) (by decide)) q6a q6c (g := (mkF m 34 #[rv a0, jv qn, se, iv la, .val .null, un] [(.ref dq)])) rfl (by rw [hml]; rfl) (Steps.refl _) (argsL := []) (rest := []) (lenOf pd_7 rfl) rfl (by show 2 * 0 + _ ≤ _; exact Nat.le_of_eq rfl) (hb hby d5_34) (fun _ _ => ⟨rfl, e5, (by decide : 0 + 0 ≤ _), (by decide : 0 + 0 ≤ _)⟩)
 dsimp only [Pt.U, Pt.locs, Pt.cells, Pt.slots] at X6 l6 y6 z6 st6 hQ6
 subst l6 y6 z6
 obtain ⟨rfl, N6q, e6⟩ := hQ6
 have N6 := Fr.app N2 N6q
 obtain ⟨T7, X7, e7, st7⟩ := castY X6 hx hZ hown (ow hw 108 rfl) e6 (Ins.self pf8) (g := (mkF m 37 #[rv a0, jv qn, se, iv la, .val .null, un] [(.ref i0)])) rfl rfl (hb hby d5_37)
 obtain ⟨cl8, Ar8, q8, S8, N8, H8, G8⟩ := id pf9
 have hin8 := own_in (1 : Int32) S8 ⟨by decide, by decide⟩
 have hat8 : cl8.slots[((1 : Int32)).toNatClampNeg]? = some (.long (fr.toInt64)) := Has.at H8 hin8 rfl
 have pre9 : ∀ tg, AT p e below T7 m 43 #[rv a0, jv qn, se, iv la, .val .null, un] [(.int ((fr.toInt64).toInt32))] tg → Steps p.tables e below S0 tg := fun tg kg => pre0 tg (by
  refine XS.aconstNull X0.here hx rfl (hb hby d5_0) ?_
  show AT p e below s₁ m 1 #[rv a0, jv qn, se, iv la, un, un] [.null] _
  refine XS.astore X0.here hx rfl (hb hby d5_1) rfl rfl (l' := #[rv a0, jv qn, se, iv la, .val .null, un]) rfl ?_
  show AT p e below s₁ m 3 #[rv a0, jv qn, se, iv la, .val .null, un] [] _
  refine XS.aloadN X0.here hx rfl (hb hby d5_3) rfl rfl ?_
  show AT p e below s₁ m 4 #[rv a0, jv qn, se, iv la, .val .null, un] [(.ref a0)] _
  refine st1 _ ?_
  show AT p e below T1 m 7 #[rv a0, jv qn, se, iv la, .val .null, un] [(.ref dq)] _
  refine st2.trans ?_
  show AT p e below T2 m 10 #[rv a0, jv qn, se, iv la, .val .null, un] [(.int (0 : Int32))] _
  refine XS.ifNo X2.here hx rfl (hb hby d5_10) rfl (XT.i0_ne_f ((by decide) : (0 : Int32) = (0 : Int32))) ?_
  show AT p e below T2 m 13 #[rv a0, jv qn, se, iv la, .val .null, un] [] _
  refine XS.iloadN X2.here hx rfl (hb hby d5_13) rfl ?_
  show AT p e below T2 m 14 #[rv a0, jv qn, se, iv la, .val .null, un] [(.int la)] _
  refine XS.ifNo X2.here hx rfl (hb hby d5_14) rfl (XT.i0_le_f (h1 : (0 : Int32) < la)) ?_
  show AT p e below T2 m 17 #[rv a0, jv qn, se, iv la, .val .null, un] [] _
  refine XS.lloadN X2.here hx rfl (hb hby d5_17) rfl ?_
  show AT p e below T2 m 18 #[rv a0, jv qn, se, iv la, .val .null, un] [(.long qn)] _
  refine XS.aloadN X2.here hx rfl (hb hby d5_18) rfl rfl ?_
  show AT p e below T2 m 19 #[rv a0, jv qn, se, iv la, .val .null, un] [(.ref a0), (.long qn)] _
  refine st3 _ ?_
  show AT p e below T3 m 22 #[rv a0, jv qn, se, iv la, .val .null, un] [(.long wa), (.long qn)] _
  refine XS.lsub X3.here hx rfl (hb hby d5_22) rfl ?_
  show AT p e below T3 m 23 #[rv a0, jv qn, se, iv la, .val .null, un] [(.long (qn - wa))] _
  refine st4 _ ?_
  show AT p e below T4 m 26 #[rv a0, jv qn, se, iv la, .val .null, un] [(.long (600000000000 : Int64)), (.long (qn - wa))] _
  refine XS.lcmp X4.here hx rfl (hb hby d5_26) rfl ?_
  show AT p e below T4 m 27 #[rv a0, jv qn, se, iv la, .val .null, un] [(.int (XT.cmpL (qn - wa) (600000000000 : Int64)))] _
  refine XS.ifNo X4.here hx rfl (hb hby d5_27) rfl (XT.ll_ge_f (h2 : (qn - wa) < (600000000000 : Int64))) ?_
  show AT p e below T4 m 30 #[rv a0, jv qn, se, iv la, .val .null, un] [] _
  refine XS.aloadN X4.here hx rfl (hb hby d5_30) rfl rfl ?_
  show AT p e below T4 m 31 #[rv a0, jv qn, se, iv la, .val .null, un] [(.ref a0)] _
  refine st5 _ ?_
  show AT p e below T5 m 34 #[rv a0, jv qn, se, iv la, .val .null, un] [(.ref dq)] _
  refine st6.trans ?_
  show AT p e below T6 m 37 #[rv a0, jv qn, se, iv la, .val .null, un] [(.ref i0)] _
  refine st7 _ ?_
  show AT p e below T7 m 40 #[rv a0, jv qn, se, iv la, .val .null, un] [(.ref i0)] _
  refine XS.iconst X7.here hx rfl (hb hby d5_40) ?_
  show AT p e below T7 m 41 #[rv a0, jv qn, se, iv la, .val .null, un] [(.int (1 : Int32)), (.ref i0)] _
  refine X7.laload hx (j := (1 : Int32)) (v := (.long (fr.toInt64))) (by rw [e7]; exact Ar8.1) (State.isArrayOf_alike hZ.alike Ar8.2.1) Ar8.2.2 hin8 hat8 (g := (mkF m 41 #[rv a0, jv qn, se, iv la, .val .null, un] [(.int (1 : Int32)), (.ref i0)])) rfl rfl (hb hby d5_41) _ ?_
  show AT p e below T7 m 42 #[rv a0, jv qn, se, iv la, .val .null, un] [(.long (fr.toInt64))] _
  refine XS.l2i X7.here hx rfl (hb hby d5_42) rfl ?_
  exact kg)
 have hw10 : ((fr.toInt64).toInt32) = fr := own_id fr
 have pre10 : ∀ tg, AT p e below T7 m 43 #[rv a0, jv qn, se, iv la, .val .null, un] [(.int fr)] tg → Steps p.tables e below S0 tg := by
   have q := pre9
   rw [hw10] at q
   exact q
 obtain ⟨T11, h11, k11, X11, e11, E11, A11, B11, st11⟩ := newPE X7 hx hZ (ow hw 122 rfl) e7 (g := (mkF m 52 #[rv a0, jv qn, se, iv la, .val .null, iv fr] [(.int (2 : Int32))])) rfl (hb hby d5_52) rfl (by decide) (cap := 2) (by decide) (by decide) (by decide) (by decide) (ad := "[I") (by decide)
 obtain ⟨b11, g11⟩ : ∃ z, z = h0.size := ⟨_, rfl⟩
 rw [← g11] at A11 B11 st11
 have ne11_12 : a0 ≠ b11 := Nat.ne_of_lt (Nat.lt_of_lt_of_le (pf0).lt (Nat.le_of_eq g11.symm))
 have ne11_13 : dq ≠ b11 := Nat.ne_of_lt (Nat.lt_of_lt_of_le (pf3).lt (Nat.le_of_eq g11.symm))
 have ne11_14 : es ≠ b11 := Nat.ne_of_lt (Nat.lt_of_lt_of_le (pf7).lt (Nat.le_of_eq g11.symm))
 have ne11_15 : i0 ≠ b11 := Nat.ne_of_lt (Nat.lt_of_lt_of_le (pf8).lt (Nat.le_of_eq g11.symm))
 have gn11 : n0 ≤ b11 := Nat.le_trans (Nat.le_trans (Nat.le_of_eq O0.1.symm) O0.2.1) (Nat.le_of_eq g11.symm)
 have sz11 : h0.size ≤ b11 := Nat.le_trans (Keep.refl h0 []).1 (Nat.le_of_eq g11.symm)
 have E11_16 := pf0.ext E11
 have F11_17 := pf1.ext E11
 have F11_18 := pf2.ext E11
 have E11_19 := pf3.ext E11
 have F11_20 := pf4.ext E11
 have F11_21 := pf5.ext E11
 have F11_22 := pf6.ext E11
 have V11_23 := pf7.ext E11
 have E11_24 := pf8.ext E11
 have V11_25 := pf9.ext E11
 have K11 := (Keep.refl h0 []).ext E11
 have O11 := O0.ext E11
 have V11_26 : Arv Z h11 b11 k11 .int (2 : Int32) [(.int (0 : Int32)), (.int (0 : Int32))] (.int (0 : Int32)) := (Arv.new A11 (by decide)).pad (pad_rep [] (.int (0 : Int32)) 2)
 obtain ⟨cl27, Ar27, q27, S27, M27, H27, G27⟩ := id V11_26
 have hin27 := own_in (0 : Int32) S27 ⟨by decide, by decide⟩
 obtain ⟨T27, h27, X27, e27, W27, st27⟩ := stI X11 hx hZ e11 Ar27 (j := (0 : Int32)) hin27 (g := (mkF m 60 #[rv a0, jv qn, se, iv la, .val .null, iv fr] [(.int (fr + (1 : Int32))), (.int (0 : Int32)), (.ref b11), (.ref b11)])) rfl rfl (hb hby d5_60)
 have V27_28 : Arv Z h27 b11 k11 .int (2 : Int32) [(.int (fr + (1 : Int32))), (.int (0 : Int32))] (.int (0 : Int32)) := Arv.set Ar27 q27 S27 M27 H27 G27 rfl W27 0 rfl (Nat.le_of_ble_eq_true rfl)
 have E27_29 := E11_16.wr W27
 have F27_30 := F11_17.other W27 (Or.inl ne11_12)
 have F27_31 := F11_18.other W27 (Or.inl ne11_12)
 have E27_32 := E11_19.wr W27
 have F27_33 := F11_20.other W27 (Or.inl ne11_13)
 have F27_34 := F11_21.other W27 (Or.inl ne11_13)
 have F27_35 := F11_22.other W27 (Or.inl ne11_13)
 have V27_36 := V11_23.other W27 ne11_14
 have E27_37 := E11_24.wr W27
 have V27_38 := V11_25.other W27 ne11_15
 have E27_39 := B11.wr W27
 have K27 := K11.wr W27 (Or.inr sz11)
 have O27 := O11.wr W27 gn11
 have N27 := Fr.snoc X27 N6 gn11
 obtain ⟨cl40, Ar40, q40, S40, M40, H40, G40⟩ := id V27_28
 have hin40 := own_in (1 : Int32) S40 ⟨by decide, by decide⟩
 obtain ⟨T40, h40, X40, e40, W40, st40⟩ := stI X27 hx hZ e27 Ar40 (j := (1 : Int32)) hin40 (g := (mkF m 64 #[rv a0, jv qn, se, iv la, .val .null, iv fr] [(.int la), (.int (1 : Int32)), (.ref b11), (.ref b11)])) rfl rfl (hb hby d5_64)
 have V40_41 : Arv Z h40 b11 k11 .int (2 : Int32) [(.int (fr + (1 : Int32))), (.int la)] (.int (0 : Int32)) := Arv.set Ar40 q40 S40 M40 H40 G40 rfl W40 1 rfl (Nat.le_of_ble_eq_true rfl)
 have E40_42 := E27_29.wr W40
 have F40_43 := F27_30.other W40 (Or.inl ne11_12)
 have F40_44 := F27_31.other W40 (Or.inl ne11_12)
 have E40_45 := E27_32.wr W40
 have F40_46 := F27_33.other W40 (Or.inl ne11_13)
 have F40_47 := F27_34.other W40 (Or.inl ne11_13)
 have F40_48 := F27_35.other W40 (Or.inl ne11_13)
 have V40_49 := V27_36.other W40 ne11_14
 have E40_50 := E27_37.wr W40
 have V40_51 := V27_38.other W40 ne11_15
 have E40_52 := E27_39.wr W40
 have K40 := K27.wr W40 (Or.inr sz11)
 have O40 := O27.wr W40 gn11
 have N40 := Fr.snoc X40 N27 gn11
 obtain ⟨fs, hr, hrun, hended, hW, hsame⟩ := X40.leave (v := some (.ref b11)) (fun h => by rw [Bd.returns] at h; cases h)
 subst hS0
 refine ⟨_, _, pre10 _ ?_, hrun, hended, _, _, rfl, ?_, ⟨_, rfl⟩, hW, hsame.mono (by decide) (by decide)⟩
 ·
  refine XS.istore X7.here hx rfl (hb hby d5_43) rfl (l' := #[rv a0, jv qn, se, iv la, .val .null, iv fr]) rfl ?_
  show AT p e below T7 m 45 #[rv a0, jv qn, se, iv la, .val .null, iv fr] [] _
  refine XS.iload X7.here hx rfl (hb hby d5_45) rfl ?_
  show AT p e below T7 m 47 #[rv a0, jv qn, se, iv la, .val .null, iv fr] [(.int fr)] _
  refine XS.iloadN X7.here hx rfl (hb hby d5_47) rfl ?_
  show AT p e below T7 m 48 #[rv a0, jv qn, se, iv la, .val .null, iv fr] [(.int la), (.int fr)] _
  refine XS.icmpNo X7.here hx rfl (hb hby d5_48) rfl (XT.ii_ge_f (h3 : fr < la)) ?_
  show AT p e below T7 m 51 #[rv a0, jv qn, se, iv la, .val .null, iv fr] [] _
  refine XS.iconst X7.here hx rfl (hb hby d5_51) ?_
  show AT p e below T7 m 52 #[rv a0, jv qn, se, iv la, .val .null, iv fr] [(.int (2 : Int32))] _
  refine st11 _ ?_
  show AT p e below T11 m 54 #[rv a0, jv qn, se, iv la, .val .null, iv fr] [(.ref b11)] _
  refine XS.dup X11.here hx rfl (hb hby d5_54) rfl rfl ?_
  show AT p e below T11 m 55 #[rv a0, jv qn, se, iv la, .val .null, iv fr] [(.ref b11), (.ref b11)] _
  refine XS.iconst X11.here hx rfl (hb hby d5_55) ?_
  show AT p e below T11 m 56 #[rv a0, jv qn, se, iv la, .val .null, iv fr] [(.int (0 : Int32)), (.ref b11), (.ref b11)] _
  refine XS.iload X11.here hx rfl (hb hby d5_56) rfl ?_
  show AT p e below T11 m 58 #[rv a0, jv qn, se, iv la, .val .null, iv fr] [(.int fr), (.int (0 : Int32)), (.ref b11), (.ref b11)] _
  refine XS.iconst X11.here hx rfl (hb hby d5_58) ?_
  show AT p e below T11 m 59 #[rv a0, jv qn, se, iv la, .val .null, iv fr] [(.int (1 : Int32)), (.int fr), (.int (0 : Int32)), (.ref b11), (.ref b11)] _
  refine XS.iadd X11.here hx rfl (hb hby d5_59) rfl ?_
  show AT p e below T11 m 60 #[rv a0, jv qn, se, iv la, .val .null, iv fr] [(.int (fr + (1 : Int32))), (.int (0 : Int32)), (.ref b11), (.ref b11)] _
  refine st27 _ ?_
  show AT p e below T27 m 61 #[rv a0, jv qn, se, iv la, .val .null, iv fr] [(.ref b11)] _
  refine XS.dup X27.here hx rfl (hb hby d5_61) rfl rfl ?_
  show AT p e below T27 m 62 #[rv a0, jv qn, se, iv la, .val .null, iv fr] [(.ref b11), (.ref b11)] _
  refine XS.iconst X27.here hx rfl (hb hby d5_62) ?_
  show AT p e below T27 m 63 #[rv a0, jv qn, se, iv la, .val .null, iv fr] [(.int (1 : Int32)), (.ref b11), (.ref b11)] _
  refine XS.iloadN X27.here hx rfl (hb hby d5_63) rfl ?_
  show AT p e below T27 m 64 #[rv a0, jv qn, se, iv la, .val .null, iv fr] [(.int la), (.int (1 : Int32)), (.ref b11), (.ref b11)] _
  refine st40 _ ?_
  show AT p e below T40 m 65 #[rv a0, jv qn, se, iv la, .val .null, iv fr] [(.ref b11)] _
  refine XS.astore X40.here hx rfl (hb hby d5_65) rfl rfl (l' := #[rv a0, jv qn, se, iv la, rv b11, iv fr]) rfl ?_
  show AT p e below T40 m 67 #[rv a0, jv qn, se, iv la, rv b11, iv fr] [] _
  refine XS.goto X40.here hx rfl (pc0 := 67) (pc' := 109) rfl (hb hby d5_67) (by decide) (by decide) ?_
  show AT p e below T40 m 109 #[rv a0, jv qn, se, iv la, rv b11, iv fr] [] _
  refine XS.aload X40.here hx rfl (hb hby d5_109) rfl rfl ?_
  show AT p e below T40 m 111 #[rv a0, jv qn, se, iv la, rv b11, iv fr] [(.ref b11)] _
  exact retOut X40 hx (t := (.array .int)) (i := .areturn) Bd.returns rfl (Or.inr (Or.inr (Or.inr (Or.inr ⟨rfl, rfl, rfl⟩)))) (hb hby d5_111) hr
 ·
  show Q5_2l Z a0 qn la wa dq es ke i0 i1 ki0 t0 fr h0 n0 _ T40.heap _
  rw [e40]
  exact ⟨b11, k11, rfl, N40, K40, V40_41, sz11⟩

theorem ef_5_2g (m : MethodId) (a0 : Addr) (qn : Int64) (la : Int32) : entryFrame m #[(.ref a0), (.long qn), (.int la)] 6 = mkF m 0 #[rv a0, jv qn, se, iv la, un, un] [] := by first | (simp [entryFrame, mkF, argsToLocals, Value.category]; done) | rfl
def Q5_2g (Z : State) (a0 : Addr) (qn : Int64) (la : Int32) (wa : Int64) (dq : Addr) (es : Addr) (ke : ClassId) (i0 : Addr) (i1 : Addr) (ki0 : ClassId) (t0 : Int64) (fr : Int32) (h0 : Heap) (n0 : Nat) (v : Option Value) (h : Heap) (L : List Loc) : Prop := ∃ (b : Addr) (kb : ClassId), v = some (.ref b) ∧ Fr n0 L ∧ Keep h0 h [] ∧ Arv Z h b kb .int (4 : Int32) [(.int (fr + (1 : Int32))), (.int (2147483647 : Int32)), (.int (1 : Int32)), (.int la)] (.int (0 : Int32)) ∧ h0.size ≤ b
set_option maxRecDepth 65536 in
set_option maxHeartbeats 40000000 in
theorem rm5_2g (l : Launch) (Z : State) (ar : Array Value) (hw : ∀ d ∈ tables_1, d.before ar Z = true) (ws : List Jvm.Cond) (a0 : Addr) (qn : Int64) (la : Int32) (wa : Int64) (dq : Addr) (es : Addr) (ke : ClassId) (i0 : Addr) (i1 : Addr) (ki0 : ClassId) (t0 : Int64) (fr : Int32) (h0 : Heap) (n0 : Nat) (O0 : Old Z n0 h0) (HW : Wd Z ) (pf0 : Exa Z h0 a0 "com/example/minderd/minderd/process/Listings") (pf1 : Fld Z h0 a0 "com/example/minderd/minderd/process/Listings" "recent" "Ljava/util/ArrayDeque;" (.ref dq)) (pf2 : Fld Z h0 a0 "com/example/minderd/minderd/process/Listings" "wholeAt" "J" (.long wa)) (pf3 : Exa Z h0 dq "java/util/ArrayDeque") (pf4 : Fld Z h0 dq "java/util/ArrayDeque" "elements" "[Ljava/lang/Object;" (.ref es)) (pf5 : Fld Z h0 dq "java/util/ArrayDeque" "head" "I" (.int (0 : Int32))) (pf6 : Fld Z h0 dq "java/util/ArrayDeque" "tail" "I" (.int (2 : Int32))) (pf7 : Arv Z h0 es ke (.object "java/lang/Object") (17 : Int32) [(.ref i0), (.ref i1)] .null) (pf8 : Exa Z h0 i0 "[J") (pf9 : Arv Z h0 i0 ki0 .long (2 : Int32) [(.long t0), (.long (fr.toInt64))] (.long (0 : Int64))) (h1 : (0 : Int32) < la) (h2 : (qn - wa) < (600000000000 : Int64)) (h3 : ¬ fr < la) (h4 : la < fr) :
    MetFree l y5 (head1 (Jvm.Cond.code y5 prog_29_method_2_code 6 (some (.array .int)) :: ws) ({ frames := 2, cells := 1, slots := 4, locals := 26 } : Room)) (fun a U => a = #[(.ref a0), (.long qn), (.int la)] ∧ Z.Warmed39 U.vm ∧ U.heap = h0) (fun _ _ _ _ _ => True) (fun _ U o U' => ∃ v L, o = .returned v ∧ Q5_2g Z a0 qn la wa dq es ke i0 i1 ki0 t0 fr h0 n0 v U'.heap L ∧ FrameEnd U o U' L ({ frames := 2, cells := 1, slots := 4, locals := 26 } : Room).cells ({ frames := 2, cells := 1, slots := 4, locals := 26 } : Room).slots) := by
 refine MetFree.of_bodySF (plainFor_of_name pn_2) hisR ?_
 intro p e s m args below meth c s₁ Bd hml0 hP hK
 obtain ⟨rfl, hZ, hh⟩ := hP
 have hx := Bd.exec
 have hby := Bd.bytes
 have hml : c.maxLocals = 6 := hml0
 have hown : s.vm.findClass "com/example/minderd/minderd/process/Listings" = some m.cls := findClass_of_methodNamed Bd.named
 have hnm := (name_of_methodNamed Bd.named Bd.method).1
 have X0 : Stand p l e ({ frames := 2, cells := 1, slots := 4, locals := 26 } : Room) s m #[(.ref a0), (.long qn), (.int la)] below meth c s₁ [] 0 0 := Stand.of_body Bd
 have e0 : s₁.heap = h0 := by rw [← hh, Bd.state]; rfl
 have N0 := Fr.nil n0
 have Z0 : n0 ≤ h0.size := Nat.le_trans (Nat.le_of_eq O0.1.symm) O0.2.1
 obtain ⟨S0, hS0⟩ : ∃ z, z = s₁.setTop (entryFrame m #[(.ref a0), (.long qn), (.int la)] 6) := ⟨_, rfl⟩
 have pre0 : ∀ tg, AT p e below s₁ m 0 #[rv a0, jv qn, se, iv la, un, un] [] tg → Steps p.tables e below S0 tg := fun tg kg => by rw [hS0]; exact castTop (ef_5_2g m a0 qn la) kg
 obtain ⟨S_MAKING_NANOS, S_WHOLE_NANOS⟩ := id HW
 obtain ⟨T1, X1, e1, st1⟩ := getF X0 hx hZ hown (host := "") (Or.inl (ow hw 26 rfl)) Via.refl e0 pf1 (g := (mkF m 4 #[rv a0, jv qn, se, iv la, .val .null, un] [(.ref a0)])) rfl rfl (hb hby d5_4)
 obtain ⟨cq2, kq2, q2a, q2b, q2c⟩ := isOf hZ e1 pf3
 obtain ⟨_, _, ⟨T2, L2, k2, n2⟩, -, X2, ⟨Lc2, hQ2, l2, y2, z2⟩, st2⟩ := X1.virtualBack hx (y := y6) (z := y6) hown (mvT hZ (ow hw 33 rfl)) (mvT hZ (ow hw 34 rfl)) (notFace_of_selects (args := #[]) (mvT hZ (ow hw 36 rfl))) (mvT hZ (ow hw 36 rfl)) (mvT hZ (ow hw 35 rfl)) (by decide) (backOf (W := 0) (rm6_2 l Z ar hw [] dq h0 n0 O0 pf5 pf6) hZ (ow hw 37 rfl) (ow hw 11 rfl) (by decide) (by decide)) q2a q2c (g := (mkF m 7 #[rv a0, jv qn, se, iv la, .val .null, un] [(.ref dq)])) rfl (by rw [hml]; rfl) (Steps.refl _) (argsL := []) (rest := []) (lenOf pd_10 rfl) rfl (by show 2 * 0 + _ ≤ _; exact Nat.le_of_eq rfl) (hb hby d5_7) (fun _ _ => ⟨rfl, e1, (by decide : 0 + 0 ≤ _), (by decide : 0 + 0 ≤ _)⟩)
 dsimp only [Pt.U, Pt.locs, Pt.cells, Pt.slots] at X2 l2 y2 z2 st2 hQ2
 subst l2 y2 z2
 obtain ⟨rfl, N2q, e2⟩ := hQ2
 have N2 := Fr.app N0 N2q
 obtain ⟨T3, X3, e3, st3⟩ := getF X2 hx hZ hown (host := "") (Or.inl (ow hw 65 rfl)) Via.refl e2 pf2 (g := (mkF m 19 #[rv a0, jv qn, se, iv la, .val .null, un] [(.ref a0), (.long qn)])) rfl rfl (hb hby d5_19)
 obtain ⟨T4, X4, e4, st4⟩ := getS2 X3 hx hZ hown (host := "") (Or.inl (ow hw 112 rfl)) Via.refl e3 (S_WHOLE_NANOS.ext O0.2) (g := (mkF m 23 #[rv a0, jv qn, se, iv la, .val .null, un] [(.long (qn - wa))])) rfl (hb hby d5_23)
 obtain ⟨T5, X5, e5, st5⟩ := getF X4 hx hZ hown (host := "") (Or.inl (ow hw 26 rfl)) Via.refl e4 pf1 (g := (mkF m 31 #[rv a0, jv qn, se, iv la, .val .null, un] [(.ref a0)])) rfl rfl (hb hby d5_31)
 obtain ⟨cq6, kq6, q6a, q6b, q6c⟩ := isOf hZ e5 pf3
 obtain ⟨_, _, ⟨T6, L6, k6, n6⟩, -, X6, ⟨Lc6, hQ6, l6, y6, z6⟩, st6⟩ := X5.virtualBack hx (y := y17) (z := y17) hown (mvT hZ (ow hw 114 rfl)) (mvT hZ (ow hw 115 rfl)) (notFace_of_selects (args := #[]) (mvT hZ (ow hw 117 rfl))) (mvT hZ (ow hw 117 rfl)) (mvT hZ (ow hw 116 rfl)) (by decide) (backOf (W := 0) (rm17_2 l Z ar hw [] dq es ke i0 i1 h0 n0 O0 pf4 pf5 pf6 pf7) hZ (ow hw 118 rfl) (ow hw 11 rfl) (by decide) (by decide)) q6a q6c (g := (mkF m 34 #[rv a0, jv qn, se, iv la, .val .null, un] [(.ref dq)])) rfl (by rw [hml]; rfl) (Steps.refl _) (argsL := []) (rest := []) (lenOf pd_7 rfl) rfl (by show 2 * 0 + _ ≤ _; exact Nat.le_of_eq rfl) (hb hby d5_34) (fun _ _ => ⟨rfl, e5, (by decide : 0 + 0 ≤ _), (by decide : 0 + 0 ≤ _)⟩)
 dsimp only [Pt.U, Pt.locs, Pt.cells, Pt.slots] at X6 l6 y6 z6 st6 hQ6
 subst l6 y6 z6
 obtain ⟨rfl, N6q, e6⟩ := hQ6
 have N6 := Fr.app N2 N6q
 obtain ⟨T7, X7, e7, st7⟩ := castY X6 hx hZ hown (ow hw 108 rfl) e6 (Ins.self pf8) (g := (mkF m 37 #[rv a0, jv qn, se, iv la, .val .null, un] [(.ref i0)])) rfl rfl (hb hby d5_37)
 obtain ⟨cl8, Ar8, q8, S8, N8, H8, G8⟩ := id pf9
 have hin8 := own_in (1 : Int32) S8 ⟨by decide, by decide⟩
 have hat8 : cl8.slots[((1 : Int32)).toNatClampNeg]? = some (.long (fr.toInt64)) := Has.at H8 hin8 rfl
 have pre9 : ∀ tg, AT p e below T7 m 43 #[rv a0, jv qn, se, iv la, .val .null, un] [(.int ((fr.toInt64).toInt32))] tg → Steps p.tables e below S0 tg := fun tg kg => pre0 tg (by
  refine XS.aconstNull X0.here hx rfl (hb hby d5_0) ?_
  show AT p e below s₁ m 1 #[rv a0, jv qn, se, iv la, un, un] [.null] _
  refine XS.astore X0.here hx rfl (hb hby d5_1) rfl rfl (l' := #[rv a0, jv qn, se, iv la, .val .null, un]) rfl ?_
  show AT p e below s₁ m 3 #[rv a0, jv qn, se, iv la, .val .null, un] [] _
  refine XS.aloadN X0.here hx rfl (hb hby d5_3) rfl rfl ?_
  show AT p e below s₁ m 4 #[rv a0, jv qn, se, iv la, .val .null, un] [(.ref a0)] _
  refine st1 _ ?_
  show AT p e below T1 m 7 #[rv a0, jv qn, se, iv la, .val .null, un] [(.ref dq)] _
  refine st2.trans ?_
  show AT p e below T2 m 10 #[rv a0, jv qn, se, iv la, .val .null, un] [(.int (0 : Int32))] _
  refine XS.ifNo X2.here hx rfl (hb hby d5_10) rfl (XT.i0_ne_f ((by decide) : (0 : Int32) = (0 : Int32))) ?_
  show AT p e below T2 m 13 #[rv a0, jv qn, se, iv la, .val .null, un] [] _
  refine XS.iloadN X2.here hx rfl (hb hby d5_13) rfl ?_
  show AT p e below T2 m 14 #[rv a0, jv qn, se, iv la, .val .null, un] [(.int la)] _
  refine XS.ifNo X2.here hx rfl (hb hby d5_14) rfl (XT.i0_le_f (h1 : (0 : Int32) < la)) ?_
  show AT p e below T2 m 17 #[rv a0, jv qn, se, iv la, .val .null, un] [] _
  refine XS.lloadN X2.here hx rfl (hb hby d5_17) rfl ?_
  show AT p e below T2 m 18 #[rv a0, jv qn, se, iv la, .val .null, un] [(.long qn)] _
  refine XS.aloadN X2.here hx rfl (hb hby d5_18) rfl rfl ?_
  show AT p e below T2 m 19 #[rv a0, jv qn, se, iv la, .val .null, un] [(.ref a0), (.long qn)] _
  refine st3 _ ?_
  show AT p e below T3 m 22 #[rv a0, jv qn, se, iv la, .val .null, un] [(.long wa), (.long qn)] _
  refine XS.lsub X3.here hx rfl (hb hby d5_22) rfl ?_
  show AT p e below T3 m 23 #[rv a0, jv qn, se, iv la, .val .null, un] [(.long (qn - wa))] _
  refine st4 _ ?_
  show AT p e below T4 m 26 #[rv a0, jv qn, se, iv la, .val .null, un] [(.long (600000000000 : Int64)), (.long (qn - wa))] _
  refine XS.lcmp X4.here hx rfl (hb hby d5_26) rfl ?_
  show AT p e below T4 m 27 #[rv a0, jv qn, se, iv la, .val .null, un] [(.int (XT.cmpL (qn - wa) (600000000000 : Int64)))] _
  refine XS.ifNo X4.here hx rfl (hb hby d5_27) rfl (XT.ll_ge_f (h2 : (qn - wa) < (600000000000 : Int64))) ?_
  show AT p e below T4 m 30 #[rv a0, jv qn, se, iv la, .val .null, un] [] _
  refine XS.aloadN X4.here hx rfl (hb hby d5_30) rfl rfl ?_
  show AT p e below T4 m 31 #[rv a0, jv qn, se, iv la, .val .null, un] [(.ref a0)] _
  refine st5 _ ?_
  show AT p e below T5 m 34 #[rv a0, jv qn, se, iv la, .val .null, un] [(.ref dq)] _
  refine st6.trans ?_
  show AT p e below T6 m 37 #[rv a0, jv qn, se, iv la, .val .null, un] [(.ref i0)] _
  refine st7 _ ?_
  show AT p e below T7 m 40 #[rv a0, jv qn, se, iv la, .val .null, un] [(.ref i0)] _
  refine XS.iconst X7.here hx rfl (hb hby d5_40) ?_
  show AT p e below T7 m 41 #[rv a0, jv qn, se, iv la, .val .null, un] [(.int (1 : Int32)), (.ref i0)] _
  refine X7.laload hx (j := (1 : Int32)) (v := (.long (fr.toInt64))) (by rw [e7]; exact Ar8.1) (State.isArrayOf_alike hZ.alike Ar8.2.1) Ar8.2.2 hin8 hat8 (g := (mkF m 41 #[rv a0, jv qn, se, iv la, .val .null, un] [(.int (1 : Int32)), (.ref i0)])) rfl rfl (hb hby d5_41) _ ?_
  show AT p e below T7 m 42 #[rv a0, jv qn, se, iv la, .val .null, un] [(.long (fr.toInt64))] _
  refine XS.l2i X7.here hx rfl (hb hby d5_42) rfl ?_
  exact kg)
 have hw10 : ((fr.toInt64).toInt32) = fr := own_id fr
 have pre10 : ∀ tg, AT p e below T7 m 43 #[rv a0, jv qn, se, iv la, .val .null, un] [(.int fr)] tg → Steps p.tables e below S0 tg := by
   have q := pre9
   rw [hw10] at q
   exact q
 obtain ⟨T11, h11, k11, X11, e11, E11, A11, B11, st11⟩ := newPE X7 hx hZ (ow hw 122 rfl) e7 (g := (mkF m 77 #[rv a0, jv qn, se, iv la, .val .null, iv fr] [(.int (4 : Int32))])) rfl (hb hby d5_77) rfl (by decide) (cap := 4) (by decide) (by decide) (by decide) (by decide) (ad := "[I") (by decide)
 obtain ⟨b11, g11⟩ : ∃ z, z = h0.size := ⟨_, rfl⟩
 rw [← g11] at A11 B11 st11
 have ne11_12 : a0 ≠ b11 := Nat.ne_of_lt (Nat.lt_of_lt_of_le (pf0).lt (Nat.le_of_eq g11.symm))
 have ne11_13 : dq ≠ b11 := Nat.ne_of_lt (Nat.lt_of_lt_of_le (pf3).lt (Nat.le_of_eq g11.symm))
 have ne11_14 : es ≠ b11 := Nat.ne_of_lt (Nat.lt_of_lt_of_le (pf7).lt (Nat.le_of_eq g11.symm))
 have ne11_15 : i0 ≠ b11 := Nat.ne_of_lt (Nat.lt_of_lt_of_le (pf8).lt (Nat.le_of_eq g11.symm))
 have gn11 : n0 ≤ b11 := Nat.le_trans (Nat.le_trans (Nat.le_of_eq O0.1.symm) O0.2.1) (Nat.le_of_eq g11.symm)
 have sz11 : h0.size ≤ b11 := Nat.le_trans (Keep.refl h0 []).1 (Nat.le_of_eq g11.symm)
 have E11_16 := pf0.ext E11
 have F11_17 := pf1.ext E11
 have F11_18 := pf2.ext E11
 have E11_19 := pf3.ext E11
 have F11_20 := pf4.ext E11
 have F11_21 := pf5.ext E11
 have F11_22 := pf6.ext E11
 have V11_23 := pf7.ext E11
 have E11_24 := pf8.ext E11
 have V11_25 := pf9.ext E11
 have K11 := (Keep.refl h0 []).ext E11
 have O11 := O0.ext E11
 have V11_26 : Arv Z h11 b11 k11 .int (4 : Int32) [(.int (0 : Int32)), (.int (0 : Int32)), (.int (0 : Int32)), (.int (0 : Int32))] (.int (0 : Int32)) := (Arv.new A11 (by decide)).pad (pad_rep [] (.int (0 : Int32)) 4)
 obtain ⟨cl27, Ar27, q27, S27, M27, H27, G27⟩ := id V11_26
 have hin27 := own_in (0 : Int32) S27 ⟨by decide, by decide⟩
 obtain ⟨T27, h27, X27, e27, W27, st27⟩ := stI X11 hx hZ e11 Ar27 (j := (0 : Int32)) hin27 (g := (mkF m 85 #[rv a0, jv qn, se, iv la, .val .null, iv fr] [(.int (fr + (1 : Int32))), (.int (0 : Int32)), (.ref b11), (.ref b11)])) rfl rfl (hb hby d5_85)
 have V27_28 : Arv Z h27 b11 k11 .int (4 : Int32) [(.int (fr + (1 : Int32))), (.int (0 : Int32)), (.int (0 : Int32)), (.int (0 : Int32))] (.int (0 : Int32)) := Arv.set Ar27 q27 S27 M27 H27 G27 rfl W27 0 rfl (Nat.le_of_ble_eq_true rfl)
 have E27_29 := E11_16.wr W27
 have F27_30 := F11_17.other W27 (Or.inl ne11_12)
 have F27_31 := F11_18.other W27 (Or.inl ne11_12)
 have E27_32 := E11_19.wr W27
 have F27_33 := F11_20.other W27 (Or.inl ne11_13)
 have F27_34 := F11_21.other W27 (Or.inl ne11_13)
 have F27_35 := F11_22.other W27 (Or.inl ne11_13)
 have V27_36 := V11_23.other W27 ne11_14
 have E27_37 := E11_24.wr W27
 have V27_38 := V11_25.other W27 ne11_15
 have E27_39 := B11.wr W27
 have K27 := K11.wr W27 (Or.inr sz11)
 have O27 := O11.wr W27 gn11
 have N27 := Fr.snoc X27 N6 gn11
 obtain ⟨cl40, Ar40, q40, S40, M40, H40, G40⟩ := id V27_28
 have hin40 := own_in (1 : Int32) S40 ⟨by decide, by decide⟩
 obtain ⟨T40, h40, X40, e40, W40, st40⟩ := stI X27 hx hZ e27 Ar40 (j := (1 : Int32)) hin40 (g := (mkF m 90 #[rv a0, jv qn, se, iv la, .val .null, iv fr] [(.int (2147483647 : Int32)), (.int (1 : Int32)), (.ref b11), (.ref b11)])) rfl rfl (hb hby d5_90)
 have V40_41 : Arv Z h40 b11 k11 .int (4 : Int32) [(.int (fr + (1 : Int32))), (.int (2147483647 : Int32)), (.int (0 : Int32)), (.int (0 : Int32))] (.int (0 : Int32)) := Arv.set Ar40 q40 S40 M40 H40 G40 rfl W40 1 rfl (Nat.le_of_ble_eq_true rfl)
 have E40_42 := E27_29.wr W40
 have F40_43 := F27_30.other W40 (Or.inl ne11_12)
 have F40_44 := F27_31.other W40 (Or.inl ne11_12)
 have E40_45 := E27_32.wr W40
 have F40_46 := F27_33.other W40 (Or.inl ne11_13)
 have F40_47 := F27_34.other W40 (Or.inl ne11_13)
 have F40_48 := F27_35.other W40 (Or.inl ne11_13)
 have V40_49 := V27_36.other W40 ne11_14
 have E40_50 := E27_37.wr W40
 have V40_51 := V27_38.other W40 ne11_15
 have E40_52 := E27_39.wr W40
 have K40 := K27.wr W40 (Or.inr sz11)
 have O40 := O27.wr W40 gn11
 have N40 := Fr.snoc X40 N27 gn11
 obtain ⟨cl53, Ar53, q53, S53, M53, H53, G53⟩ := id V40_41
 have hin53 := own_in (2 : Int32) S53 ⟨by decide, by decide⟩
 obtain ⟨T53, h53, X53, e53, W53, st53⟩ := stI X40 hx hZ e40 Ar53 (j := (2 : Int32)) hin53 (g := (mkF m 94 #[rv a0, jv qn, se, iv la, .val .null, iv fr] [(.int (1 : Int32)), (.int (2 : Int32)), (.ref b11), (.ref b11)])) rfl rfl (hb hby d5_94)
 have V53_54 : Arv Z h53 b11 k11 .int (4 : Int32) [(.int (fr + (1 : Int32))), (.int (2147483647 : Int32)), (.int (1 : Int32)), (.int (0 : Int32))] (.int (0 : Int32)) := Arv.set Ar53 q53 S53 M53 H53 G53 rfl W53 2 rfl (Nat.le_of_ble_eq_true rfl)
 have E53_55 := E40_42.wr W53
 have F53_56 := F40_43.other W53 (Or.inl ne11_12)
 have F53_57 := F40_44.other W53 (Or.inl ne11_12)
 have E53_58 := E40_45.wr W53
 have F53_59 := F40_46.other W53 (Or.inl ne11_13)
 have F53_60 := F40_47.other W53 (Or.inl ne11_13)
 have F53_61 := F40_48.other W53 (Or.inl ne11_13)
 have V53_62 := V40_49.other W53 ne11_14
 have E53_63 := E40_50.wr W53
 have V53_64 := V40_51.other W53 ne11_15
 have E53_65 := E40_52.wr W53
 have K53 := K40.wr W53 (Or.inr sz11)
 have O53 := O40.wr W53 gn11
 have N53 := Fr.snoc X53 N40 gn11
 obtain ⟨cl66, Ar66, q66, S66, M66, H66, G66⟩ := id V53_54
 have hin66 := own_in (3 : Int32) S66 ⟨by decide, by decide⟩
 obtain ⟨T66, h66, X66, e66, W66, st66⟩ := stI X53 hx hZ e53 Ar66 (j := (3 : Int32)) hin66 (g := (mkF m 98 #[rv a0, jv qn, se, iv la, .val .null, iv fr] [(.int la), (.int (3 : Int32)), (.ref b11), (.ref b11)])) rfl rfl (hb hby d5_98)
 have V66_67 : Arv Z h66 b11 k11 .int (4 : Int32) [(.int (fr + (1 : Int32))), (.int (2147483647 : Int32)), (.int (1 : Int32)), (.int la)] (.int (0 : Int32)) := Arv.set Ar66 q66 S66 M66 H66 G66 rfl W66 3 rfl (Nat.le_of_ble_eq_true rfl)
 have E66_68 := E53_55.wr W66
 have F66_69 := F53_56.other W66 (Or.inl ne11_12)
 have F66_70 := F53_57.other W66 (Or.inl ne11_12)
 have E66_71 := E53_58.wr W66
 have F66_72 := F53_59.other W66 (Or.inl ne11_13)
 have F66_73 := F53_60.other W66 (Or.inl ne11_13)
 have F66_74 := F53_61.other W66 (Or.inl ne11_13)
 have V66_75 := V53_62.other W66 ne11_14
 have E66_76 := E53_63.wr W66
 have V66_77 := V53_64.other W66 ne11_15
 have E66_78 := E53_65.wr W66
 have K66 := K53.wr W66 (Or.inr sz11)
 have O66 := O53.wr W66 gn11
 have N66 := Fr.snoc X66 N53 gn11
 obtain ⟨fs, hr, hrun, hended, hW, hsame⟩ := X66.leave (v := some (.ref b11)) (fun h => by rw [Bd.returns] at h; cases h)
 subst hS0
 refine ⟨_, _, pre10 _ ?_, hrun, hended, _, _, rfl, ?_, ⟨_, rfl⟩, hW, hsame.mono (by decide) (by decide)⟩
 ·
  refine XS.istore X7.here hx rfl (hb hby d5_43) rfl (l' := #[rv a0, jv qn, se, iv la, .val .null, iv fr]) rfl ?_
  show AT p e below T7 m 45 #[rv a0, jv qn, se, iv la, .val .null, iv fr] [] _
  refine XS.iload X7.here hx rfl (hb hby d5_45) rfl ?_
  show AT p e below T7 m 47 #[rv a0, jv qn, se, iv la, .val .null, iv fr] [(.int fr)] _
  refine XS.iloadN X7.here hx rfl (hb hby d5_47) rfl ?_
  show AT p e below T7 m 48 #[rv a0, jv qn, se, iv la, .val .null, iv fr] [(.int la), (.int fr)] _
  refine XS.icmpYes X7.here hx rfl (pc0 := 48) (pc' := 70) rfl (hb hby d5_48) rfl (XT.ii_ge_t (h3 : ¬ (fr < la))) (by decide) (by decide) ?_
  show AT p e below T7 m 70 #[rv a0, jv qn, se, iv la, .val .null, iv fr] [] _
  refine XS.iload X7.here hx rfl (hb hby d5_70) rfl ?_
  show AT p e below T7 m 72 #[rv a0, jv qn, se, iv la, .val .null, iv fr] [(.int fr)] _
  refine XS.iloadN X7.here hx rfl (hb hby d5_72) rfl ?_
  show AT p e below T7 m 73 #[rv a0, jv qn, se, iv la, .val .null, iv fr] [(.int la), (.int fr)] _
  refine XS.icmpNo X7.here hx rfl (hb hby d5_73) rfl (XT.ii_le_f (h4 : la < fr)) ?_
  show AT p e below T7 m 76 #[rv a0, jv qn, se, iv la, .val .null, iv fr] [] _
  refine XS.iconst X7.here hx rfl (hb hby d5_76) ?_
  show AT p e below T7 m 77 #[rv a0, jv qn, se, iv la, .val .null, iv fr] [(.int (4 : Int32))] _
  refine st11 _ ?_
  show AT p e below T11 m 79 #[rv a0, jv qn, se, iv la, .val .null, iv fr] [(.ref b11)] _
  refine XS.dup X11.here hx rfl (hb hby d5_79) rfl rfl ?_
  show AT p e below T11 m 80 #[rv a0, jv qn, se, iv la, .val .null, iv fr] [(.ref b11), (.ref b11)] _
  refine XS.iconst X11.here hx rfl (hb hby d5_80) ?_
  show AT p e below T11 m 81 #[rv a0, jv qn, se, iv la, .val .null, iv fr] [(.int (0 : Int32)), (.ref b11), (.ref b11)] _
  refine XS.iload X11.here hx rfl (hb hby d5_81) rfl ?_
  show AT p e below T11 m 83 #[rv a0, jv qn, se, iv la, .val .null, iv fr] [(.int fr), (.int (0 : Int32)), (.ref b11), (.ref b11)] _
  refine XS.iconst X11.here hx rfl (hb hby d5_83) ?_
  show AT p e below T11 m 84 #[rv a0, jv qn, se, iv la, .val .null, iv fr] [(.int (1 : Int32)), (.int fr), (.int (0 : Int32)), (.ref b11), (.ref b11)] _
  refine XS.iadd X11.here hx rfl (hb hby d5_84) rfl ?_
  show AT p e below T11 m 85 #[rv a0, jv qn, se, iv la, .val .null, iv fr] [(.int (fr + (1 : Int32))), (.int (0 : Int32)), (.ref b11), (.ref b11)] _
  refine st27 _ ?_
  show AT p e below T27 m 86 #[rv a0, jv qn, se, iv la, .val .null, iv fr] [(.ref b11)] _
  refine XS.dup X27.here hx rfl (hb hby d5_86) rfl rfl ?_
  show AT p e below T27 m 87 #[rv a0, jv qn, se, iv la, .val .null, iv fr] [(.ref b11), (.ref b11)] _
  refine XS.iconst X27.here hx rfl (hb hby d5_87) ?_
  show AT p e below T27 m 88 #[rv a0, jv qn, se, iv la, .val .null, iv fr] [(.int (1 : Int32)), (.ref b11), (.ref b11)] _
  refine X27.ldcInt hx hown (mvT hZ (ow hw 128 rfl)) (g := (mkF m 88 #[rv a0, jv qn, se, iv la, .val .null, iv fr] [(.int (1 : Int32)), (.ref b11), (.ref b11)])) rfl (hb hby d5_88) _ ?_
  show AT p e below T27 m 90 #[rv a0, jv qn, se, iv la, .val .null, iv fr] [(.int (2147483647 : Int32)), (.int (1 : Int32)), (.ref b11), (.ref b11)] _
  refine st40 _ ?_
  show AT p e below T40 m 91 #[rv a0, jv qn, se, iv la, .val .null, iv fr] [(.ref b11)] _
  refine XS.dup X40.here hx rfl (hb hby d5_91) rfl rfl ?_
  show AT p e below T40 m 92 #[rv a0, jv qn, se, iv la, .val .null, iv fr] [(.ref b11), (.ref b11)] _
  refine XS.iconst X40.here hx rfl (hb hby d5_92) ?_
  show AT p e below T40 m 93 #[rv a0, jv qn, se, iv la, .val .null, iv fr] [(.int (2 : Int32)), (.ref b11), (.ref b11)] _
  refine XS.iconst X40.here hx rfl (hb hby d5_93) ?_
  show AT p e below T40 m 94 #[rv a0, jv qn, se, iv la, .val .null, iv fr] [(.int (1 : Int32)), (.int (2 : Int32)), (.ref b11), (.ref b11)] _
  refine st53 _ ?_
  show AT p e below T53 m 95 #[rv a0, jv qn, se, iv la, .val .null, iv fr] [(.ref b11)] _
  refine XS.dup X53.here hx rfl (hb hby d5_95) rfl rfl ?_
  show AT p e below T53 m 96 #[rv a0, jv qn, se, iv la, .val .null, iv fr] [(.ref b11), (.ref b11)] _
  refine XS.iconst X53.here hx rfl (hb hby d5_96) ?_
  show AT p e below T53 m 97 #[rv a0, jv qn, se, iv la, .val .null, iv fr] [(.int (3 : Int32)), (.ref b11), (.ref b11)] _
  refine XS.iloadN X53.here hx rfl (hb hby d5_97) rfl ?_
  show AT p e below T53 m 98 #[rv a0, jv qn, se, iv la, .val .null, iv fr] [(.int la), (.int (3 : Int32)), (.ref b11), (.ref b11)] _
  refine st66 _ ?_
  show AT p e below T66 m 99 #[rv a0, jv qn, se, iv la, .val .null, iv fr] [(.ref b11)] _
  refine XS.astore X66.here hx rfl (hb hby d5_99) rfl rfl (l' := #[rv a0, jv qn, se, iv la, rv b11, iv fr]) rfl ?_
  show AT p e below T66 m 101 #[rv a0, jv qn, se, iv la, rv b11, iv fr] [] _
  refine XS.goto X66.here hx rfl (pc0 := 101) (pc' := 109) rfl (hb hby d5_101) (by decide) (by decide) ?_
  show AT p e below T66 m 109 #[rv a0, jv qn, se, iv la, rv b11, iv fr] [] _
  refine XS.aload X66.here hx rfl (hb hby d5_109) rfl rfl ?_
  show AT p e below T66 m 111 #[rv a0, jv qn, se, iv la, rv b11, iv fr] [(.ref b11)] _
  exact retOut X66 hx (t := (.array .int)) (i := .areturn) Bd.returns rfl (Or.inr (Or.inr (Or.inr (Or.inr ⟨rfl, rfl, rfl⟩)))) (hb hby d5_111) hr
 ·
  show Q5_2g Z a0 qn la wa dq es ke i0 i1 ki0 t0 fr h0 n0 _ T66.heap _
  rw [e66]
  exact ⟨b11, k11, rfl, N66, K66, V66_67, sz11⟩

theorem ef_5_2e (m : MethodId) (a0 : Addr) (qn : Int64) (la : Int32) : entryFrame m #[(.ref a0), (.long qn), (.int la)] 6 = mkF m 0 #[rv a0, jv qn, se, iv la, un, un] [] := by first | (simp [entryFrame, mkF, argsToLocals, Value.category]; done) | rfl
def Q5_2e (Z : State) (a0 : Addr) (qn : Int64) (la : Int32) (wa : Int64) (dq : Addr) (es : Addr) (ke : ClassId) (i0 : Addr) (i1 : Addr) (ki0 : ClassId) (t0 : Int64) (fr : Int32) (h0 : Heap) (n0 : Nat) (v : Option Value) (h : Heap) (L : List Loc) : Prop := ∃ (b : Addr) (kb : ClassId), v = some (.ref b) ∧ Fr n0 L ∧ Keep h0 h [] ∧ Arv Z h b kb .int (0 : Int32) [] (.int (0 : Int32)) ∧ h0.size ≤ b
set_option maxRecDepth 65536 in
set_option maxHeartbeats 40000000 in
theorem rm5_2e (l : Launch) (Z : State) (ar : Array Value) (hw : ∀ d ∈ tables_1, d.before ar Z = true) (ws : List Jvm.Cond) (a0 : Addr) (qn : Int64) (la : Int32) (wa : Int64) (dq : Addr) (es : Addr) (ke : ClassId) (i0 : Addr) (i1 : Addr) (ki0 : ClassId) (t0 : Int64) (fr : Int32) (h0 : Heap) (n0 : Nat) (O0 : Old Z n0 h0) (HW : Wd Z ) (pf0 : Exa Z h0 a0 "com/example/minderd/minderd/process/Listings") (pf1 : Fld Z h0 a0 "com/example/minderd/minderd/process/Listings" "recent" "Ljava/util/ArrayDeque;" (.ref dq)) (pf2 : Fld Z h0 a0 "com/example/minderd/minderd/process/Listings" "wholeAt" "J" (.long wa)) (pf3 : Exa Z h0 dq "java/util/ArrayDeque") (pf4 : Fld Z h0 dq "java/util/ArrayDeque" "elements" "[Ljava/lang/Object;" (.ref es)) (pf5 : Fld Z h0 dq "java/util/ArrayDeque" "head" "I" (.int (0 : Int32))) (pf6 : Fld Z h0 dq "java/util/ArrayDeque" "tail" "I" (.int (2 : Int32))) (pf7 : Arv Z h0 es ke (.object "java/lang/Object") (17 : Int32) [(.ref i0), (.ref i1)] .null) (pf8 : Exa Z h0 i0 "[J") (pf9 : Arv Z h0 i0 ki0 .long (2 : Int32) [(.long t0), (.long (fr.toInt64))] (.long (0 : Int64))) (h1 : (0 : Int32) < la) (h2 : (qn - wa) < (600000000000 : Int64)) (h3 : ¬ fr < la) (h4 : ¬ la < fr) :
    MetFree l y5 (head1 (Jvm.Cond.code y5 prog_29_method_2_code 6 (some (.array .int)) :: ws) ({ frames := 2, cells := 1, slots := 0, locals := 26 } : Room)) (fun a U => a = #[(.ref a0), (.long qn), (.int la)] ∧ Z.Warmed39 U.vm ∧ U.heap = h0) (fun _ _ _ _ _ => True) (fun _ U o U' => ∃ v L, o = .returned v ∧ Q5_2e Z a0 qn la wa dq es ke i0 i1 ki0 t0 fr h0 n0 v U'.heap L ∧ FrameEnd U o U' L ({ frames := 2, cells := 1, slots := 0, locals := 26 } : Room).cells ({ frames := 2, cells := 1, slots := 0, locals := 26 } : Room).slots) := by
 refine MetFree.of_bodySF (plainFor_of_name pn_2) hisR ?_
 intro p e s m args below meth c s₁ Bd hml0 hP hK
 obtain ⟨rfl, hZ, hh⟩ := hP
 have hx := Bd.exec
 have hby := Bd.bytes
 have hml : c.maxLocals = 6 := hml0
 have hown : s.vm.findClass "com/example/minderd/minderd/process/Listings" = some m.cls := findClass_of_methodNamed Bd.named
 have hnm := (name_of_methodNamed Bd.named Bd.method).1
 have X0 : Stand p l e ({ frames := 2, cells := 1, slots := 0, locals := 26 } : Room) s m #[(.ref a0), (.long qn), (.int la)] below meth c s₁ [] 0 0 := Stand.of_body Bd
 have e0 : s₁.heap = h0 := by rw [← hh, Bd.state]; rfl
 have N0 := Fr.nil n0
 have Z0 : n0 ≤ h0.size := Nat.le_trans (Nat.le_of_eq O0.1.symm) O0.2.1
 obtain ⟨S0, hS0⟩ : ∃ z, z = s₁.setTop (entryFrame m #[(.ref a0), (.long qn), (.int la)] 6) := ⟨_, rfl⟩
 have pre0 : ∀ tg, AT p e below s₁ m 0 #[rv a0, jv qn, se, iv la, un, un] [] tg → Steps p.tables e below S0 tg := fun tg kg => by rw [hS0]; exact castTop (ef_5_2e m a0 qn la) kg
 obtain ⟨S_MAKING_NANOS, S_WHOLE_NANOS⟩ := id HW
 obtain ⟨T1, X1, e1, st1⟩ := getF X0 hx hZ hown (host := "") (Or.inl (ow hw 26 rfl)) Via.refl e0 pf1 (g := (mkF m 4 #[rv a0, jv qn, se, iv la, .val .null, un] [(.ref a0)])) rfl rfl (hb hby d5_4)
 obtain ⟨cq2, kq2, q2a, q2b, q2c⟩ := isOf hZ e1 pf3
 obtain ⟨_, _, ⟨T2, L2, k2, n2⟩, -, X2, ⟨Lc2, hQ2, l2, y2, z2⟩, st2⟩ := X1.virtualBack hx (y := y6) (z := y6) hown (mvT hZ (ow hw 33 rfl)) (mvT hZ (ow hw 34 rfl)) (notFace_of_selects (args := #[]) (mvT hZ (ow hw 36 rfl))) (mvT hZ (ow hw 36 rfl)) (mvT hZ (ow hw 35 rfl)) (by decide) (backOf (W := 0) (rm6_2 l Z ar hw [] dq h0 n0 O0 pf5 pf6) hZ (ow hw 37 rfl) (ow hw 11 rfl) (by decide) (by decide)) q2a q2c (g := (mkF m 7 #[rv a0, jv qn, se, iv la, .val .null, un] [(.ref dq)])) rfl (by rw [hml]; rfl) (Steps.refl _) (argsL := []) (rest := []) (lenOf pd_10 rfl) rfl (by show 2 * 0 + _ ≤ _; exact Nat.le_of_eq rfl) (hb hby d5_7) (fun _ _ => ⟨rfl, e1, (by decide : 0 + 0 ≤ _), (by decide : 0 + 0 ≤ _)⟩)
 dsimp only [Pt.U, Pt.locs, Pt.cells, Pt.slots] at X2 l2 y2 z2 st2 hQ2
 subst l2 y2 z2
 obtain ⟨rfl, N2q, e2⟩ := hQ2
 have N2 := Fr.app N0 N2q
 obtain ⟨T3, X3, e3, st3⟩ := getF X2 hx hZ hown (host := "") (Or.inl (ow hw 65 rfl)) Via.refl e2 pf2 (g := (mkF m 19 #[rv a0, jv qn, se, iv la, .val .null, un] [(.ref a0), (.long qn)])) rfl rfl (hb hby d5_19)
 obtain ⟨T4, X4, e4, st4⟩ := getS2 X3 hx hZ hown (host := "") (Or.inl (ow hw 112 rfl)) Via.refl e3 (S_WHOLE_NANOS.ext O0.2) (g := (mkF m 23 #[rv a0, jv qn, se, iv la, .val .null, un] [(.long (qn - wa))])) rfl (hb hby d5_23)
 obtain ⟨T5, X5, e5, st5⟩ := getF X4 hx hZ hown (host := "") (Or.inl (ow hw 26 rfl)) Via.refl e4 pf1 (g := (mkF m 31 #[rv a0, jv qn, se, iv la, .val .null, un] [(.ref a0)])) rfl rfl (hb hby d5_31)
 obtain ⟨cq6, kq6, q6a, q6b, q6c⟩ := isOf hZ e5 pf3
 obtain ⟨_, _, ⟨T6, L6, k6, n6⟩, -, X6, ⟨Lc6, hQ6, l6, y6, z6⟩, st6⟩ := X5.virtualBack hx (y := y17) (z := y17) hown (mvT hZ (ow hw 114 rfl)) (mvT hZ (ow hw 115 rfl)) (notFace_of_selects (args := #[]) (mvT hZ (ow hw 117 rfl))) (mvT hZ (ow hw 117 rfl)) (mvT hZ (ow hw 116 rfl)) (by decide) (backOf (W := 0) (rm17_2 l Z ar hw [] dq es ke i0 i1 h0 n0 O0 pf4 pf5 pf6 pf7) hZ (ow hw 118 rfl) (ow hw 11 rfl) (by decide) (by decide)) q6a q6c (g := (mkF m 34 #[rv a0, jv qn, se, iv la, .val .null, un] [(.ref dq)])) rfl (by rw [hml]; rfl) (Steps.refl _) (argsL := []) (rest := []) (lenOf pd_7 rfl) rfl (by show 2 * 0 + _ ≤ _; exact Nat.le_of_eq rfl) (hb hby d5_34) (fun _ _ => ⟨rfl, e5, (by decide : 0 + 0 ≤ _), (by decide : 0 + 0 ≤ _)⟩)
 dsimp only [Pt.U, Pt.locs, Pt.cells, Pt.slots] at X6 l6 y6 z6 st6 hQ6
 subst l6 y6 z6
 obtain ⟨rfl, N6q, e6⟩ := hQ6
 have N6 := Fr.app N2 N6q
 obtain ⟨T7, X7, e7, st7⟩ := castY X6 hx hZ hown (ow hw 108 rfl) e6 (Ins.self pf8) (g := (mkF m 37 #[rv a0, jv qn, se, iv la, .val .null, un] [(.ref i0)])) rfl rfl (hb hby d5_37)
 obtain ⟨cl8, Ar8, q8, S8, N8, H8, G8⟩ := id pf9
 have hin8 := own_in (1 : Int32) S8 ⟨by decide, by decide⟩
 have hat8 : cl8.slots[((1 : Int32)).toNatClampNeg]? = some (.long (fr.toInt64)) := Has.at H8 hin8 rfl
 have pre9 : ∀ tg, AT p e below T7 m 43 #[rv a0, jv qn, se, iv la, .val .null, un] [(.int ((fr.toInt64).toInt32))] tg → Steps p.tables e below S0 tg := fun tg kg => pre0 tg (by
  refine XS.aconstNull X0.here hx rfl (hb hby d5_0) ?_
  show AT p e below s₁ m 1 #[rv a0, jv qn, se, iv la, un, un] [.null] _
  refine XS.astore X0.here hx rfl (hb hby d5_1) rfl rfl (l' := #[rv a0, jv qn, se, iv la, .val .null, un]) rfl ?_
  show AT p e below s₁ m 3 #[rv a0, jv qn, se, iv la, .val .null, un] [] _
  refine XS.aloadN X0.here hx rfl (hb hby d5_3) rfl rfl ?_
  show AT p e below s₁ m 4 #[rv a0, jv qn, se, iv la, .val .null, un] [(.ref a0)] _
  refine st1 _ ?_
  show AT p e below T1 m 7 #[rv a0, jv qn, se, iv la, .val .null, un] [(.ref dq)] _
  refine st2.trans ?_
  show AT p e below T2 m 10 #[rv a0, jv qn, se, iv la, .val .null, un] [(.int (0 : Int32))] _
  refine XS.ifNo X2.here hx rfl (hb hby d5_10) rfl (XT.i0_ne_f ((by decide) : (0 : Int32) = (0 : Int32))) ?_
  show AT p e below T2 m 13 #[rv a0, jv qn, se, iv la, .val .null, un] [] _
  refine XS.iloadN X2.here hx rfl (hb hby d5_13) rfl ?_
  show AT p e below T2 m 14 #[rv a0, jv qn, se, iv la, .val .null, un] [(.int la)] _
  refine XS.ifNo X2.here hx rfl (hb hby d5_14) rfl (XT.i0_le_f (h1 : (0 : Int32) < la)) ?_
  show AT p e below T2 m 17 #[rv a0, jv qn, se, iv la, .val .null, un] [] _
  refine XS.lloadN X2.here hx rfl (hb hby d5_17) rfl ?_
  show AT p e below T2 m 18 #[rv a0, jv qn, se, iv la, .val .null, un] [(.long qn)] _
  refine XS.aloadN X2.here hx rfl (hb hby d5_18) rfl rfl ?_
  show AT p e below T2 m 19 #[rv a0, jv qn, se, iv la, .val .null, un] [(.ref a0), (.long qn)] _
  refine st3 _ ?_
  show AT p e below T3 m 22 #[rv a0, jv qn, se, iv la, .val .null, un] [(.long wa), (.long qn)] _
  refine XS.lsub X3.here hx rfl (hb hby d5_22) rfl ?_
  show AT p e below T3 m 23 #[rv a0, jv qn, se, iv la, .val .null, un] [(.long (qn - wa))] _
  refine st4 _ ?_
  show AT p e below T4 m 26 #[rv a0, jv qn, se, iv la, .val .null, un] [(.long (600000000000 : Int64)), (.long (qn - wa))] _
  refine XS.lcmp X4.here hx rfl (hb hby d5_26) rfl ?_
  show AT p e below T4 m 27 #[rv a0, jv qn, se, iv la, .val .null, un] [(.int (XT.cmpL (qn - wa) (600000000000 : Int64)))] _
  refine XS.ifNo X4.here hx rfl (hb hby d5_27) rfl (XT.ll_ge_f (h2 : (qn - wa) < (600000000000 : Int64))) ?_
  show AT p e below T4 m 30 #[rv a0, jv qn, se, iv la, .val .null, un] [] _
  refine XS.aloadN X4.here hx rfl (hb hby d5_30) rfl rfl ?_
  show AT p e below T4 m 31 #[rv a0, jv qn, se, iv la, .val .null, un] [(.ref a0)] _
  refine st5 _ ?_
  show AT p e below T5 m 34 #[rv a0, jv qn, se, iv la, .val .null, un] [(.ref dq)] _
  refine st6.trans ?_
  show AT p e below T6 m 37 #[rv a0, jv qn, se, iv la, .val .null, un] [(.ref i0)] _
  refine st7 _ ?_
  show AT p e below T7 m 40 #[rv a0, jv qn, se, iv la, .val .null, un] [(.ref i0)] _
  refine XS.iconst X7.here hx rfl (hb hby d5_40) ?_
  show AT p e below T7 m 41 #[rv a0, jv qn, se, iv la, .val .null, un] [(.int (1 : Int32)), (.ref i0)] _
  refine X7.laload hx (j := (1 : Int32)) (v := (.long (fr.toInt64))) (by rw [e7]; exact Ar8.1) (State.isArrayOf_alike hZ.alike Ar8.2.1) Ar8.2.2 hin8 hat8 (g := (mkF m 41 #[rv a0, jv qn, se, iv la, .val .null, un] [(.int (1 : Int32)), (.ref i0)])) rfl rfl (hb hby d5_41) _ ?_
  show AT p e below T7 m 42 #[rv a0, jv qn, se, iv la, .val .null, un] [(.long (fr.toInt64))] _
  refine XS.l2i X7.here hx rfl (hb hby d5_42) rfl ?_
  exact kg)
 have hw10 : ((fr.toInt64).toInt32) = fr := own_id fr
 have pre10 : ∀ tg, AT p e below T7 m 43 #[rv a0, jv qn, se, iv la, .val .null, un] [(.int fr)] tg → Steps p.tables e below S0 tg := by
   have q := pre9
   rw [hw10] at q
   exact q
 obtain ⟨T11, h11, k11, X11, e11, E11, A11, B11, st11⟩ := newPE X7 hx hZ (ow hw 122 rfl) e7 (g := (mkF m 105 #[rv a0, jv qn, se, iv la, .val .null, iv fr] [(.int (0 : Int32))])) rfl (hb hby d5_105) rfl (by decide) (cap := 0) (by decide) (by decide) (by decide) (by decide) (ad := "[I") (by decide)
 obtain ⟨b11, g11⟩ : ∃ z, z = h0.size := ⟨_, rfl⟩
 rw [← g11] at A11 B11 st11
 have ne11_12 : a0 ≠ b11 := Nat.ne_of_lt (Nat.lt_of_lt_of_le (pf0).lt (Nat.le_of_eq g11.symm))
 have ne11_13 : dq ≠ b11 := Nat.ne_of_lt (Nat.lt_of_lt_of_le (pf3).lt (Nat.le_of_eq g11.symm))
 have ne11_14 : es ≠ b11 := Nat.ne_of_lt (Nat.lt_of_lt_of_le (pf7).lt (Nat.le_of_eq g11.symm))
 have ne11_15 : i0 ≠ b11 := Nat.ne_of_lt (Nat.lt_of_lt_of_le (pf8).lt (Nat.le_of_eq g11.symm))
 have gn11 : n0 ≤ b11 := Nat.le_trans (Nat.le_trans (Nat.le_of_eq O0.1.symm) O0.2.1) (Nat.le_of_eq g11.symm)
 have sz11 : h0.size ≤ b11 := Nat.le_trans (Keep.refl h0 []).1 (Nat.le_of_eq g11.symm)
 have E11_16 := pf0.ext E11
 have F11_17 := pf1.ext E11
 have F11_18 := pf2.ext E11
 have E11_19 := pf3.ext E11
 have F11_20 := pf4.ext E11
 have F11_21 := pf5.ext E11
 have F11_22 := pf6.ext E11
 have V11_23 := pf7.ext E11
 have E11_24 := pf8.ext E11
 have V11_25 := pf9.ext E11
 have K11 := (Keep.refl h0 []).ext E11
 have O11 := O0.ext E11
 have V11_26 : Arv Z h11 b11 k11 .int (0 : Int32) [] (.int (0 : Int32)) := (Arv.new A11 (by decide))
 obtain ⟨fs, hr, hrun, hended, hW, hsame⟩ := X11.leave (v := some (.ref b11)) (fun h => by rw [Bd.returns] at h; cases h)
 subst hS0
 refine ⟨_, _, pre10 _ ?_, hrun, hended, _, _, rfl, ?_, ⟨_, rfl⟩, hW, hsame.mono (by decide) (by decide)⟩
 ·
  refine XS.istore X7.here hx rfl (hb hby d5_43) rfl (l' := #[rv a0, jv qn, se, iv la, .val .null, iv fr]) rfl ?_
  show AT p e below T7 m 45 #[rv a0, jv qn, se, iv la, .val .null, iv fr] [] _
  refine XS.iload X7.here hx rfl (hb hby d5_45) rfl ?_
  show AT p e below T7 m 47 #[rv a0, jv qn, se, iv la, .val .null, iv fr] [(.int fr)] _
  refine XS.iloadN X7.here hx rfl (hb hby d5_47) rfl ?_
  show AT p e below T7 m 48 #[rv a0, jv qn, se, iv la, .val .null, iv fr] [(.int la), (.int fr)] _
  refine XS.icmpYes X7.here hx rfl (pc0 := 48) (pc' := 70) rfl (hb hby d5_48) rfl (XT.ii_ge_t (h3 : ¬ (fr < la))) (by decide) (by decide) ?_
  show AT p e below T7 m 70 #[rv a0, jv qn, se, iv la, .val .null, iv fr] [] _
  refine XS.iload X7.here hx rfl (hb hby d5_70) rfl ?_
  show AT p e below T7 m 72 #[rv a0, jv qn, se, iv la, .val .null, iv fr] [(.int fr)] _
  refine XS.iloadN X7.here hx rfl (hb hby d5_72) rfl ?_
  show AT p e below T7 m 73 #[rv a0, jv qn, se, iv la, .val .null, iv fr] [(.int la), (.int fr)] _
  refine XS.icmpYes X7.here hx rfl (pc0 := 73) (pc' := 104) rfl (hb hby d5_73) rfl (XT.ii_le_t (h4 : ¬ (la < fr))) (by decide) (by decide) ?_
  show AT p e below T7 m 104 #[rv a0, jv qn, se, iv la, .val .null, iv fr] [] _
  refine XS.iconst X7.here hx rfl (hb hby d5_104) ?_
  show AT p e below T7 m 105 #[rv a0, jv qn, se, iv la, .val .null, iv fr] [(.int (0 : Int32))] _
  refine st11 _ ?_
  show AT p e below T11 m 107 #[rv a0, jv qn, se, iv la, .val .null, iv fr] [(.ref b11)] _
  refine XS.astore X11.here hx rfl (hb hby d5_107) rfl rfl (l' := #[rv a0, jv qn, se, iv la, rv b11, iv fr]) rfl ?_
  show AT p e below T11 m 109 #[rv a0, jv qn, se, iv la, rv b11, iv fr] [] _
  refine XS.aload X11.here hx rfl (hb hby d5_109) rfl rfl ?_
  show AT p e below T11 m 111 #[rv a0, jv qn, se, iv la, rv b11, iv fr] [(.ref b11)] _
  exact retOut X11 hx (t := (.array .int)) (i := .areturn) Bd.returns rfl (Or.inr (Or.inr (Or.inr (Or.inr ⟨rfl, rfl, rfl⟩)))) (hb hby d5_111) hr
 ·
  show Q5_2e Z a0 qn la wa dq es ke i0 i1 ki0 t0 fr h0 n0 _ T11.heap _
  rw [e11]
  exact ⟨b11, k11, rfl, N6, K11, V11_26, sz11⟩

theorem d19_0 : decode method_3_code 0 = .ok (.aload_n 0, 1) := by decide +kernel
theorem d19_1 : decode method_3_code 1 = .ok (.ifnull 9, 3) := by decide +kernel
theorem d19_4 : decode method_3_code 4 = .ok (.aload_n 0, 1) := by decide +kernel
theorem d19_5 : decode method_3_code 5 = .ok (.arraylength, 1) := by decide +kernel
theorem d19_6 : decode method_3_code 6 = .ok (.iload_n 1, 1) := by decide +kernel
theorem d19_7 : decode method_3_code 7 = .ok (.if_icmp .eq 5, 3) := by decide +kernel
theorem d19_12 : decode method_3_code 12 = .ok (.iload_n 1, 1) := by decide +kernel
theorem d19_13 : decode method_3_code 13 = .ok (.iconst 2, 1) := by decide +kernel
theorem d19_14 : decode method_3_code 14 = .ok (.if_icmp .lt 19, 3) := by decide +kernel
theorem d19_33 : decode method_3_code 33 = .ok (.iload_n 1, 1) := by decide +kernel
theorem d19_34 : decode method_3_code 34 = .ok (.iconst 4, 1) := by decide +kernel
theorem d19_35 : decode method_3_code 35 = .ok (.if_icmp .lt 21, 3) := by decide +kernel
theorem d19_56 : decode method_3_code 56 = .ok (.iconst 1, 1) := by decide +kernel
theorem d19_57 : decode method_3_code 57 = .ok (.ireturn, 1) := by decide +kernel
theorem ef_19_0 (m : MethodId) (a0 : Addr) (p2 : Int32) (p3 : Int32) (p4 : Int32) (p5 : Int32) : entryFrame m #[(.ref a0), (.int (0 : Int32)), (.int p2), (.int p3), (.int p4), (.int p5)] 6 = mkF m 0 #[rv a0, iv (0 : Int32), iv p2, iv p3, iv p4, iv p5] [] := by first | (simp [entryFrame, mkF, argsToLocals, Value.category]; done) | rfl
def Q19_0 (Z : State) (a0 : Addr) (p2 : Int32) (p3 : Int32) (p4 : Int32) (p5 : Int32) (kb : ClassId) (h0 : Heap) (n0 : Nat) (v : Option Value) (h : Heap) (L : List Loc) : Prop := v = some (.int (1 : Int32)) ∧ Fr n0 L ∧ h = h0
set_option maxRecDepth 65536 in
set_option maxHeartbeats 40000000 in
theorem rm19_0 (l : Launch) (Z : State) (ar : Array Value) (hw : ∀ d ∈ tables_1, d.before ar Z = true) (ws : List Jvm.Cond) (a0 : Addr) (p2 : Int32) (p3 : Int32) (p4 : Int32) (p5 : Int32) (kb : ClassId) (h0 : Heap) (n0 : Nat) (O0 : Old Z n0 h0) (pf0 : Arv Z h0 a0 kb .int (0 : Int32) [] (.int (0 : Int32))) :
    MetFree l y19 (head1 (Jvm.Cond.code y19 method_3_code 6 (some .boolean) :: ws) ({ frames := 0, cells := 0, slots := 0, locals := 0 } : Room)) (fun a U => a = #[(.ref a0), (.int (0 : Int32)), (.int p2), (.int p3), (.int p4), (.int p5)] ∧ Z.Warmed39 U.vm ∧ U.heap = h0) (fun _ _ _ _ _ => True) (fun _ U o U' => ∃ v L, o = .returned v ∧ Q19_0 Z a0 p2 p3 p4 p5 kb h0 n0 v U'.heap L ∧ FrameEnd U o U' L ({ frames := 0, cells := 0, slots := 0, locals := 0 } : Room).cells ({ frames := 0, cells := 0, slots := 0, locals := 0 } : Room).slots) := by
 refine MetFree.of_bodySF (plainFor_of_name pn_4) hisR ?_
 intro p e s m args below meth c s₁ Bd hml0 hP hK
 obtain ⟨rfl, hZ, hh⟩ := hP
 have hx := Bd.exec
 have hby := Bd.bytes
 have hml : c.maxLocals = 6 := hml0
 have hown : s.vm.findClass "com/example/minderd/minderd/process/ListingsSpansPinLaw" = some m.cls := findClass_of_methodNamed Bd.named
 have hnm := (name_of_methodNamed Bd.named Bd.method).1
 have X0 : Stand p l e ({ frames := 0, cells := 0, slots := 0, locals := 0 } : Room) s m #[(.ref a0), (.int (0 : Int32)), (.int p2), (.int p3), (.int p4), (.int p5)] below meth c s₁ [] 0 0 := Stand.of_body Bd
 have e0 : s₁.heap = h0 := by rw [← hh, Bd.state]; rfl
 have N0 := Fr.nil n0
 have Z0 : n0 ≤ h0.size := Nat.le_trans (Nat.le_of_eq O0.1.symm) O0.2.1
 obtain ⟨S0, hS0⟩ : ∃ z, z = s₁.setTop (entryFrame m #[(.ref a0), (.int (0 : Int32)), (.int p2), (.int p3), (.int p4), (.int p5)] 6) := ⟨_, rfl⟩
 have pre0 : ∀ tg, AT p e below s₁ m 0 #[rv a0, iv (0 : Int32), iv p2, iv p3, iv p4, iv p5] [] tg → Steps p.tables e below S0 tg := fun tg kg => by rw [hS0]; exact castTop (ef_19_0 m a0 p2 p3 p4 p5) kg
 obtain ⟨cl1, Ar1, q1, S1, N1, H1, G1⟩ := id pf0
 obtain ⟨fs, hr, hrun, hended, hW, hsame⟩ := X0.leave (v := some (.int (1 : Int32))) (fun h => by rw [Bd.returns] at h; cases h)
 subst hS0
 refine ⟨_, _, pre0 _ ?_, hrun, hended, _, _, rfl, ?_, ⟨_, rfl⟩, hW, hsame.mono (by decide) (by decide)⟩
 ·
  refine XS.aloadN X0.here hx rfl (hb hby d19_0) rfl rfl ?_
  show AT p e below s₁ m 1 #[rv a0, iv (0 : Int32), iv p2, iv p3, iv p4, iv p5] [(.ref a0)] _
  refine XS.ifnullNo X0.here hx rfl (hb hby d19_1) rfl ?_
  show AT p e below s₁ m 4 #[rv a0, iv (0 : Int32), iv p2, iv p3, iv p4, iv p5] [] _
  refine XS.aloadN X0.here hx rfl (hb hby d19_4) rfl rfl ?_
  show AT p e below s₁ m 5 #[rv a0, iv (0 : Int32), iv p2, iv p3, iv p4, iv p5] [(.ref a0)] _
  refine X0.arraylength hx (by rw [e0]; exact Ar1.1) (State.isArrayOf_alike hZ.alike Ar1.2.1) (g := (mkF m 5 #[rv a0, iv (0 : Int32), iv p2, iv p3, iv p4, iv p5] [(.ref a0)])) rfl rfl (hb hby d19_5) _ ?_
  rw [len_of S1 N1]
  show AT p e below s₁ m 6 #[rv a0, iv (0 : Int32), iv p2, iv p3, iv p4, iv p5] [(.int (0 : Int32))] _
  refine XS.iloadN X0.here hx rfl (hb hby d19_6) rfl ?_
  show AT p e below s₁ m 7 #[rv a0, iv (0 : Int32), iv p2, iv p3, iv p4, iv p5] [(.int (0 : Int32)), (.int (0 : Int32))] _
  refine XS.icmpYes X0.here hx rfl (pc0 := 7) (pc' := 12) rfl (hb hby d19_7) rfl (XT.ii_eq_t ((by decide) : (0 : Int32) = (0 : Int32))) (by decide) (by decide) ?_
  show AT p e below s₁ m 12 #[rv a0, iv (0 : Int32), iv p2, iv p3, iv p4, iv p5] [] _
  refine XS.iloadN X0.here hx rfl (hb hby d19_12) rfl ?_
  show AT p e below s₁ m 13 #[rv a0, iv (0 : Int32), iv p2, iv p3, iv p4, iv p5] [(.int (0 : Int32))] _
  refine XS.iconst X0.here hx rfl (hb hby d19_13) ?_
  show AT p e below s₁ m 14 #[rv a0, iv (0 : Int32), iv p2, iv p3, iv p4, iv p5] [(.int (2 : Int32)), (.int (0 : Int32))] _
  refine XS.icmpYes X0.here hx rfl (pc0 := 14) (pc' := 33) rfl (hb hby d19_14) rfl (XT.ii_lt_t ((by decide) : (0 : Int32) < (2 : Int32))) (by decide) (by decide) ?_
  show AT p e below s₁ m 33 #[rv a0, iv (0 : Int32), iv p2, iv p3, iv p4, iv p5] [] _
  refine XS.iloadN X0.here hx rfl (hb hby d19_33) rfl ?_
  show AT p e below s₁ m 34 #[rv a0, iv (0 : Int32), iv p2, iv p3, iv p4, iv p5] [(.int (0 : Int32))] _
  refine XS.iconst X0.here hx rfl (hb hby d19_34) ?_
  show AT p e below s₁ m 35 #[rv a0, iv (0 : Int32), iv p2, iv p3, iv p4, iv p5] [(.int (4 : Int32)), (.int (0 : Int32))] _
  refine XS.icmpYes X0.here hx rfl (pc0 := 35) (pc' := 56) rfl (hb hby d19_35) rfl (XT.ii_lt_t ((by decide) : (0 : Int32) < (4 : Int32))) (by decide) (by decide) ?_
  show AT p e below s₁ m 56 #[rv a0, iv (0 : Int32), iv p2, iv p3, iv p4, iv p5] [] _
  refine XS.iconst X0.here hx rfl (hb hby d19_56) ?_
  show AT p e below s₁ m 57 #[rv a0, iv (0 : Int32), iv p2, iv p3, iv p4, iv p5] [(.int (1 : Int32))] _
  exact retN X0 hx (t := .boolean) Bd.returns (by simp) (hb hby d19_57) hr
 ·
  show Q19_0 Z a0 p2 p3 p4 p5 kb h0 n0 _ s₁.heap _
  rw [e0]
  exact ⟨rfl, N0, rfl⟩

theorem d19_17 : decode method_3_code 17 = .ok (.aload_n 0, 1) := by decide +kernel
theorem d19_18 : decode method_3_code 18 = .ok (.iconst 0, 1) := by decide +kernel
theorem d19_19 : decode method_3_code 19 = .ok (.iaload, 1) := by decide +kernel
theorem d19_20 : decode method_3_code 20 = .ok (.iload_n 2, 1) := by decide +kernel
theorem d19_21 : decode method_3_code 21 = .ok (.if_icmp .ne 10, 3) := by decide +kernel
theorem d19_24 : decode method_3_code 24 = .ok (.aload_n 0, 1) := by decide +kernel
theorem d19_25 : decode method_3_code 25 = .ok (.iconst 1, 1) := by decide +kernel
theorem d19_26 : decode method_3_code 26 = .ok (.iaload, 1) := by decide +kernel
theorem d19_27 : decode method_3_code 27 = .ok (.iload_n 3, 1) := by decide +kernel
theorem d19_28 : decode method_3_code 28 = .ok (.if_icmp .eq 5, 3) := by decide +kernel
theorem d19_31 : decode method_3_code 31 = .ok (.iconst 0, 1) := by decide +kernel
theorem d19_32 : decode method_3_code 32 = .ok (.ireturn, 1) := by decide +kernel
theorem ef_19_2 (m : MethodId) (a0 : Addr) (p2 : Int32) (p3 : Int32) (p4 : Int32) (p5 : Int32) : entryFrame m #[(.ref a0), (.int (2 : Int32)), (.int p2), (.int p3), (.int p4), (.int p5)] 6 = mkF m 0 #[rv a0, iv (2 : Int32), iv p2, iv p3, iv p4, iv p5] [] := by first | (simp [entryFrame, mkF, argsToLocals, Value.category]; done) | rfl
def f19_2 (p2 : Int32) (p3 : Int32) (x0 : Int32) (x1 : Int32) : Int32 := if x0 = p2 then (if x1 = p3 then (1 : Int32) else (0 : Int32)) else ((0 : Int32))
def Q19_2 (Z : State) (a0 : Addr) (p2 : Int32) (p3 : Int32) (p4 : Int32) (p5 : Int32) (kb : ClassId) (x0 : Int32) (x1 : Int32) (h0 : Heap) (n0 : Nat) (v : Option Value) (h : Heap) (L : List Loc) : Prop := v = some (.int (f19_2 p2 p3 x0 x1)) ∧ Fr n0 L ∧ h = h0
set_option maxRecDepth 65536 in
set_option maxHeartbeats 40000000 in
theorem rm19_2 (l : Launch) (Z : State) (ar : Array Value) (hw : ∀ d ∈ tables_1, d.before ar Z = true) (ws : List Jvm.Cond) (a0 : Addr) (p2 : Int32) (p3 : Int32) (p4 : Int32) (p5 : Int32) (kb : ClassId) (x0 : Int32) (x1 : Int32) (h0 : Heap) (n0 : Nat) (O0 : Old Z n0 h0) (pf0 : Arv Z h0 a0 kb .int (2 : Int32) [(.int x0), (.int x1)] (.int (0 : Int32))) :
    MetFree l y19 (head1 (Jvm.Cond.code y19 method_3_code 6 (some .boolean) :: ws) ({ frames := 0, cells := 0, slots := 0, locals := 0 } : Room)) (fun a U => a = #[(.ref a0), (.int (2 : Int32)), (.int p2), (.int p3), (.int p4), (.int p5)] ∧ Z.Warmed39 U.vm ∧ U.heap = h0) (fun _ _ _ _ _ => True) (fun _ U o U' => ∃ v L, o = .returned v ∧ Q19_2 Z a0 p2 p3 p4 p5 kb x0 x1 h0 n0 v U'.heap L ∧ FrameEnd U o U' L ({ frames := 0, cells := 0, slots := 0, locals := 0 } : Room).cells ({ frames := 0, cells := 0, slots := 0, locals := 0 } : Room).slots) := by
 refine MetFree.of_bodySF (plainFor_of_name pn_4) hisR ?_
 intro p e s m args below meth c s₁ Bd hml0 hP hK
 obtain ⟨rfl, hZ, hh⟩ := hP
 have hx := Bd.exec
 have hby := Bd.bytes
 have hml : c.maxLocals = 6 := hml0
 have hown : s.vm.findClass "com/example/minderd/minderd/process/ListingsSpansPinLaw" = some m.cls := findClass_of_methodNamed Bd.named
 have hnm := (name_of_methodNamed Bd.named Bd.method).1
 have X0 : Stand p l e ({ frames := 0, cells := 0, slots := 0, locals := 0 } : Room) s m #[(.ref a0), (.int (2 : Int32)), (.int p2), (.int p3), (.int p4), (.int p5)] below meth c s₁ [] 0 0 := Stand.of_body Bd
 have e0 : s₁.heap = h0 := by rw [← hh, Bd.state]; rfl
 have N0 := Fr.nil n0
 have Z0 : n0 ≤ h0.size := Nat.le_trans (Nat.le_of_eq O0.1.symm) O0.2.1
 obtain ⟨S0, hS0⟩ : ∃ z, z = s₁.setTop (entryFrame m #[(.ref a0), (.int (2 : Int32)), (.int p2), (.int p3), (.int p4), (.int p5)] 6) := ⟨_, rfl⟩
 have pre0 : ∀ tg, AT p e below s₁ m 0 #[rv a0, iv (2 : Int32), iv p2, iv p3, iv p4, iv p5] [] tg → Steps p.tables e below S0 tg := fun tg kg => by rw [hS0]; exact castTop (ef_19_2 m a0 p2 p3 p4 p5) kg
 obtain ⟨cl1, Ar1, q1, S1, N1, H1, G1⟩ := id pf0
 obtain ⟨cl2, Ar2, q2, S2, N2, H2, G2⟩ := id pf0
 have hin2 := own_in (0 : Int32) S2 ⟨by decide, by decide⟩
 have hat2 : cl2.slots[((0 : Int32)).toNatClampNeg]? = some (.int x0) := Has.at H2 hin2 rfl
 have pre3 : ∀ tg, AT p e below s₁ m 21 #[rv a0, iv (2 : Int32), iv p2, iv p3, iv p4, iv p5] [(.int p2), (.int x0)] tg → Steps p.tables e below S0 tg := fun tg kg => pre0 tg (by
  refine XS.aloadN X0.here hx rfl (hb hby d19_0) rfl rfl ?_
  show AT p e below s₁ m 1 #[rv a0, iv (2 : Int32), iv p2, iv p3, iv p4, iv p5] [(.ref a0)] _
  refine XS.ifnullNo X0.here hx rfl (hb hby d19_1) rfl ?_
  show AT p e below s₁ m 4 #[rv a0, iv (2 : Int32), iv p2, iv p3, iv p4, iv p5] [] _
  refine XS.aloadN X0.here hx rfl (hb hby d19_4) rfl rfl ?_
  show AT p e below s₁ m 5 #[rv a0, iv (2 : Int32), iv p2, iv p3, iv p4, iv p5] [(.ref a0)] _
  refine X0.arraylength hx (by rw [e0]; exact Ar1.1) (State.isArrayOf_alike hZ.alike Ar1.2.1) (g := (mkF m 5 #[rv a0, iv (2 : Int32), iv p2, iv p3, iv p4, iv p5] [(.ref a0)])) rfl rfl (hb hby d19_5) _ ?_
  rw [len_of S1 N1]
  show AT p e below s₁ m 6 #[rv a0, iv (2 : Int32), iv p2, iv p3, iv p4, iv p5] [(.int (2 : Int32))] _
  refine XS.iloadN X0.here hx rfl (hb hby d19_6) rfl ?_
  show AT p e below s₁ m 7 #[rv a0, iv (2 : Int32), iv p2, iv p3, iv p4, iv p5] [(.int (2 : Int32)), (.int (2 : Int32))] _
  refine XS.icmpYes X0.here hx rfl (pc0 := 7) (pc' := 12) rfl (hb hby d19_7) rfl (XT.ii_eq_t ((by decide) : (2 : Int32) = (2 : Int32))) (by decide) (by decide) ?_
  show AT p e below s₁ m 12 #[rv a0, iv (2 : Int32), iv p2, iv p3, iv p4, iv p5] [] _
  refine XS.iloadN X0.here hx rfl (hb hby d19_12) rfl ?_
  show AT p e below s₁ m 13 #[rv a0, iv (2 : Int32), iv p2, iv p3, iv p4, iv p5] [(.int (2 : Int32))] _
  refine XS.iconst X0.here hx rfl (hb hby d19_13) ?_
  show AT p e below s₁ m 14 #[rv a0, iv (2 : Int32), iv p2, iv p3, iv p4, iv p5] [(.int (2 : Int32)), (.int (2 : Int32))] _
  refine XS.icmpNo X0.here hx rfl (hb hby d19_14) rfl (XT.ii_lt_f ((by decide) : ¬ ((2 : Int32) < (2 : Int32)))) ?_
  show AT p e below s₁ m 17 #[rv a0, iv (2 : Int32), iv p2, iv p3, iv p4, iv p5] [] _
  refine XS.aloadN X0.here hx rfl (hb hby d19_17) rfl rfl ?_
  show AT p e below s₁ m 18 #[rv a0, iv (2 : Int32), iv p2, iv p3, iv p4, iv p5] [(.ref a0)] _
  refine XS.iconst X0.here hx rfl (hb hby d19_18) ?_
  show AT p e below s₁ m 19 #[rv a0, iv (2 : Int32), iv p2, iv p3, iv p4, iv p5] [(.int (0 : Int32)), (.ref a0)] _
  refine X0.iaload hx (j := (0 : Int32)) (v := (.int x0)) (by rw [e0]; exact Ar2.1) (State.isArrayOf_alike hZ.alike Ar2.2.1) Ar2.2.2 hin2 hat2 (g := (mkF m 19 #[rv a0, iv (2 : Int32), iv p2, iv p3, iv p4, iv p5] [(.int (0 : Int32)), (.ref a0)])) rfl rfl (hb hby d19_19) _ ?_
  show AT p e below s₁ m 20 #[rv a0, iv (2 : Int32), iv p2, iv p3, iv p4, iv p5] [(.int x0)] _
  refine XS.iloadN X0.here hx rfl (hb hby d19_20) rfl ?_
  exact kg)
 rcases Decidable.em (x0 = p2) with hc4 | hc4
 ·
  obtain ⟨cl5, Ar5, q5, S5, N5, H5, G5⟩ := id pf0
  have hin5 := own_in (1 : Int32) S5 ⟨by decide, by decide⟩
  have hat5 : cl5.slots[((1 : Int32)).toNatClampNeg]? = some (.int x1) := Has.at H5 hin5 rfl
  have pre6 : ∀ tg, AT p e below s₁ m 28 #[rv a0, iv (2 : Int32), iv p2, iv p3, iv p4, iv p5] [(.int p3), (.int x1)] tg → Steps p.tables e below S0 tg := fun tg kg => pre3 tg (by
   refine XS.icmpNo X0.here hx rfl (hb hby d19_21) rfl (XT.ii_ne_f hc4) ?_
   show AT p e below s₁ m 24 #[rv a0, iv (2 : Int32), iv p2, iv p3, iv p4, iv p5] [] _
   refine XS.aloadN X0.here hx rfl (hb hby d19_24) rfl rfl ?_
   show AT p e below s₁ m 25 #[rv a0, iv (2 : Int32), iv p2, iv p3, iv p4, iv p5] [(.ref a0)] _
   refine XS.iconst X0.here hx rfl (hb hby d19_25) ?_
   show AT p e below s₁ m 26 #[rv a0, iv (2 : Int32), iv p2, iv p3, iv p4, iv p5] [(.int (1 : Int32)), (.ref a0)] _
   refine X0.iaload hx (j := (1 : Int32)) (v := (.int x1)) (by rw [e0]; exact Ar5.1) (State.isArrayOf_alike hZ.alike Ar5.2.1) Ar5.2.2 hin5 hat5 (g := (mkF m 26 #[rv a0, iv (2 : Int32), iv p2, iv p3, iv p4, iv p5] [(.int (1 : Int32)), (.ref a0)])) rfl rfl (hb hby d19_26) _ ?_
   show AT p e below s₁ m 27 #[rv a0, iv (2 : Int32), iv p2, iv p3, iv p4, iv p5] [(.int x1)] _
   refine XS.iloadN X0.here hx rfl (hb hby d19_27) rfl ?_
   exact kg)
  rcases Decidable.em (x1 = p3) with hc7 | hc7
  ·
   obtain ⟨fs, hr, hrun, hended, hW, hsame⟩ := X0.leave (v := some (.int (1 : Int32))) (fun h => by rw [Bd.returns] at h; cases h)
   subst hS0
   refine ⟨_, _, pre6 _ ?_, hrun, hended, _, _, rfl, ?_, ⟨_, rfl⟩, hW, hsame.mono (by decide) (by decide)⟩
   ·
    refine XS.icmpYes X0.here hx rfl (pc0 := 28) (pc' := 33) rfl (hb hby d19_28) rfl (XT.ii_eq_t hc7) (by decide) (by decide) ?_
    show AT p e below s₁ m 33 #[rv a0, iv (2 : Int32), iv p2, iv p3, iv p4, iv p5] [] _
    refine XS.iloadN X0.here hx rfl (hb hby d19_33) rfl ?_
    show AT p e below s₁ m 34 #[rv a0, iv (2 : Int32), iv p2, iv p3, iv p4, iv p5] [(.int (2 : Int32))] _
    refine XS.iconst X0.here hx rfl (hb hby d19_34) ?_
    show AT p e below s₁ m 35 #[rv a0, iv (2 : Int32), iv p2, iv p3, iv p4, iv p5] [(.int (4 : Int32)), (.int (2 : Int32))] _
    refine XS.icmpYes X0.here hx rfl (pc0 := 35) (pc' := 56) rfl (hb hby d19_35) rfl (XT.ii_lt_t ((by decide) : (2 : Int32) < (4 : Int32))) (by decide) (by decide) ?_
    show AT p e below s₁ m 56 #[rv a0, iv (2 : Int32), iv p2, iv p3, iv p4, iv p5] [] _
    refine XS.iconst X0.here hx rfl (hb hby d19_56) ?_
    show AT p e below s₁ m 57 #[rv a0, iv (2 : Int32), iv p2, iv p3, iv p4, iv p5] [(.int (1 : Int32))] _
    exact retN X0 hx (t := .boolean) Bd.returns (by simp) (hb hby d19_57) hr
   ·
    show Q19_2 Z a0 p2 p3 p4 p5 kb x0 x1 h0 n0 _ s₁.heap _
    rw [e0]
    exact ⟨(by rw [f19_2, if_pos hc4, if_pos hc7]), N0, rfl⟩
  ·
   obtain ⟨fs, hr, hrun, hended, hW, hsame⟩ := X0.leave (v := some (.int (0 : Int32))) (fun h => by rw [Bd.returns] at h; cases h)
   subst hS0
   refine ⟨_, _, pre6 _ ?_, hrun, hended, _, _, rfl, ?_, ⟨_, rfl⟩, hW, hsame.mono (by decide) (by decide)⟩
   ·
    refine XS.icmpNo X0.here hx rfl (hb hby d19_28) rfl (XT.ii_eq_f hc7) ?_
    show AT p e below s₁ m 31 #[rv a0, iv (2 : Int32), iv p2, iv p3, iv p4, iv p5] [] _
    refine XS.iconst X0.here hx rfl (hb hby d19_31) ?_
    show AT p e below s₁ m 32 #[rv a0, iv (2 : Int32), iv p2, iv p3, iv p4, iv p5] [(.int (0 : Int32))] _
    exact retN X0 hx (t := .boolean) Bd.returns (by simp) (hb hby d19_32) hr
   ·
    show Q19_2 Z a0 p2 p3 p4 p5 kb x0 x1 h0 n0 _ s₁.heap _
    rw [e0]
    exact ⟨(by rw [f19_2, if_pos hc4, if_neg hc7]), N0, rfl⟩
 ·
  obtain ⟨fs, hr, hrun, hended, hW, hsame⟩ := X0.leave (v := some (.int (0 : Int32))) (fun h => by rw [Bd.returns] at h; cases h)
  subst hS0
  refine ⟨_, _, pre3 _ ?_, hrun, hended, _, _, rfl, ?_, ⟨_, rfl⟩, hW, hsame.mono (by decide) (by decide)⟩
  ·
   refine XS.icmpYes X0.here hx rfl (pc0 := 21) (pc' := 31) rfl (hb hby d19_21) rfl (XT.ii_ne_t hc4) (by decide) (by decide) ?_
   show AT p e below s₁ m 31 #[rv a0, iv (2 : Int32), iv p2, iv p3, iv p4, iv p5] [] _
   refine XS.iconst X0.here hx rfl (hb hby d19_31) ?_
   show AT p e below s₁ m 32 #[rv a0, iv (2 : Int32), iv p2, iv p3, iv p4, iv p5] [(.int (0 : Int32))] _
   exact retN X0 hx (t := .boolean) Bd.returns (by simp) (hb hby d19_32) hr
  ·
   show Q19_2 Z a0 p2 p3 p4 p5 kb x0 x1 h0 n0 _ s₁.heap _
   rw [e0]
   exact ⟨(by rw [f19_2, if_neg hc4]), N0, rfl⟩

theorem d19_38 : decode method_3_code 38 = .ok (.aload_n 0, 1) := by decide +kernel
theorem d19_39 : decode method_3_code 39 = .ok (.iconst 2, 1) := by decide +kernel
theorem d19_40 : decode method_3_code 40 = .ok (.iaload, 1) := by decide +kernel
theorem d19_41 : decode method_3_code 41 = .ok (.iload 4, 2) := by decide +kernel
theorem d19_43 : decode method_3_code 43 = .ok (.if_icmp .ne 11, 3) := by decide +kernel
theorem d19_46 : decode method_3_code 46 = .ok (.aload_n 0, 1) := by decide +kernel
theorem d19_47 : decode method_3_code 47 = .ok (.iconst 3, 1) := by decide +kernel
theorem d19_48 : decode method_3_code 48 = .ok (.iaload, 1) := by decide +kernel
theorem d19_49 : decode method_3_code 49 = .ok (.iload 5, 2) := by decide +kernel
theorem d19_51 : decode method_3_code 51 = .ok (.if_icmp .eq 5, 3) := by decide +kernel
theorem d19_54 : decode method_3_code 54 = .ok (.iconst 0, 1) := by decide +kernel
theorem d19_55 : decode method_3_code 55 = .ok (.ireturn, 1) := by decide +kernel
theorem ef_19_4 (m : MethodId) (a0 : Addr) (p2 : Int32) (p3 : Int32) (p4 : Int32) (p5 : Int32) : entryFrame m #[(.ref a0), (.int (4 : Int32)), (.int p2), (.int p3), (.int p4), (.int p5)] 6 = mkF m 0 #[rv a0, iv (4 : Int32), iv p2, iv p3, iv p4, iv p5] [] := by first | (simp [entryFrame, mkF, argsToLocals, Value.category]; done) | rfl
def f19_4 (p2 : Int32) (p3 : Int32) (p4 : Int32) (p5 : Int32) (x0 : Int32) (x1 : Int32) (x2 : Int32) (x3 : Int32) : Int32 := if x0 = p2 then (if x1 = p3 then (if x2 = p4 then (if x3 = p5 then (1 : Int32) else (0 : Int32)) else ((0 : Int32))) else ((0 : Int32))) else ((0 : Int32))
def Q19_4 (Z : State) (a0 : Addr) (p2 : Int32) (p3 : Int32) (p4 : Int32) (p5 : Int32) (kb : ClassId) (x0 : Int32) (x1 : Int32) (x2 : Int32) (x3 : Int32) (h0 : Heap) (n0 : Nat) (v : Option Value) (h : Heap) (L : List Loc) : Prop := v = some (.int (f19_4 p2 p3 p4 p5 x0 x1 x2 x3)) ∧ Fr n0 L ∧ h = h0
set_option maxRecDepth 65536 in
set_option maxHeartbeats 40000000 in
theorem rm19_4 (l : Launch) (Z : State) (ar : Array Value) (hw : ∀ d ∈ tables_1, d.before ar Z = true) (ws : List Jvm.Cond) (a0 : Addr) (p2 : Int32) (p3 : Int32) (p4 : Int32) (p5 : Int32) (kb : ClassId) (x0 : Int32) (x1 : Int32) (x2 : Int32) (x3 : Int32) (h0 : Heap) (n0 : Nat) (O0 : Old Z n0 h0) (pf0 : Arv Z h0 a0 kb .int (4 : Int32) [(.int x0), (.int x1), (.int x2), (.int x3)] (.int (0 : Int32))) :
    MetFree l y19 (head1 (Jvm.Cond.code y19 method_3_code 6 (some .boolean) :: ws) ({ frames := 0, cells := 0, slots := 0, locals := 0 } : Room)) (fun a U => a = #[(.ref a0), (.int (4 : Int32)), (.int p2), (.int p3), (.int p4), (.int p5)] ∧ Z.Warmed39 U.vm ∧ U.heap = h0) (fun _ _ _ _ _ => True) (fun _ U o U' => ∃ v L, o = .returned v ∧ Q19_4 Z a0 p2 p3 p4 p5 kb x0 x1 x2 x3 h0 n0 v U'.heap L ∧ FrameEnd U o U' L ({ frames := 0, cells := 0, slots := 0, locals := 0 } : Room).cells ({ frames := 0, cells := 0, slots := 0, locals := 0 } : Room).slots) := by
 refine MetFree.of_bodySF (plainFor_of_name pn_4) hisR ?_
 intro p e s m args below meth c s₁ Bd hml0 hP hK
 obtain ⟨rfl, hZ, hh⟩ := hP
 have hx := Bd.exec
 have hby := Bd.bytes
 have hml : c.maxLocals = 6 := hml0
 have hown : s.vm.findClass "com/example/minderd/minderd/process/ListingsSpansPinLaw" = some m.cls := findClass_of_methodNamed Bd.named
 have hnm := (name_of_methodNamed Bd.named Bd.method).1
 have X0 : Stand p l e ({ frames := 0, cells := 0, slots := 0, locals := 0 } : Room) s m #[(.ref a0), (.int (4 : Int32)), (.int p2), (.int p3), (.int p4), (.int p5)] below meth c s₁ [] 0 0 := Stand.of_body Bd
 have e0 : s₁.heap = h0 := by rw [← hh, Bd.state]; rfl
 have N0 := Fr.nil n0
 have Z0 : n0 ≤ h0.size := Nat.le_trans (Nat.le_of_eq O0.1.symm) O0.2.1
 obtain ⟨S0, hS0⟩ : ∃ z, z = s₁.setTop (entryFrame m #[(.ref a0), (.int (4 : Int32)), (.int p2), (.int p3), (.int p4), (.int p5)] 6) := ⟨_, rfl⟩
 have pre0 : ∀ tg, AT p e below s₁ m 0 #[rv a0, iv (4 : Int32), iv p2, iv p3, iv p4, iv p5] [] tg → Steps p.tables e below S0 tg := fun tg kg => by rw [hS0]; exact castTop (ef_19_4 m a0 p2 p3 p4 p5) kg
 obtain ⟨cl1, Ar1, q1, S1, N1, H1, G1⟩ := id pf0
 obtain ⟨cl2, Ar2, q2, S2, N2, H2, G2⟩ := id pf0
 have hin2 := own_in (0 : Int32) S2 ⟨by decide, by decide⟩
 have hat2 : cl2.slots[((0 : Int32)).toNatClampNeg]? = some (.int x0) := Has.at H2 hin2 rfl
 have pre3 : ∀ tg, AT p e below s₁ m 21 #[rv a0, iv (4 : Int32), iv p2, iv p3, iv p4, iv p5] [(.int p2), (.int x0)] tg → Steps p.tables e below S0 tg := fun tg kg => pre0 tg (by
  refine XS.aloadN X0.here hx rfl (hb hby d19_0) rfl rfl ?_
  show AT p e below s₁ m 1 #[rv a0, iv (4 : Int32), iv p2, iv p3, iv p4, iv p5] [(.ref a0)] _
  refine XS.ifnullNo X0.here hx rfl (hb hby d19_1) rfl ?_
  show AT p e below s₁ m 4 #[rv a0, iv (4 : Int32), iv p2, iv p3, iv p4, iv p5] [] _
  refine XS.aloadN X0.here hx rfl (hb hby d19_4) rfl rfl ?_
  show AT p e below s₁ m 5 #[rv a0, iv (4 : Int32), iv p2, iv p3, iv p4, iv p5] [(.ref a0)] _
  refine X0.arraylength hx (by rw [e0]; exact Ar1.1) (State.isArrayOf_alike hZ.alike Ar1.2.1) (g := (mkF m 5 #[rv a0, iv (4 : Int32), iv p2, iv p3, iv p4, iv p5] [(.ref a0)])) rfl rfl (hb hby d19_5) _ ?_
  rw [len_of S1 N1]
  show AT p e below s₁ m 6 #[rv a0, iv (4 : Int32), iv p2, iv p3, iv p4, iv p5] [(.int (4 : Int32))] _
  refine XS.iloadN X0.here hx rfl (hb hby d19_6) rfl ?_
  show AT p e below s₁ m 7 #[rv a0, iv (4 : Int32), iv p2, iv p3, iv p4, iv p5] [(.int (4 : Int32)), (.int (4 : Int32))] _
  refine XS.icmpYes X0.here hx rfl (pc0 := 7) (pc' := 12) rfl (hb hby d19_7) rfl (XT.ii_eq_t ((by decide) : (4 : Int32) = (4 : Int32))) (by decide) (by decide) ?_
  show AT p e below s₁ m 12 #[rv a0, iv (4 : Int32), iv p2, iv p3, iv p4, iv p5] [] _
  refine XS.iloadN X0.here hx rfl (hb hby d19_12) rfl ?_
  show AT p e below s₁ m 13 #[rv a0, iv (4 : Int32), iv p2, iv p3, iv p4, iv p5] [(.int (4 : Int32))] _
  refine XS.iconst X0.here hx rfl (hb hby d19_13) ?_
  show AT p e below s₁ m 14 #[rv a0, iv (4 : Int32), iv p2, iv p3, iv p4, iv p5] [(.int (2 : Int32)), (.int (4 : Int32))] _
  refine XS.icmpNo X0.here hx rfl (hb hby d19_14) rfl (XT.ii_lt_f ((by decide) : ¬ ((4 : Int32) < (2 : Int32)))) ?_
  show AT p e below s₁ m 17 #[rv a0, iv (4 : Int32), iv p2, iv p3, iv p4, iv p5] [] _
  refine XS.aloadN X0.here hx rfl (hb hby d19_17) rfl rfl ?_
  show AT p e below s₁ m 18 #[rv a0, iv (4 : Int32), iv p2, iv p3, iv p4, iv p5] [(.ref a0)] _
  refine XS.iconst X0.here hx rfl (hb hby d19_18) ?_
  show AT p e below s₁ m 19 #[rv a0, iv (4 : Int32), iv p2, iv p3, iv p4, iv p5] [(.int (0 : Int32)), (.ref a0)] _
  refine X0.iaload hx (j := (0 : Int32)) (v := (.int x0)) (by rw [e0]; exact Ar2.1) (State.isArrayOf_alike hZ.alike Ar2.2.1) Ar2.2.2 hin2 hat2 (g := (mkF m 19 #[rv a0, iv (4 : Int32), iv p2, iv p3, iv p4, iv p5] [(.int (0 : Int32)), (.ref a0)])) rfl rfl (hb hby d19_19) _ ?_
  show AT p e below s₁ m 20 #[rv a0, iv (4 : Int32), iv p2, iv p3, iv p4, iv p5] [(.int x0)] _
  refine XS.iloadN X0.here hx rfl (hb hby d19_20) rfl ?_
  exact kg)
 rcases Decidable.em (x0 = p2) with hc4 | hc4
 ·
  obtain ⟨cl5, Ar5, q5, S5, N5, H5, G5⟩ := id pf0
  have hin5 := own_in (1 : Int32) S5 ⟨by decide, by decide⟩
  have hat5 : cl5.slots[((1 : Int32)).toNatClampNeg]? = some (.int x1) := Has.at H5 hin5 rfl
  have pre6 : ∀ tg, AT p e below s₁ m 28 #[rv a0, iv (4 : Int32), iv p2, iv p3, iv p4, iv p5] [(.int p3), (.int x1)] tg → Steps p.tables e below S0 tg := fun tg kg => pre3 tg (by
   refine XS.icmpNo X0.here hx rfl (hb hby d19_21) rfl (XT.ii_ne_f hc4) ?_
   show AT p e below s₁ m 24 #[rv a0, iv (4 : Int32), iv p2, iv p3, iv p4, iv p5] [] _
   refine XS.aloadN X0.here hx rfl (hb hby d19_24) rfl rfl ?_
   show AT p e below s₁ m 25 #[rv a0, iv (4 : Int32), iv p2, iv p3, iv p4, iv p5] [(.ref a0)] _
   refine XS.iconst X0.here hx rfl (hb hby d19_25) ?_
   show AT p e below s₁ m 26 #[rv a0, iv (4 : Int32), iv p2, iv p3, iv p4, iv p5] [(.int (1 : Int32)), (.ref a0)] _
   refine X0.iaload hx (j := (1 : Int32)) (v := (.int x1)) (by rw [e0]; exact Ar5.1) (State.isArrayOf_alike hZ.alike Ar5.2.1) Ar5.2.2 hin5 hat5 (g := (mkF m 26 #[rv a0, iv (4 : Int32), iv p2, iv p3, iv p4, iv p5] [(.int (1 : Int32)), (.ref a0)])) rfl rfl (hb hby d19_26) _ ?_
   show AT p e below s₁ m 27 #[rv a0, iv (4 : Int32), iv p2, iv p3, iv p4, iv p5] [(.int x1)] _
   refine XS.iloadN X0.here hx rfl (hb hby d19_27) rfl ?_
   exact kg)
  rcases Decidable.em (x1 = p3) with hc7 | hc7
  ·
   obtain ⟨cl8, Ar8, q8, S8, N8, H8, G8⟩ := id pf0
   have hin8 := own_in (2 : Int32) S8 ⟨by decide, by decide⟩
   have hat8 : cl8.slots[((2 : Int32)).toNatClampNeg]? = some (.int x2) := Has.at H8 hin8 rfl
   have pre9 : ∀ tg, AT p e below s₁ m 43 #[rv a0, iv (4 : Int32), iv p2, iv p3, iv p4, iv p5] [(.int p4), (.int x2)] tg → Steps p.tables e below S0 tg := fun tg kg => pre6 tg (by
    refine XS.icmpYes X0.here hx rfl (pc0 := 28) (pc' := 33) rfl (hb hby d19_28) rfl (XT.ii_eq_t hc7) (by decide) (by decide) ?_
    show AT p e below s₁ m 33 #[rv a0, iv (4 : Int32), iv p2, iv p3, iv p4, iv p5] [] _
    refine XS.iloadN X0.here hx rfl (hb hby d19_33) rfl ?_
    show AT p e below s₁ m 34 #[rv a0, iv (4 : Int32), iv p2, iv p3, iv p4, iv p5] [(.int (4 : Int32))] _
    refine XS.iconst X0.here hx rfl (hb hby d19_34) ?_
    show AT p e below s₁ m 35 #[rv a0, iv (4 : Int32), iv p2, iv p3, iv p4, iv p5] [(.int (4 : Int32)), (.int (4 : Int32))] _
    refine XS.icmpNo X0.here hx rfl (hb hby d19_35) rfl (XT.ii_lt_f ((by decide) : ¬ ((4 : Int32) < (4 : Int32)))) ?_
    show AT p e below s₁ m 38 #[rv a0, iv (4 : Int32), iv p2, iv p3, iv p4, iv p5] [] _
    refine XS.aloadN X0.here hx rfl (hb hby d19_38) rfl rfl ?_
    show AT p e below s₁ m 39 #[rv a0, iv (4 : Int32), iv p2, iv p3, iv p4, iv p5] [(.ref a0)] _
    refine XS.iconst X0.here hx rfl (hb hby d19_39) ?_
    show AT p e below s₁ m 40 #[rv a0, iv (4 : Int32), iv p2, iv p3, iv p4, iv p5] [(.int (2 : Int32)), (.ref a0)] _
    refine X0.iaload hx (j := (2 : Int32)) (v := (.int x2)) (by rw [e0]; exact Ar8.1) (State.isArrayOf_alike hZ.alike Ar8.2.1) Ar8.2.2 hin8 hat8 (g := (mkF m 40 #[rv a0, iv (4 : Int32), iv p2, iv p3, iv p4, iv p5] [(.int (2 : Int32)), (.ref a0)])) rfl rfl (hb hby d19_40) _ ?_
    show AT p e below s₁ m 41 #[rv a0, iv (4 : Int32), iv p2, iv p3, iv p4, iv p5] [(.int x2)] _
    refine XS.iload X0.here hx rfl (hb hby d19_41) rfl ?_
    exact kg)
   rcases Decidable.em (x2 = p4) with hc10 | hc10
   ·
    obtain ⟨cl11, Ar11, q11, S11, N11, H11, G11⟩ := id pf0
    have hin11 := own_in (3 : Int32) S11 ⟨by decide, by decide⟩
    have hat11 : cl11.slots[((3 : Int32)).toNatClampNeg]? = some (.int x3) := Has.at H11 hin11 rfl
    have pre12 : ∀ tg, AT p e below s₁ m 51 #[rv a0, iv (4 : Int32), iv p2, iv p3, iv p4, iv p5] [(.int p5), (.int x3)] tg → Steps p.tables e below S0 tg := fun tg kg => pre9 tg (by
     refine XS.icmpNo X0.here hx rfl (hb hby d19_43) rfl (XT.ii_ne_f hc10) ?_
     show AT p e below s₁ m 46 #[rv a0, iv (4 : Int32), iv p2, iv p3, iv p4, iv p5] [] _
     refine XS.aloadN X0.here hx rfl (hb hby d19_46) rfl rfl ?_
     show AT p e below s₁ m 47 #[rv a0, iv (4 : Int32), iv p2, iv p3, iv p4, iv p5] [(.ref a0)] _
     refine XS.iconst X0.here hx rfl (hb hby d19_47) ?_
     show AT p e below s₁ m 48 #[rv a0, iv (4 : Int32), iv p2, iv p3, iv p4, iv p5] [(.int (3 : Int32)), (.ref a0)] _
     refine X0.iaload hx (j := (3 : Int32)) (v := (.int x3)) (by rw [e0]; exact Ar11.1) (State.isArrayOf_alike hZ.alike Ar11.2.1) Ar11.2.2 hin11 hat11 (g := (mkF m 48 #[rv a0, iv (4 : Int32), iv p2, iv p3, iv p4, iv p5] [(.int (3 : Int32)), (.ref a0)])) rfl rfl (hb hby d19_48) _ ?_
     show AT p e below s₁ m 49 #[rv a0, iv (4 : Int32), iv p2, iv p3, iv p4, iv p5] [(.int x3)] _
     refine XS.iload X0.here hx rfl (hb hby d19_49) rfl ?_
     exact kg)
    rcases Decidable.em (x3 = p5) with hc13 | hc13
    ·
     obtain ⟨fs, hr, hrun, hended, hW, hsame⟩ := X0.leave (v := some (.int (1 : Int32))) (fun h => by rw [Bd.returns] at h; cases h)
     subst hS0
     refine ⟨_, _, pre12 _ ?_, hrun, hended, _, _, rfl, ?_, ⟨_, rfl⟩, hW, hsame.mono (by decide) (by decide)⟩
     ·
      refine XS.icmpYes X0.here hx rfl (pc0 := 51) (pc' := 56) rfl (hb hby d19_51) rfl (XT.ii_eq_t hc13) (by decide) (by decide) ?_
      show AT p e below s₁ m 56 #[rv a0, iv (4 : Int32), iv p2, iv p3, iv p4, iv p5] [] _
      refine XS.iconst X0.here hx rfl (hb hby d19_56) ?_
      show AT p e below s₁ m 57 #[rv a0, iv (4 : Int32), iv p2, iv p3, iv p4, iv p5] [(.int (1 : Int32))] _
      exact retN X0 hx (t := .boolean) Bd.returns (by simp) (hb hby d19_57) hr
     ·
      show Q19_4 Z a0 p2 p3 p4 p5 kb x0 x1 x2 x3 h0 n0 _ s₁.heap _
      rw [e0]
      exact ⟨(by rw [f19_4, if_pos hc4, if_pos hc7, if_pos hc10, if_pos hc13]), N0, rfl⟩
    ·
     obtain ⟨fs, hr, hrun, hended, hW, hsame⟩ := X0.leave (v := some (.int (0 : Int32))) (fun h => by rw [Bd.returns] at h; cases h)
     subst hS0
     refine ⟨_, _, pre12 _ ?_, hrun, hended, _, _, rfl, ?_, ⟨_, rfl⟩, hW, hsame.mono (by decide) (by decide)⟩
     ·
      refine XS.icmpNo X0.here hx rfl (hb hby d19_51) rfl (XT.ii_eq_f hc13) ?_
      show AT p e below s₁ m 54 #[rv a0, iv (4 : Int32), iv p2, iv p3, iv p4, iv p5] [] _
      refine XS.iconst X0.here hx rfl (hb hby d19_54) ?_
      show AT p e below s₁ m 55 #[rv a0, iv (4 : Int32), iv p2, iv p3, iv p4, iv p5] [(.int (0 : Int32))] _
      exact retN X0 hx (t := .boolean) Bd.returns (by simp) (hb hby d19_55) hr
     ·
      show Q19_4 Z a0 p2 p3 p4 p5 kb x0 x1 x2 x3 h0 n0 _ s₁.heap _
      rw [e0]
      exact ⟨(by rw [f19_4, if_pos hc4, if_pos hc7, if_pos hc10, if_neg hc13]), N0, rfl⟩
   ·
    obtain ⟨fs, hr, hrun, hended, hW, hsame⟩ := X0.leave (v := some (.int (0 : Int32))) (fun h => by rw [Bd.returns] at h; cases h)
    subst hS0
    refine ⟨_, _, pre9 _ ?_, hrun, hended, _, _, rfl, ?_, ⟨_, rfl⟩, hW, hsame.mono (by decide) (by decide)⟩
    ·
     refine XS.icmpYes X0.here hx rfl (pc0 := 43) (pc' := 54) rfl (hb hby d19_43) rfl (XT.ii_ne_t hc10) (by decide) (by decide) ?_
     show AT p e below s₁ m 54 #[rv a0, iv (4 : Int32), iv p2, iv p3, iv p4, iv p5] [] _
     refine XS.iconst X0.here hx rfl (hb hby d19_54) ?_
     show AT p e below s₁ m 55 #[rv a0, iv (4 : Int32), iv p2, iv p3, iv p4, iv p5] [(.int (0 : Int32))] _
     exact retN X0 hx (t := .boolean) Bd.returns (by simp) (hb hby d19_55) hr
    ·
     show Q19_4 Z a0 p2 p3 p4 p5 kb x0 x1 x2 x3 h0 n0 _ s₁.heap _
     rw [e0]
     exact ⟨(by rw [f19_4, if_pos hc4, if_pos hc7, if_neg hc10]), N0, rfl⟩
  ·
   obtain ⟨fs, hr, hrun, hended, hW, hsame⟩ := X0.leave (v := some (.int (0 : Int32))) (fun h => by rw [Bd.returns] at h; cases h)
   subst hS0
   refine ⟨_, _, pre6 _ ?_, hrun, hended, _, _, rfl, ?_, ⟨_, rfl⟩, hW, hsame.mono (by decide) (by decide)⟩
   ·
    refine XS.icmpNo X0.here hx rfl (hb hby d19_28) rfl (XT.ii_eq_f hc7) ?_
    show AT p e below s₁ m 31 #[rv a0, iv (4 : Int32), iv p2, iv p3, iv p4, iv p5] [] _
    refine XS.iconst X0.here hx rfl (hb hby d19_31) ?_
    show AT p e below s₁ m 32 #[rv a0, iv (4 : Int32), iv p2, iv p3, iv p4, iv p5] [(.int (0 : Int32))] _
    exact retN X0 hx (t := .boolean) Bd.returns (by simp) (hb hby d19_32) hr
   ·
    show Q19_4 Z a0 p2 p3 p4 p5 kb x0 x1 x2 x3 h0 n0 _ s₁.heap _
    rw [e0]
    exact ⟨(by rw [f19_4, if_pos hc4, if_neg hc7]), N0, rfl⟩
 ·
  obtain ⟨fs, hr, hrun, hended, hW, hsame⟩ := X0.leave (v := some (.int (0 : Int32))) (fun h => by rw [Bd.returns] at h; cases h)
  subst hS0
  refine ⟨_, _, pre3 _ ?_, hrun, hended, _, _, rfl, ?_, ⟨_, rfl⟩, hW, hsame.mono (by decide) (by decide)⟩
  ·
   refine XS.icmpYes X0.here hx rfl (pc0 := 21) (pc' := 31) rfl (hb hby d19_21) rfl (XT.ii_ne_t hc4) (by decide) (by decide) ?_
   show AT p e below s₁ m 31 #[rv a0, iv (4 : Int32), iv p2, iv p3, iv p4, iv p5] [] _
   refine XS.iconst X0.here hx rfl (hb hby d19_31) ?_
   show AT p e below s₁ m 32 #[rv a0, iv (4 : Int32), iv p2, iv p3, iv p4, iv p5] [(.int (0 : Int32))] _
   exact retN X0 hx (t := .boolean) Bd.returns (by simp) (hb hby d19_32) hr
  ·
   show Q19_4 Z a0 p2 p3 p4 p5 kb x0 x1 x2 x3 h0 n0 _ s₁.heap _
   rw [e0]
   exact ⟨(by rw [f19_4, if_neg hc4]), N0, rfl⟩

theorem ef_0 (m : MethodId) (q0 : Int64) (p1 : Int32) (p2 : Int32) (p3 : Int32) (q4 : Int64) (p5 : Int32) : entryFrame m #[(.long q0), (.int p1), (.int p2), (.int p3), (.long q4), (.int p5)] maxLocals = mkF m 0 #[jv q0, se, iv p1, iv p2, iv p3, jv q4, se, iv p5, un, un, un, un, un, un, un, un, un, un, un, un, un, un] [] := by first | (simp [entryFrame, mkF, argsToLocals, Value.category, maxLocals]; done) | rfl
def Q0 (Z : State) (q0 : Int64) (p1 : Int32) (p2 : Int32) (p3 : Int32) (q4 : Int64) (p5 : Int32) (h0 : Heap) (n0 : Nat) (v : Option Value) (h : Heap) (L : List Loc) : Prop := v = some (.int 1) ∧ Fr n0 L
set_option maxRecDepth 65536 in
set_option maxHeartbeats 40000000 in
theorem rm0 (l : Launch) (Z : State) (ar : Array Value) (hw : ∀ d ∈ tables_1, d.before ar Z = true) (ws : List Jvm.Cond) (q0 : Int64) (p1 : Int32) (p2 : Int32) (p3 : Int32) (q4 : Int64) (p5 : Int32) (h0 : Heap) (n0 : Nat) (O0 : Old Z n0 h0) (HW : Wd Z ) :
    MetFree l x (head1 (Jvm.Cond.code x code maxLocals ret :: ws) room_1) (fun a U => a = #[(.long q0), (.int p1), (.int p2), (.int p3), (.long q4), (.int p5)] ∧ Z.Warmed39 U.vm ∧ U.heap = h0) (fun _ _ _ _ _ => True) (fun _ U o U' => ∃ v L, o = .returned v ∧ Q0 Z q0 p1 p2 p3 q4 p5 h0 n0 v U'.heap L ∧ FrameEnd U o U' L 24 192) := by
 refine MetFree.of_bodySF (plainFor_of_name pn_4) hisR ?_
 intro p e s m args below meth c s₁ Bd hml0 hP hK
 obtain ⟨rfl, hZ, hh⟩ := hP
 have hx := Bd.exec
 have hby := Bd.bytes
 have hml : c.maxLocals = 22 := hml0
 have hown : s.vm.findClass "com/example/minderd/minderd/process/ListingsSpansPinLaw" = some m.cls := findClass_of_methodNamed Bd.named
 have hnm := (name_of_methodNamed Bd.named Bd.method).1
 have X0 : Stand p l e room_1 s m #[(.long q0), (.int p1), (.int p2), (.int p3), (.long q4), (.int p5)] below meth c s₁ [] 0 0 := Stand.of_body Bd
 have e0 : s₁.heap = h0 := by rw [← hh, Bd.state]; rfl
 have N0 := Fr.nil n0
 have Z0 : n0 ≤ h0.size := Nat.le_trans (Nat.le_of_eq O0.1.symm) O0.2.1
 obtain ⟨S0, hS0⟩ : ∃ z, z = s₁.setTop (entryFrame m #[(.long q0), (.int p1), (.int p2), (.int p3), (.long q4), (.int p5)] maxLocals) := ⟨_, rfl⟩
 have pre0 : ∀ tg, AT p e below s₁ m 0 #[jv q0, se, iv p1, iv p2, iv p3, jv q4, se, iv p5, un, un, un, un, un, un, un, un, un, un, un, un, un, un] [] tg → Steps p.tables e below S0 tg := fun tg kg => by rw [hS0]; exact castTop (ef_0 m q0 p1 p2 p3 q4 p5) kg
 obtain ⟨S_MAKING_NANOS, S_WHOLE_NANOS⟩ := id HW
 have pre1 : ∀ tg, AT p e below s₁ m 4 #[jv q0, se, iv p1, iv p2, iv p3, jv q4, se, iv p5, un, un, un, un, un, un, un, un, un, un, un, un, un, un] [(.int (p3 &&& (1 : Int32)))] tg → Steps p.tables e below S0 tg := fun tg kg => pre0 tg (by
  refine XS.iload X0.here hx rfl (hb hby at_0) rfl ?_
  refine XS.iconst X0.here hx rfl (hb hby at_2) ?_
  refine XS.iand X0.here hx rfl (hb hby at_3) rfl ?_
  exact kg)
 have pre2 : ∀ tg, AT p e below s₁ m 12 #[jv q0, se, iv p1, iv p2, iv p3, jv q4, se, iv p5, un, un, un, un, un, un, un, un, un, un, un, un, un, un] [(.int (if (p3 &&& (1 : Int32)) = (0 : Int32) then (0 : Int32) else (1 : Int32)))] tg → Steps p.tables e below S0 tg := by
  intro tg kg
  rcases Decidable.em ((p3 &&& (1 : Int32)) = (0 : Int32)) with hd | hd
  ·
   simp only [if_pos hd] at kg
   exact pre1 tg (by
    refine XS.ifYes X0.here hx rfl (pc0 := 4) (pc' := 11) rfl (hb hby at_4) rfl (XT.i0_eq_t hd) (by decide) (by decide) ?_
    show AT p e below s₁ m 11 #[jv q0, se, iv p1, iv p2, iv p3, jv q4, se, iv p5, un, un, un, un, un, un, un, un, un, un, un, un, un, un] [] _
    refine XS.iconst X0.here hx rfl (hb hby at_11) ?_
    exact kg)
  ·
   simp only [if_neg hd] at kg
   exact pre1 tg (by
    refine XS.ifNo X0.here hx rfl (hb hby at_4) rfl (XT.i0_eq_f hd) ?_
    show AT p e below s₁ m 7 #[jv q0, se, iv p1, iv p2, iv p3, jv q4, se, iv p5, un, un, un, un, un, un, un, un, un, un, un, un, un, un] [] _
    refine XS.iconst X0.here hx rfl (hb hby at_7) ?_
    refine XS.goto X0.here hx rfl (pc0 := 8) (pc' := 12) rfl (hb hby at_8) (by decide) (by decide) ?_
    exact kg)
 have pre3 : ∀ tg, AT p e below s₁ m 14 #[jv q0, se, iv p1, iv p2, iv p3, jv q4, se, iv p5, iv (if (p3 &&& (1 : Int32)) = (0 : Int32) then (0 : Int32) else (1 : Int32)), un, un, un, un, un, un, un, un, un, un, un, un, un] [] tg → Steps p.tables e below S0 tg := fun tg kg => pre2 tg (by
  refine XS.istore X0.here hx rfl (hb hby at_12) rfl (l' := #[jv q0, se, iv p1, iv p2, iv p3, jv q4, se, iv p5, iv (if (p3 &&& (1 : Int32)) = (0 : Int32) then (0 : Int32) else (1 : Int32)), un, un, un, un, un, un, un, un, un, un, un, un, un]) rfl ?_
  exact kg)
 obtain ⟨lk0, hlk0⟩ : ∃ z, z = (if (p3 &&& (1 : Int32)) = (0 : Int32) then (0 : Int32) else (1 : Int32)) := ⟨_, rfl⟩
 have pre4 : ∀ tg, AT p e below s₁ m 14 #[jv q0, se, iv p1, iv p2, iv p3, jv q4, se, iv p5, iv lk0, un, un, un, un, un, un, un, un, un, un, un, un, un] [] tg → Steps p.tables e below S0 tg := by rw [hlk0]; exact pre3
 have pre5 : ∀ tg, AT p e below s₁ m 18 #[jv q0, se, iv p1, iv p2, iv p3, jv q4, se, iv p5, iv lk0, un, un, un, un, un, un, un, un, un, un, un, un, un] [(.int (p3 &&& (2 : Int32)))] tg → Steps p.tables e below S0 tg := fun tg kg => pre4 tg (by
  refine XS.iload X0.here hx rfl (hb hby at_14) rfl ?_
  refine XS.iconst X0.here hx rfl (hb hby at_16) ?_
  refine XS.iand X0.here hx rfl (hb hby at_17) rfl ?_
  exact kg)
 have pre6 : ∀ tg, AT p e below s₁ m 26 #[jv q0, se, iv p1, iv p2, iv p3, jv q4, se, iv p5, iv lk0, un, un, un, un, un, un, un, un, un, un, un, un, un] [(.int (if (p3 &&& (2 : Int32)) = (0 : Int32) then (0 : Int32) else (1 : Int32)))] tg → Steps p.tables e below S0 tg := by
  intro tg kg
  rcases Decidable.em ((p3 &&& (2 : Int32)) = (0 : Int32)) with hd | hd
  ·
   simp only [if_pos hd] at kg
   exact pre5 tg (by
    refine XS.ifYes X0.here hx rfl (pc0 := 18) (pc' := 25) rfl (hb hby at_18) rfl (XT.i0_eq_t hd) (by decide) (by decide) ?_
    show AT p e below s₁ m 25 #[jv q0, se, iv p1, iv p2, iv p3, jv q4, se, iv p5, iv lk0, un, un, un, un, un, un, un, un, un, un, un, un, un] [] _
    refine XS.iconst X0.here hx rfl (hb hby at_25) ?_
    exact kg)
  ·
   simp only [if_neg hd] at kg
   exact pre5 tg (by
    refine XS.ifNo X0.here hx rfl (hb hby at_18) rfl (XT.i0_eq_f hd) ?_
    show AT p e below s₁ m 21 #[jv q0, se, iv p1, iv p2, iv p3, jv q4, se, iv p5, iv lk0, un, un, un, un, un, un, un, un, un, un, un, un, un] [] _
    refine XS.iconst X0.here hx rfl (hb hby at_21) ?_
    refine XS.goto X0.here hx rfl (pc0 := 22) (pc' := 26) rfl (hb hby at_22) (by decide) (by decide) ?_
    exact kg)
 have pre7 : ∀ tg, AT p e below s₁ m 28 #[jv q0, se, iv p1, iv p2, iv p3, jv q4, se, iv p5, iv lk0, iv (if (p3 &&& (2 : Int32)) = (0 : Int32) then (0 : Int32) else (1 : Int32)), un, un, un, un, un, un, un, un, un, un, un, un] [] tg → Steps p.tables e below S0 tg := fun tg kg => pre6 tg (by
  refine XS.istore X0.here hx rfl (hb hby at_26) rfl (l' := #[jv q0, se, iv p1, iv p2, iv p3, jv q4, se, iv p5, iv lk0, iv (if (p3 &&& (2 : Int32)) = (0 : Int32) then (0 : Int32) else (1 : Int32)), un, un, un, un, un, un, un, un, un, un, un, un]) rfl ?_
  exact kg)
 obtain ⟨wh0, hwh0⟩ : ∃ z, z = (if (p3 &&& (2 : Int32)) = (0 : Int32) then (0 : Int32) else (1 : Int32)) := ⟨_, rfl⟩
 have pre8 : ∀ tg, AT p e below s₁ m 28 #[jv q0, se, iv p1, iv p2, iv p3, jv q4, se, iv p5, iv lk0, iv wh0, un, un, un, un, un, un, un, un, un, un, un, un] [] tg → Steps p.tables e below S0 tg := by rw [hwh0]; exact pre7
 have pre9 : ∀ tg, AT p e below s₁ m 32 #[jv q0, se, iv p1, iv p2, iv p3, jv q4, se, iv p5, iv lk0, iv wh0, un, un, un, un, un, un, un, un, un, un, un, un] [(.int (p3 &&& (4 : Int32)))] tg → Steps p.tables e below S0 tg := fun tg kg => pre8 tg (by
  refine XS.iload X0.here hx rfl (hb hby at_28) rfl ?_
  refine XS.iconst X0.here hx rfl (hb hby at_30) ?_
  refine XS.iand X0.here hx rfl (hb hby at_31) rfl ?_
  exact kg)
 have pre10 : ∀ tg, AT p e below s₁ m 40 #[jv q0, se, iv p1, iv p2, iv p3, jv q4, se, iv p5, iv lk0, iv wh0, un, un, un, un, un, un, un, un, un, un, un, un] [(.int (if (p3 &&& (4 : Int32)) = (0 : Int32) then (0 : Int32) else (1 : Int32)))] tg → Steps p.tables e below S0 tg := by
  intro tg kg
  rcases Decidable.em ((p3 &&& (4 : Int32)) = (0 : Int32)) with hd | hd
  ·
   simp only [if_pos hd] at kg
   exact pre9 tg (by
    refine XS.ifYes X0.here hx rfl (pc0 := 32) (pc' := 39) rfl (hb hby at_32) rfl (XT.i0_eq_t hd) (by decide) (by decide) ?_
    show AT p e below s₁ m 39 #[jv q0, se, iv p1, iv p2, iv p3, jv q4, se, iv p5, iv lk0, iv wh0, un, un, un, un, un, un, un, un, un, un, un, un] [] _
    refine XS.iconst X0.here hx rfl (hb hby at_39) ?_
    exact kg)
  ·
   simp only [if_neg hd] at kg
   exact pre9 tg (by
    refine XS.ifNo X0.here hx rfl (hb hby at_32) rfl (XT.i0_eq_f hd) ?_
    show AT p e below s₁ m 35 #[jv q0, se, iv p1, iv p2, iv p3, jv q4, se, iv p5, iv lk0, iv wh0, un, un, un, un, un, un, un, un, un, un, un, un] [] _
    refine XS.iconst X0.here hx rfl (hb hby at_35) ?_
    refine XS.goto X0.here hx rfl (pc0 := 36) (pc' := 40) rfl (hb hby at_36) (by decide) (by decide) ?_
    exact kg)
 have pre11 : ∀ tg, AT p e below s₁ m 42 #[jv q0, se, iv p1, iv p2, iv p3, jv q4, se, iv p5, iv lk0, iv wh0, iv (if (p3 &&& (4 : Int32)) = (0 : Int32) then (0 : Int32) else (1 : Int32)), un, un, un, un, un, un, un, un, un, un, un] [] tg → Steps p.tables e below S0 tg := fun tg kg => pre10 tg (by
  refine XS.istore X0.here hx rfl (hb hby at_40) rfl (l' := #[jv q0, se, iv p1, iv p2, iv p3, jv q4, se, iv p5, iv lk0, iv wh0, iv (if (p3 &&& (4 : Int32)) = (0 : Int32) then (0 : Int32) else (1 : Int32)), un, un, un, un, un, un, un, un, un, un, un]) rfl ?_
  exact kg)
 obtain ⟨lk1, hlk1⟩ : ∃ z, z = (if (p3 &&& (4 : Int32)) = (0 : Int32) then (0 : Int32) else (1 : Int32)) := ⟨_, rfl⟩
 have pre12 : ∀ tg, AT p e below s₁ m 42 #[jv q0, se, iv p1, iv p2, iv p3, jv q4, se, iv p5, iv lk0, iv wh0, iv lk1, un, un, un, un, un, un, un, un, un, un, un] [] tg → Steps p.tables e below S0 tg := by rw [hlk1]; exact pre11
 have pre13 : ∀ tg, AT p e below s₁ m 47 #[jv q0, se, iv p1, iv p2, iv p3, jv q4, se, iv p5, iv lk0, iv wh0, iv lk1, un, un, un, un, un, un, un, un, un, un, un] [(.int (p3 &&& (8 : Int32)))] tg → Steps p.tables e below S0 tg := fun tg kg => pre12 tg (by
  refine XS.iload X0.here hx rfl (hb hby at_42) rfl ?_
  refine XS.bipush X0.here hx rfl (hb hby at_44) ?_
  refine XS.iand X0.here hx rfl (hb hby at_46) rfl ?_
  exact kg)
 have pre14 : ∀ tg, AT p e below s₁ m 55 #[jv q0, se, iv p1, iv p2, iv p3, jv q4, se, iv p5, iv lk0, iv wh0, iv lk1, un, un, un, un, un, un, un, un, un, un, un] [(.int (if (p3 &&& (8 : Int32)) = (0 : Int32) then (0 : Int32) else (1 : Int32)))] tg → Steps p.tables e below S0 tg := by
  intro tg kg
  rcases Decidable.em ((p3 &&& (8 : Int32)) = (0 : Int32)) with hd | hd
  ·
   simp only [if_pos hd] at kg
   exact pre13 tg (by
    refine XS.ifYes X0.here hx rfl (pc0 := 47) (pc' := 54) rfl (hb hby at_47) rfl (XT.i0_eq_t hd) (by decide) (by decide) ?_
    show AT p e below s₁ m 54 #[jv q0, se, iv p1, iv p2, iv p3, jv q4, se, iv p5, iv lk0, iv wh0, iv lk1, un, un, un, un, un, un, un, un, un, un, un] [] _
    refine XS.iconst X0.here hx rfl (hb hby at_54) ?_
    exact kg)
  ·
   simp only [if_neg hd] at kg
   exact pre13 tg (by
    refine XS.ifNo X0.here hx rfl (hb hby at_47) rfl (XT.i0_eq_f hd) ?_
    show AT p e below s₁ m 50 #[jv q0, se, iv p1, iv p2, iv p3, jv q4, se, iv p5, iv lk0, iv wh0, iv lk1, un, un, un, un, un, un, un, un, un, un, un] [] _
    refine XS.iconst X0.here hx rfl (hb hby at_50) ?_
    refine XS.goto X0.here hx rfl (pc0 := 51) (pc' := 55) rfl (hb hby at_51) (by decide) (by decide) ?_
    exact kg)
 have pre15 : ∀ tg, AT p e below s₁ m 57 #[jv q0, se, iv p1, iv p2, iv p3, jv q4, se, iv p5, iv lk0, iv wh0, iv lk1, iv (if (p3 &&& (8 : Int32)) = (0 : Int32) then (0 : Int32) else (1 : Int32)), un, un, un, un, un, un, un, un, un, un] [] tg → Steps p.tables e below S0 tg := fun tg kg => pre14 tg (by
  refine XS.istore X0.here hx rfl (hb hby at_55) rfl (l' := #[jv q0, se, iv p1, iv p2, iv p3, jv q4, se, iv p5, iv lk0, iv wh0, iv lk1, iv (if (p3 &&& (8 : Int32)) = (0 : Int32) then (0 : Int32) else (1 : Int32)), un, un, un, un, un, un, un, un, un, un]) rfl ?_
  exact kg)
 obtain ⟨wh1, hwh1⟩ : ∃ z, z = (if (p3 &&& (8 : Int32)) = (0 : Int32) then (0 : Int32) else (1 : Int32)) := ⟨_, rfl⟩
 have pre16 : ∀ tg, AT p e below s₁ m 57 #[jv q0, se, iv p1, iv p2, iv p3, jv q4, se, iv p5, iv lk0, iv wh0, iv lk1, iv wh1, un, un, un, un, un, un, un, un, un, un] [] tg → Steps p.tables e below S0 tg := by rw [hwh1]; exact pre15
 have pre17 : ∀ tg, AT p e below s₁ m 66 #[jv q0, se, iv p1, iv p2, iv p3, jv q4, se, iv p5, iv lk0, iv wh0, iv lk1, iv wh1, jv (q0 + ((p3 >>> ((4 : Int32) &&& 31)).toInt64)), se, un, un, un, un, un, un, un, un] [] tg → Steps p.tables e below S0 tg := fun tg kg => pre16 tg (by
  refine XS.lloadN X0.here hx rfl (hb hby at_57) rfl ?_
  refine XS.iload X0.here hx rfl (hb hby at_58) rfl ?_
  refine XS.iconst X0.here hx rfl (hb hby at_60) ?_
  show AT p e below s₁ m 61 #[jv q0, se, iv p1, iv p2, iv p3, jv q4, se, iv p5, iv lk0, iv wh0, iv lk1, iv wh1, un, un, un, un, un, un, un, un, un, un] [(.int (4 : Int32)), (.int p3), (.long q0)] _
  refine XS.ishr X0.here hx rfl (hb hby at_61) rfl ?_
  refine XS.i2l X0.here hx rfl (hb hby at_62) rfl ?_
  refine XS.ladd X0.here hx rfl (hb hby at_63) rfl ?_
  show AT p e below s₁ m 64 #[jv q0, se, iv p1, iv p2, iv p3, jv q4, se, iv p5, iv lk0, iv wh0, iv lk1, iv wh1, un, un, un, un, un, un, un, un, un, un] [(.long (q0 + ((p3 >>> ((4 : Int32) &&& 31)).toInt64)))] _
  refine XS.lstore X0.here hx rfl (hb hby at_64) rfl (l' := #[jv q0, se, iv p1, iv p2, iv p3, jv q4, se, iv p5, iv lk0, iv wh0, iv lk1, iv wh1, jv (q0 + ((p3 >>> ((4 : Int32) &&& 31)).toInt64)), se, un, un, un, un, un, un, un, un]) rfl ?_
  exact kg)
 obtain ⟨tm1, htm1⟩ : ∃ z, z = (q0 + ((p3 >>> ((4 : Int32) &&& 31)).toInt64)) := ⟨_, rfl⟩
 have pre18 : ∀ tg, AT p e below s₁ m 66 #[jv q0, se, iv p1, iv p2, iv p3, jv q4, se, iv p5, iv lk0, iv wh0, iv lk1, iv wh1, jv tm1, se, un, un, un, un, un, un, un, un] [] tg → Steps p.tables e below S0 tg := by rw [htm1]; exact pre17
 obtain ⟨T19, h19, X19, e19, E19, A19, D19, -, st19⟩ := newO X0 hx hZ hown (ow hw 0 rfl) (ow hw 1 rfl) (ow hw 2 rfl) e0 (g := (mkF m 66 #[jv q0, se, iv p1, iv p2, iv p3, jv q4, se, iv p5, iv lk0, iv wh0, iv lk1, iv wh1, jv tm1, se, un, un, un, un, un, un, un, un] [])) rfl (hb hby at_66) (by decide) (by decide)
 obtain ⟨b19, g19⟩ : ∃ z, z = h0.size := ⟨_, rfl⟩
 rw [← g19] at A19 D19 st19
 have gn19 : n0 ≤ b19 := Nat.le_trans (Nat.le_trans (Nat.le_of_eq O0.1.symm) O0.2.1) (Nat.le_of_eq g19.symm)
 have sz19 : h0.size ≤ b19 := Nat.le_trans (Keep.refl h0 []).1 (Nat.le_of_eq g19.symm)
 have K19 := (Keep.refl h0 []).ext E19
 have O19 := O0.ext E19
 have F19_20 : Fld Z h19 b19 "com/example/minderd/minderd/process/Listings" "recent" "Ljava/util/ArrayDeque;" .null := D19 (Or.inr (ow hw 27 rfl)) (ty := (.object "java/util/ArrayDeque")) (by decide)
 have F19_21 : Fld Z h19 b19 "com/example/minderd/minderd/process/Listings" "wholeAt" "J" (.long (0 : Int64)) := D19 (Or.inl (ow hw 66 rfl)) (ty := .long) (by decide)
 obtain ⟨_, _, ⟨T22, L22, k22, n22⟩, -, X22, ⟨Lc22, hQ22, l22, y22, z22⟩, st22⟩ := X19.specialBack hx (y := y1) rfl hown (mvT hZ (ow hw 3 rfl)) (mvT hZ (ow hw 4 rfl)) (mvT hZ (ow hw 5 rfl)) (by decide) (backOf (W := 1) (rm1 l Z ar hw [] b19 h19 n0 O19 A19 F19_20 F19_21 gn19) hZ (ow hw 5 rfl) (ow hw 2 rfl) (by decide) (by decide)) (g := (mkF m 70 #[jv q0, se, iv p1, iv p2, iv p3, jv q4, se, iv p5, iv lk0, iv wh0, iv lk1, iv wh1, jv tm1, se, un, un, un, un, un, un, un, un] [(.ref b19), (.ref b19)])) rfl (by rw [hml]; rfl) (Steps.refl _) (a := b19) (argsL := []) (rest := [(.ref b19)]) (lenOf pd_0 rfl) rfl (by show 2 * 0 + _ ≤ _; exact Nat.le_of_eq rfl) (hb hby at_70) (fun _ _ => ⟨rfl, e19, (by decide : 1 + 2 ≤ _), (by decide : 2 + 20 ≤ _)⟩)
 dsimp only [Pt.U, Pt.locs, Pt.cells, Pt.slots] at X22 l22 y22 z22 st22 hQ22
 subst l22 y22 z22
 obtain ⟨dq_22, es_22, ke_22, rfl, N22q, Kq22, u22_0, u22_1, u22_2, u22_3, u22_4, u22_5, u22_6, u22_7, u22_8, u22_9, u22_10, u22_11, u22_12, u22_13⟩ := hQ22
 have N22 := Fr.app N0 N22q
 have E22_23 := A19.keep Kq22
 have K22 := K19.trans Kq22 (allS (Or.inr sz19) all0)
 have O22 := O19.keep Kq22 (allS gn19 all0)
 have sz24 : h0.size ≤ dq_22 := Nat.le_trans K19.1 u22_9
 have gn24 : n0 ≤ dq_22 := Nat.le_trans (Nat.le_trans (Nat.le_of_eq O19.1.symm) O19.2.1) u22_9
 have ne25 : b19 ≠ dq_22 := Nat.ne_of_lt (Nat.lt_of_lt_of_le (A19).lt u22_9)
 have sz26 : h0.size ≤ es_22 := Nat.le_trans K19.1 u22_10
 have gn26 : n0 ≤ es_22 := Nat.le_trans (Nat.le_trans (Nat.le_of_eq O19.1.symm) O19.2.1) u22_10
 have ne27 : b19 ≠ es_22 := Nat.ne_of_lt (Nat.lt_of_lt_of_le (A19).lt u22_10)
 have pre28 : ∀ tg, AT p e below T22 m 80 #[jv q0, se, iv p1, iv p2, iv p3, jv q4, se, iv p5, iv lk0, iv wh0, iv lk1, iv wh1, jv tm1, se, rv b19, jv (0 : Int64), se, un, un, un, un, un] [(.int lk0)] tg → Steps p.tables e below S0 tg := fun tg kg => pre18 tg (by
  refine st19 _ ?_
  refine XS.dup X19.here hx rfl (hb hby at_69) rfl rfl ?_
  refine st22.trans ?_
  show AT p e below T22 m 73 #[jv q0, se, iv p1, iv p2, iv p3, jv q4, se, iv p5, iv lk0, iv wh0, iv lk1, iv wh1, jv tm1, se, un, un, un, un, un, un, un, un] [(.ref b19)] _
  refine XS.astore X22.here hx rfl (hb hby at_73) rfl rfl (l' := #[jv q0, se, iv p1, iv p2, iv p3, jv q4, se, iv p5, iv lk0, iv wh0, iv lk1, iv wh1, jv tm1, se, rv b19, un, un, un, un, un, un, un]) rfl ?_
  refine XS.lconst X22.here hx rfl (hb hby at_75) ?_
  refine XS.lstore X22.here hx rfl (hb hby at_76) rfl (l' := #[jv q0, se, iv p1, iv p2, iv p3, jv q4, se, iv p5, iv lk0, iv wh0, iv lk1, iv wh1, jv tm1, se, rv b19, jv (0 : Int64), se, un, un, un, un, un]) rfl ?_
  show AT p e below T22 m 78 #[jv q0, se, iv p1, iv p2, iv p3, jv q4, se, iv p5, iv lk0, iv wh0, iv lk1, iv wh1, jv tm1, se, rv b19, jv (0 : Int64), se, un, un, un, un, un] [] _
  refine XS.iload X22.here hx rfl (hb hby at_78) rfl ?_
  exact kg)
 rcases Decidable.em (lk0 = (0 : Int32)) with hc29 | hc29
 ·
  have pre30 : ∀ tg, AT p e below T22 m 102 #[jv q0, se, iv p1, iv p2, iv p3, jv q4, se, iv p5, iv lk0, iv wh0, iv lk1, iv wh1, jv tm1, se, rv b19, jv (0 : Int64), se, un, un, un, un, un] [(.int lk1)] tg → Steps p.tables e below S0 tg := fun tg kg => pre28 tg (by
   refine XS.ifYes X22.here hx rfl (pc0 := 80) (pc' := 100) rfl (hb hby at_80) rfl (XT.i0_eq_t hc29) (by decide) (by decide) ?_
   refine XS.iload X22.here hx rfl (hb hby at_100) rfl ?_
   exact kg)
  rcases Decidable.em (lk1 = (0 : Int32)) with hc31 | hc31
  ·
   obtain ⟨cq32, kq32, q32a, q32b, q32c⟩ := isOf hZ rfl E22_23
   obtain ⟨_, _, ⟨T32, L32, k32, n32⟩, -, X32, ⟨Lc32, hQ32, l32, y32, z32⟩, st32⟩ := X22.virtualBack hx (y := y5) (z := y5) hown (mvT hZ (ow hw 28 rfl)) (mvT hZ (ow hw 29 rfl)) (notFace_of_selects (args := #[]) (mvT hZ (ow hw 31 rfl))) (mvT hZ (ow hw 31 rfl)) (mvT hZ (ow hw 30 rfl)) (by decide) (backOf (W := 0) (rm5_0n l Z ar hw [] b19 ((0 : Int64) + q4) p5 (0 : Int64) dq_22 es_22 ke_22 T22.heap n0 O22 E22_23 u22_1 u22_2 u22_3 u22_4 u22_5 u22_6 u22_7) hZ (ow hw 32 rfl) (ow hw 2 rfl) (by decide) (by decide)) q32a q32c (g := (mkF m 137 #[jv q0, se, iv p1, iv p2, iv p3, jv q4, se, iv p5, iv lk0, iv wh0, iv lk1, iv wh1, jv tm1, se, rv b19, jv (0 : Int64), se, jv ((0 : Int64) + q4), se, un, un, un] [(.int p5), (.long ((0 : Int64) + q4)), (.ref b19)])) rfl (by rw [hml]; rfl) (Steps.refl _) (argsL := [(.long ((0 : Int64) + q4)), (.int p5)]) (rest := []) (lenOf pd_11 rfl) rfl (by show 2 * 0 + _ ≤ _; exact Nat.le_of_eq rfl) (hb hby at_137) (fun _ _ => ⟨rfl, rfl, (by decide : 3 + 0 ≤ _), (by decide : 22 + 0 ≤ _)⟩)
   dsimp only [Pt.U, Pt.locs, Pt.cells, Pt.slots] at X32 l32 y32 z32 st32 hQ32
   subst l32 y32 z32
   obtain ⟨rfl, N32q, e32⟩ := hQ32
   have N32 := Fr.app N22 N32q
   obtain ⟨fs, hr, hrun, hended, hW, hsame⟩ := X32.leave (v := some (.int (1 : Int32))) (fun h => by rw [Bd.returns] at h; cases h)
   subst hS0
   refine ⟨_, _, pre30 _ ?_, hrun, hended, _, _, rfl, ?_, ⟨_, rfl⟩, hW, hsame.mono (by decide) (by decide)⟩
   ·
    refine XS.ifYes X22.here hx rfl (pc0 := 102) (pc' := 124) rfl (hb hby at_102) rfl (XT.i0_eq_t hc31) (by decide) (by decide) ?_
    refine XS.lload X22.here hx rfl (hb hby at_124) rfl ?_
    show AT p e below T22 m 126 #[jv q0, se, iv p1, iv p2, iv p3, jv q4, se, iv p5, iv lk0, iv wh0, iv lk1, iv wh1, jv tm1, se, rv b19, jv (0 : Int64), se, un, un, un, un, un] [(.long (0 : Int64))] _
    refine XS.lload X22.here hx rfl (hb hby at_126) rfl ?_
    refine XS.ladd X22.here hx rfl (hb hby at_128) rfl ?_
    refine XS.lstore X22.here hx rfl (hb hby at_129) rfl (l' := #[jv q0, se, iv p1, iv p2, iv p3, jv q4, se, iv p5, iv lk0, iv wh0, iv lk1, iv wh1, jv tm1, se, rv b19, jv (0 : Int64), se, jv ((0 : Int64) + q4), se, un, un, un]) rfl ?_
    show AT p e below T22 m 131 #[jv q0, se, iv p1, iv p2, iv p3, jv q4, se, iv p5, iv lk0, iv wh0, iv lk1, iv wh1, jv tm1, se, rv b19, jv (0 : Int64), se, jv ((0 : Int64) + q4), se, un, un, un] [] _
    refine XS.aload X22.here hx rfl (hb hby at_131) rfl rfl ?_
    refine XS.lload X22.here hx rfl (hb hby at_133) rfl ?_
    refine XS.iload X22.here hx rfl (hb hby at_135) rfl ?_
    show AT p e below T22 m 137 #[jv q0, se, iv p1, iv p2, iv p3, jv q4, se, iv p5, iv lk0, iv wh0, iv lk1, iv wh1, jv tm1, se, rv b19, jv (0 : Int64), se, jv ((0 : Int64) + q4), se, un, un, un] [(.int p5), (.long ((0 : Int64) + q4)), (.ref b19)] _
    refine st32.trans ?_
    refine XS.astore X32.here hx rfl (hb hby at_140) rfl rfl (l' := #[jv q0, se, iv p1, iv p2, iv p3, jv q4, se, iv p5, iv lk0, iv wh0, iv lk1, iv wh1, jv tm1, se, rv b19, jv (0 : Int64), se, jv ((0 : Int64) + q4), se, .val .null, un, un]) rfl ?_
    refine XS.iload X32.here hx rfl (hb hby at_142) rfl ?_
    show AT p e below T32 m 144 #[jv q0, se, iv p1, iv p2, iv p3, jv q4, se, iv p5, iv lk0, iv wh0, iv lk1, iv wh1, jv tm1, se, rv b19, jv (0 : Int64), se, jv ((0 : Int64) + q4), se, .val .null, un, un] [(.int lk0)] _
    refine XS.ifYes X32.here hx rfl (pc0 := 144) (pc' := 160) rfl (hb hby at_144) rfl (XT.i0_eq_t (hc29 : lk0 = (0 : Int32))) (by decide) (by decide) ?_
    show AT p e below T32 m 160 #[jv q0, se, iv p1, iv p2, iv p3, jv q4, se, iv p5, iv lk0, iv wh0, iv lk1, iv wh1, jv tm1, se, rv b19, jv (0 : Int64), se, jv ((0 : Int64) + q4), se, .val .null, un, un] [] _
    refine XS.iload X32.here hx rfl (hb hby at_160) rfl ?_
    show AT p e below T32 m 162 #[jv q0, se, iv p1, iv p2, iv p3, jv q4, se, iv p5, iv lk0, iv wh0, iv lk1, iv wh1, jv tm1, se, rv b19, jv (0 : Int64), se, jv ((0 : Int64) + q4), se, .val .null, un, un] [(.int lk1)] _
    refine XS.ifYes X32.here hx rfl (pc0 := 162) (pc' := 178) rfl (hb hby at_162) rfl (XT.i0_eq_t (hc31 : lk1 = (0 : Int32))) (by decide) (by decide) ?_
    refine XS.iconst X32.here hx rfl (hb hby at_178) ?_
    refine XS.istore X32.here hx rfl (hb hby at_179) rfl (l' := #[jv q0, se, iv p1, iv p2, iv p3, jv q4, se, iv p5, iv lk0, iv wh0, iv lk1, iv wh1, jv tm1, se, rv b19, jv (0 : Int64), se, jv ((0 : Int64) + q4), se, .val .null, iv (0 : Int32), un]) rfl ?_
    show AT p e below T32 m 181 #[jv q0, se, iv p1, iv p2, iv p3, jv q4, se, iv p5, iv lk0, iv wh0, iv lk1, iv wh1, jv tm1, se, rv b19, jv (0 : Int64), se, jv ((0 : Int64) + q4), se, .val .null, iv (0 : Int32), un] [] _
    refine XS.iconst X32.here hx rfl (hb hby at_181) ?_
    refine XS.istore X32.here hx rfl (hb hby at_182) rfl (l' := #[jv q0, se, iv p1, iv p2, iv p3, jv q4, se, iv p5, iv lk0, iv wh0, iv lk1, iv wh1, jv tm1, se, rv b19, jv (0 : Int64), se, jv ((0 : Int64) + q4), se, .val .null, iv (0 : Int32), iv (0 : Int32)]) rfl ?_
    refine XS.iload X32.here hx rfl (hb hby at_184) rfl ?_
    show AT p e below T32 m 186 #[jv q0, se, iv p1, iv p2, iv p3, jv q4, se, iv p5, iv lk0, iv wh0, iv lk1, iv wh1, jv tm1, se, rv b19, jv (0 : Int64), se, jv ((0 : Int64) + q4), se, .val .null, iv (0 : Int32), iv (0 : Int32)] [(.int (0 : Int32))] _
    refine XS.ifYes X32.here hx rfl (pc0 := 186) (pc' := 203) rfl (hb hby at_186) rfl (XT.i0_eq_t ((by decide) : (0 : Int32) = (0 : Int32))) (by decide) (by decide) ?_
    show AT p e below T32 m 203 #[jv q0, se, iv p1, iv p2, iv p3, jv q4, se, iv p5, iv lk0, iv wh0, iv lk1, iv wh1, jv tm1, se, rv b19, jv (0 : Int64), se, jv ((0 : Int64) + q4), se, .val .null, iv (0 : Int32), iv (0 : Int32)] [] _
    refine XS.aload X32.here hx rfl (hb hby at_203) rfl rfl ?_
    show AT p e below T32 m 205 #[jv q0, se, iv p1, iv p2, iv p3, jv q4, se, iv p5, iv lk0, iv wh0, iv lk1, iv wh1, jv tm1, se, rv b19, jv (0 : Int64), se, jv ((0 : Int64) + q4), se, .val .null, iv (0 : Int32), iv (0 : Int32)] [.null] _
    refine XS.ifnonnullNo X32.here hx rfl (hb hby at_205) rfl ?_
    refine XS.iconst X32.here hx rfl (hb hby at_208) ?_
    refine XS.goto X32.here hx rfl (pc0 := 209) (pc' := 213) rfl (hb hby at_209) (by decide) (by decide) ?_
    show AT p e below T32 m 213 #[jv q0, se, iv p1, iv p2, iv p3, jv q4, se, iv p5, iv lk0, iv wh0, iv lk1, iv wh1, jv tm1, se, rv b19, jv (0 : Int64), se, jv ((0 : Int64) + q4), se, .val .null, iv (0 : Int32), iv (0 : Int32)] [(.int (1 : Int32))] _
    exact retN X32 hx (t := .boolean) Bd.returns (by simp) (hb hby at_213) hr
   ·
    show Q0 Z q0 p1 p2 p3 q4 p5 h0 n0 _ T32.heap _
    rw [e32]
    exact ⟨rfl, N32⟩
  ·
   have pre33 : ∀ tg, AT p e below T22 m 105 #[jv q0, se, iv p1, iv p2, iv p3, jv q4, se, iv p5, iv lk0, iv wh0, iv lk1, iv wh1, jv tm1, se, rv b19, jv (0 : Int64), se, un, un, un, un, un] [] tg → Steps p.tables e below S0 tg := fun tg kg => pre30 tg (by
    refine XS.ifNo X22.here hx rfl (hb hby at_102) rfl (XT.i0_eq_f hc31) ?_
    exact kg)
   rcases Decidable.em ((0 : Int32) < p2) with hc34 | hc34
   ·
    obtain ⟨cq35, kq35, q35a, q35b, q35c⟩ := isOf hZ rfl E22_23
    obtain ⟨_, _, ⟨T35, L35, k35, n35⟩, -, X35, ⟨Lc35, hQ35, l35, y35, z35⟩, st35⟩ := X22.virtualBack hx (y := y7) (z := y7) hown (mvT hZ (ow hw 42 rfl)) (mvT hZ (ow hw 43 rfl)) (notFace_of_selects (args := #[]) (mvT hZ (ow hw 45 rfl))) (mvT hZ (ow hw 45 rfl)) (mvT hZ (ow hw 44 rfl)) (by decide) (backOf (W := 0) (rm7_01 l Z ar hw [] b19 tm1 p2 wh1 (0 : Int64) dq_22 es_22 ke_22 T22.heap n0 O22 E22_23 u22_2 u22_1 u22_3 u22_4 u22_5 u22_6 u22_7 u22_8 gn19 gn24 gn26 u22_11 u22_12 u22_13 hc34) hZ (ow hw 46 rfl) (ow hw 2 rfl) (by decide) (by decide)) q35a q35c (g := (mkF m 112 #[jv q0, se, iv p1, iv p2, iv p3, jv q4, se, iv p5, iv lk0, iv wh0, iv lk1, iv wh1, jv tm1, se, rv b19, jv (0 : Int64), se, un, un, un, un, un] [(.int wh1), (.int p2), (.long tm1), (.ref b19)])) rfl (by rw [hml]; rfl) (Steps.refl _) (argsL := [(.long tm1), (.int p2), (.int wh1)]) (rest := []) (lenOf pd_12 rfl) rfl (by show 2 * 0 + _ ≤ _; exact Nat.le_of_eq rfl) (hb hby at_112) (fun _ _ => ⟨rfl, rfl, (by decide : 3 + 1 ≤ _), (by decide : 22 + 2 ≤ _)⟩)
    dsimp only [Pt.U, Pt.locs, Pt.cells, Pt.slots] at X35 l35 y35 z35 st35 hQ35
    subst l35 y35 z35
    obtain ⟨nw_35, kn_35, rfl, N35q, Kq35, u35_0, u35_1, u35_2, u35_3, u35_4, u35_5, u35_6, u35_7, u35_8, u35_9⟩ := hQ35
    have N35 := Fr.app N22 N35q
    have E35_36 := E22_23.keep Kq35
    have E35_37 := u22_3.keep Kq35
    have K35 := K22.trans Kq35 (allS (Or.inr sz19) (allS (Or.inr sz24) (allS (Or.inr sz26) all0)))
    have O35 := O22.keep Kq35 (allS gn19 (allS gn24 (allS gn26 all0)))
    have sz38 : h0.size ≤ nw_35 := Nat.le_trans K22.1 u35_9
    have gn38 : n0 ≤ nw_35 := Nat.le_trans (Nat.le_trans (Nat.le_of_eq O22.1.symm) O22.2.1) u35_9
    have ne39 : b19 ≠ nw_35 := Nat.ne_of_lt (Nat.lt_of_lt_of_le (E22_23).lt u35_9)
    have ne40 : dq_22 ≠ nw_35 := Nat.ne_of_lt (Nat.lt_of_lt_of_le (u22_3).lt u35_9)
    have ne41 : es_22 ≠ nw_35 := Nat.ne_of_lt (Nat.lt_of_lt_of_le (u22_7).lt u35_9)
    have pre42 : ∀ tg, AT p e below T35 m 117 #[jv q0, se, iv p1, iv p2, iv p3, jv q4, se, iv p5, iv lk0, iv wh0, iv lk1, iv wh1, jv tm1, se, rv b19, jv (0 : Int64), se, un, un, un, un, un] [(.int wh1)] tg → Steps p.tables e below S0 tg := fun tg kg => pre33 tg (by
     refine XS.aload X22.here hx rfl (hb hby at_105) rfl rfl ?_
     refine XS.lload X22.here hx rfl (hb hby at_107) rfl ?_
     refine XS.iloadN X22.here hx rfl (hb hby at_109) rfl ?_
     show AT p e below T22 m 110 #[jv q0, se, iv p1, iv p2, iv p3, jv q4, se, iv p5, iv lk0, iv wh0, iv lk1, iv wh1, jv tm1, se, rv b19, jv (0 : Int64), se, un, un, un, un, un] [(.int p2), (.long tm1), (.ref b19)] _
     refine XS.iload X22.here hx rfl (hb hby at_110) rfl ?_
     refine st35.trans ?_
     refine XS.iload X35.here hx rfl (hb hby at_115) rfl ?_
     exact kg)
    have pre43 : ∀ tg, AT p e below T35 m 124 #[jv q0, se, iv p1, iv p2, iv p3, jv q4, se, iv p5, iv lk0, iv wh0, iv lk1, iv wh1, jv tm1, se, rv b19, jv (if wh1 = (0 : Int32) then (0 : Int64) else tm1), se, un, un, un, un, un] [] tg → Steps p.tables e below S0 tg := by
     intro tg kg
     rcases Decidable.em (wh1 = (0 : Int32)) with hd | hd
     ·
      simp only [if_pos hd] at kg
      exact pre42 tg (by
       refine XS.ifYes X35.here hx rfl (pc0 := 117) (pc' := 124) rfl (hb hby at_117) rfl (XT.i0_eq_t hd) (by decide) (by decide) ?_
       exact kg)
     ·
      simp only [if_neg hd] at kg
      exact pre42 tg (by
       refine XS.ifNo X35.here hx rfl (hb hby at_117) rfl (XT.i0_eq_f hd) ?_
       show AT p e below T35 m 120 #[jv q0, se, iv p1, iv p2, iv p3, jv q4, se, iv p5, iv lk0, iv wh0, iv lk1, iv wh1, jv tm1, se, rv b19, jv (0 : Int64), se, un, un, un, un, un] [] _
       refine XS.lload X35.here hx rfl (hb hby at_120) rfl ?_
       refine XS.lstore X35.here hx rfl (hb hby at_122) rfl (l' := #[jv q0, se, iv p1, iv p2, iv p3, jv q4, se, iv p5, iv lk0, iv wh0, iv lk1, iv wh1, jv tm1, se, rv b19, jv tm1, se, un, un, un, un, un]) rfl ?_
       exact kg)
    have pre44 : ∀ tg, AT p e below T35 m 131 #[jv q0, se, iv p1, iv p2, iv p3, jv q4, se, iv p5, iv lk0, iv wh0, iv lk1, iv wh1, jv tm1, se, rv b19, jv (if wh1 = (0 : Int32) then (0 : Int64) else tm1), se, jv ((if wh1 = (0 : Int32) then (0 : Int64) else tm1) + q4), se, un, un, un] [] tg → Steps p.tables e below S0 tg := fun tg kg => pre43 tg (by
     refine XS.lload X35.here hx rfl (hb hby at_124) rfl ?_
     refine XS.lload X35.here hx rfl (hb hby at_126) rfl ?_
     refine XS.ladd X35.here hx rfl (hb hby at_128) rfl ?_
     show AT p e below T35 m 129 #[jv q0, se, iv p1, iv p2, iv p3, jv q4, se, iv p5, iv lk0, iv wh0, iv lk1, iv wh1, jv tm1, se, rv b19, jv (if wh1 = (0 : Int32) then (0 : Int64) else tm1), se, un, un, un, un, un] [(.long ((if wh1 = (0 : Int32) then (0 : Int64) else tm1) + q4))] _
     refine XS.lstore X35.here hx rfl (hb hby at_129) rfl (l' := #[jv q0, se, iv p1, iv p2, iv p3, jv q4, se, iv p5, iv lk0, iv wh0, iv lk1, iv wh1, jv tm1, se, rv b19, jv (if wh1 = (0 : Int32) then (0 : Int64) else tm1), se, jv ((if wh1 = (0 : Int32) then (0 : Int64) else tm1) + q4), se, un, un, un]) rfl ?_
     exact kg)
    rcases Decidable.em ((0 : Int32) < p5) with hc45 | hc45
    ·
     rcases Decidable.em (q4 < (600000000000 : Int64)) with hc46 | hc46
     ·
      rcases Decidable.em (p2 < p5) with hc47 | hc47
      ·
       obtain ⟨cq48, kq48, q48a, q48b, q48c⟩ := isOf hZ rfl E35_36
       obtain ⟨_, _, ⟨T48, L48, k48, n48⟩, -, X48, ⟨Lc48, hQ48, l48, y48, z48⟩, st48⟩ := X35.virtualBack hx (y := y5) (z := y5) hown (mvT hZ (ow hw 28 rfl)) (mvT hZ (ow hw 29 rfl)) (notFace_of_selects (args := #[]) (mvT hZ (ow hw 31 rfl))) (mvT hZ (ow hw 31 rfl)) (mvT hZ (ow hw 30 rfl)) (by decide) (backOf (W := 0) (rm5_1l l Z ar hw [] b19 ((if wh1 = (0 : Int32) then (0 : Int64) else tm1) + q4) p5 (if wh1 = (0 : Int32) then (0 : Int64) else tm1) dq_22 es_22 ke_22 nw_35 kn_35 tm1 p2 T35.heap n0 O35 HW E35_36 u35_2 u35_1 E35_37 u35_3 u35_4 u35_5 u35_6 u35_7 u35_8 hc45 (by rw [own_wd]; exact hc46) hc47) hZ (ow hw 32 rfl) (ow hw 2 rfl) (by decide) (by decide)) q48a q48c (g := (mkF m 137 #[jv q0, se, iv p1, iv p2, iv p3, jv q4, se, iv p5, iv lk0, iv wh0, iv lk1, iv wh1, jv tm1, se, rv b19, jv (if wh1 = (0 : Int32) then (0 : Int64) else tm1), se, jv ((if wh1 = (0 : Int32) then (0 : Int64) else tm1) + q4), se, un, un, un] [(.int p5), (.long ((if wh1 = (0 : Int32) then (0 : Int64) else tm1) + q4)), (.ref b19)])) rfl (by rw [hml]; rfl) (Steps.refl _) (argsL := [(.long ((if wh1 = (0 : Int32) then (0 : Int64) else tm1) + q4)), (.int p5)]) (rest := []) (lenOf pd_11 rfl) rfl (by show 2 * 0 + _ ≤ _; exact Nat.le_of_eq rfl) (hb hby at_137) (fun _ _ => ⟨rfl, rfl, (by decide : 4 + 1 ≤ _), (by decide : 24 + 2 ≤ _)⟩)
       dsimp only [Pt.U, Pt.locs, Pt.cells, Pt.slots] at X48 l48 y48 z48 st48 hQ48
       subst l48 y48 z48
       obtain ⟨b_48, kb_48, rfl, N48q, Kq48, u48_0, u48_1⟩ := hQ48
       have N48 := Fr.app N35 N48q
       have E48_49 := E35_36.keep Kq48
       have E48_50 := E35_37.keep Kq48
       have F48_51 := u35_1.keep Kq48 nin0
       have F48_52 := u35_2.keep Kq48 nin0
       have F48_53 := u35_3.keep Kq48 nin0
       have F48_54 := u35_4.keep Kq48 nin0
       have F48_55 := u35_5.keep Kq48 nin0
       have V48_56 := u35_6.keep Kq48 nin0
       have E48_57 := u35_7.keep Kq48
       have V48_58 := u35_8.keep Kq48 nin0
       have K48 := K35.trans Kq48 all0
       have O48 := O35.keep Kq48 all0
       have sz59 : h0.size ≤ b_48 := Nat.le_trans K35.1 u48_1
       have gn59 : n0 ≤ b_48 := Nat.le_trans (Nat.le_trans (Nat.le_of_eq O35.1.symm) O35.2.1) u48_1
       have ne60 : b19 ≠ b_48 := Nat.ne_of_lt (Nat.lt_of_lt_of_le (E35_36).lt u48_1)
       have ne61 : dq_22 ≠ b_48 := Nat.ne_of_lt (Nat.lt_of_lt_of_le (E35_37).lt u48_1)
       have ne62 : es_22 ≠ b_48 := Nat.ne_of_lt (Nat.lt_of_lt_of_le (u35_6).lt u48_1)
       have ne63 : nw_35 ≠ b_48 := Nat.ne_of_lt (Nat.lt_of_lt_of_le (u35_7).lt u48_1)
       obtain ⟨_, _, ⟨T64, L64, k64, n64⟩, -, X64, ⟨Lc64, hQ64, l64, y64, z64⟩, st64⟩ := Jvm.LawKit.callS X48 hx (y := y19) hown (mvT hZ (ow hw 124 rfl)) (mvT hZ (ow hw 125 rfl)) (mvT hZ (ow hw 126 rfl)) (mvT hZ (ow hw 127 rfl)) (by decide) (backOf (W := 0) (rm19_2 l Z ar hw [] b_48 (p2 + (1 : Int32)) p5 (0 : Int32) (0 : Int32) kb_48 (p2 + (1 : Int32)) p5 T48.heap n0 O48 u48_0) hZ (ow hw 127 rfl) (ow hw 126 rfl) (by decide) (by decide)) (g := (mkF m 232 #[jv q0, se, iv p1, iv p2, iv p3, jv q4, se, iv p5, iv lk0, iv wh0, iv lk1, iv wh1, jv tm1, se, rv b19, jv (if wh1 = (0 : Int32) then (0 : Int64) else tm1), se, jv ((if wh1 = (0 : Int32) then (0 : Int64) else tm1) + q4), se, rv b_48, iv (1 : Int32), iv p2] [(.int (0 : Int32)), (.int (0 : Int32)), (.int p5), (.int (p2 + (1 : Int32))), (.int (2 : Int32)), (.ref b_48)])) rfl (by rw [hml]; rfl) (argsL := [(.ref b_48), (.int (2 : Int32)), (.int (p2 + (1 : Int32))), (.int p5), (.int (0 : Int32)), (.int (0 : Int32))]) (rest := []) (lenOf pd_13 rfl) rfl (by show 2 * 0 + _ ≤ _; exact Nat.le_of_eq rfl) (hb hby at_232) (fun _ _ => ⟨rfl, rfl, (by decide : 5 + 0 ≤ _), (by decide : 26 + 0 ≤ _)⟩)
       dsimp only [Pt.U, Pt.locs, Pt.cells, Pt.slots] at X64 l64 y64 z64 st64 hQ64
       subst l64 y64 z64
       obtain ⟨rfl, N64q, e64⟩ := hQ64
       have N64 := Fr.app N48 N64q
       have r64 : (f19_2 (p2 + (1 : Int32)) p5 (p2 + (1 : Int32)) p5) = (1 : Int32) := by rw [f19_2, if_pos (rfl : (p2 + (1 : Int32)) = (p2 + (1 : Int32))), if_pos (rfl : p5 = p5)] <;> decide
       rw [r64] at st64
       obtain ⟨fs, hr, hrun, hended, hW, hsame⟩ := X64.leave (v := some (.int (1 : Int32))) (fun h => by rw [Bd.returns] at h; cases h)
       subst hS0
       refine ⟨_, _, pre44 _ ?_, hrun, hended, _, _, rfl, ?_, ⟨_, rfl⟩, hW, hsame.mono (by decide) (by decide)⟩
       ·
        refine XS.aload X35.here hx rfl (hb hby at_131) rfl rfl ?_
        refine XS.lload X35.here hx rfl (hb hby at_133) rfl ?_
        refine XS.iload X35.here hx rfl (hb hby at_135) rfl ?_
        show AT p e below T35 m 137 #[jv q0, se, iv p1, iv p2, iv p3, jv q4, se, iv p5, iv lk0, iv wh0, iv lk1, iv wh1, jv tm1, se, rv b19, jv (if wh1 = (0 : Int32) then (0 : Int64) else tm1), se, jv ((if wh1 = (0 : Int32) then (0 : Int64) else tm1) + q4), se, un, un, un] [(.int p5), (.long ((if wh1 = (0 : Int32) then (0 : Int64) else tm1) + q4)), (.ref b19)] _
        refine st48.trans ?_
        refine XS.astore X48.here hx rfl (hb hby at_140) rfl rfl (l' := #[jv q0, se, iv p1, iv p2, iv p3, jv q4, se, iv p5, iv lk0, iv wh0, iv lk1, iv wh1, jv tm1, se, rv b19, jv (if wh1 = (0 : Int32) then (0 : Int64) else tm1), se, jv ((if wh1 = (0 : Int32) then (0 : Int64) else tm1) + q4), se, rv b_48, un, un]) rfl ?_
        refine XS.iload X48.here hx rfl (hb hby at_142) rfl ?_
        show AT p e below T48 m 144 #[jv q0, se, iv p1, iv p2, iv p3, jv q4, se, iv p5, iv lk0, iv wh0, iv lk1, iv wh1, jv tm1, se, rv b19, jv (if wh1 = (0 : Int32) then (0 : Int64) else tm1), se, jv ((if wh1 = (0 : Int32) then (0 : Int64) else tm1) + q4), se, rv b_48, un, un] [(.int lk0)] _
        refine XS.ifYes X48.here hx rfl (pc0 := 144) (pc' := 160) rfl (hb hby at_144) rfl (XT.i0_eq_t (hc29 : lk0 = (0 : Int32))) (by decide) (by decide) ?_
        show AT p e below T48 m 160 #[jv q0, se, iv p1, iv p2, iv p3, jv q4, se, iv p5, iv lk0, iv wh0, iv lk1, iv wh1, jv tm1, se, rv b19, jv (if wh1 = (0 : Int32) then (0 : Int64) else tm1), se, jv ((if wh1 = (0 : Int32) then (0 : Int64) else tm1) + q4), se, rv b_48, un, un] [] _
        refine XS.iload X48.here hx rfl (hb hby at_160) rfl ?_
        show AT p e below T48 m 162 #[jv q0, se, iv p1, iv p2, iv p3, jv q4, se, iv p5, iv lk0, iv wh0, iv lk1, iv wh1, jv tm1, se, rv b19, jv (if wh1 = (0 : Int32) then (0 : Int64) else tm1), se, jv ((if wh1 = (0 : Int32) then (0 : Int64) else tm1) + q4), se, rv b_48, un, un] [(.int lk1)] _
        refine XS.ifNo X48.here hx rfl (hb hby at_162) rfl (XT.i0_eq_f (hc31 : ¬ (lk1 = (0 : Int32)))) ?_
        refine XS.iloadN X48.here hx rfl (hb hby at_165) rfl ?_
        show AT p e below T48 m 166 #[jv q0, se, iv p1, iv p2, iv p3, jv q4, se, iv p5, iv lk0, iv wh0, iv lk1, iv wh1, jv tm1, se, rv b19, jv (if wh1 = (0 : Int32) then (0 : Int64) else tm1), se, jv ((if wh1 = (0 : Int32) then (0 : Int64) else tm1) + q4), se, rv b_48, un, un] [(.int p2)] _
        refine XS.ifNo X48.here hx rfl (hb hby at_166) rfl (XT.i0_le_f (hc34 : (0 : Int32) < p2)) ?_
        refine XS.iconst X48.here hx rfl (hb hby at_169) ?_
        show AT p e below T48 m 170 #[jv q0, se, iv p1, iv p2, iv p3, jv q4, se, iv p5, iv lk0, iv wh0, iv lk1, iv wh1, jv tm1, se, rv b19, jv (if wh1 = (0 : Int32) then (0 : Int64) else tm1), se, jv ((if wh1 = (0 : Int32) then (0 : Int64) else tm1) + q4), se, rv b_48, un, un] [(.int (1 : Int32))] _
        refine XS.istore X48.here hx rfl (hb hby at_170) rfl (l' := #[jv q0, se, iv p1, iv p2, iv p3, jv q4, se, iv p5, iv lk0, iv wh0, iv lk1, iv wh1, jv tm1, se, rv b19, jv (if wh1 = (0 : Int32) then (0 : Int64) else tm1), se, jv ((if wh1 = (0 : Int32) then (0 : Int64) else tm1) + q4), se, rv b_48, iv (1 : Int32), un]) rfl ?_
        refine XS.iloadN X48.here hx rfl (hb hby at_172) rfl ?_
        refine XS.istore X48.here hx rfl (hb hby at_173) rfl (l' := #[jv q0, se, iv p1, iv p2, iv p3, jv q4, se, iv p5, iv lk0, iv wh0, iv lk1, iv wh1, jv tm1, se, rv b19, jv (if wh1 = (0 : Int32) then (0 : Int64) else tm1), se, jv ((if wh1 = (0 : Int32) then (0 : Int64) else tm1) + q4), se, rv b_48, iv (1 : Int32), iv p2]) rfl ?_
        show AT p e below T48 m 175 #[jv q0, se, iv p1, iv p2, iv p3, jv q4, se, iv p5, iv lk0, iv wh0, iv lk1, iv wh1, jv tm1, se, rv b19, jv (if wh1 = (0 : Int32) then (0 : Int64) else tm1), se, jv ((if wh1 = (0 : Int32) then (0 : Int64) else tm1) + q4), se, rv b_48, iv (1 : Int32), iv p2] [] _
        refine XS.goto X48.here hx rfl (pc0 := 175) (pc' := 184) rfl (hb hby at_175) (by decide) (by decide) ?_
        refine XS.iload X48.here hx rfl (hb hby at_184) rfl ?_
        show AT p e below T48 m 186 #[jv q0, se, iv p1, iv p2, iv p3, jv q4, se, iv p5, iv lk0, iv wh0, iv lk1, iv wh1, jv tm1, se, rv b19, jv (if wh1 = (0 : Int32) then (0 : Int64) else tm1), se, jv ((if wh1 = (0 : Int32) then (0 : Int64) else tm1) + q4), se, rv b_48, iv (1 : Int32), iv p2] [(.int (1 : Int32))] _
        refine XS.ifNo X48.here hx rfl (hb hby at_186) rfl (XT.i0_eq_f ((by decide) : ¬ ((1 : Int32) = (0 : Int32)))) ?_
        refine XS.iload X48.here hx rfl (hb hby at_189) rfl ?_
        show AT p e below T48 m 191 #[jv q0, se, iv p1, iv p2, iv p3, jv q4, se, iv p5, iv lk0, iv wh0, iv lk1, iv wh1, jv tm1, se, rv b19, jv (if wh1 = (0 : Int32) then (0 : Int64) else tm1), se, jv ((if wh1 = (0 : Int32) then (0 : Int64) else tm1) + q4), se, rv b_48, iv (1 : Int32), iv p2] [(.int p5)] _
        refine XS.ifNo X48.here hx rfl (hb hby at_191) rfl (XT.i0_le_f (hc45 : (0 : Int32) < p5)) ?_
        show AT p e below T48 m 194 #[jv q0, se, iv p1, iv p2, iv p3, jv q4, se, iv p5, iv lk0, iv wh0, iv lk1, iv wh1, jv tm1, se, rv b19, jv (if wh1 = (0 : Int32) then (0 : Int64) else tm1), se, jv ((if wh1 = (0 : Int32) then (0 : Int64) else tm1) + q4), se, rv b_48, iv (1 : Int32), iv p2] [] _
        refine XS.lload X48.here hx rfl (hb hby at_194) rfl ?_
        refine X48.ldc2Long hx hown (mvT hZ (ow hw 123 rfl)) (g := (mkF m 196 #[jv q0, se, iv p1, iv p2, iv p3, jv q4, se, iv p5, iv lk0, iv wh0, iv lk1, iv wh1, jv tm1, se, rv b19, jv (if wh1 = (0 : Int32) then (0 : Int64) else tm1), se, jv ((if wh1 = (0 : Int32) then (0 : Int64) else tm1) + q4), se, rv b_48, iv (1 : Int32), iv p2] [(.long q4)])) rfl (hb hby at_196) _ ?_
        refine XS.lcmp X48.here hx rfl (hb hby at_199) rfl ?_
        show AT p e below T48 m 200 #[jv q0, se, iv p1, iv p2, iv p3, jv q4, se, iv p5, iv lk0, iv wh0, iv lk1, iv wh1, jv tm1, se, rv b19, jv (if wh1 = (0 : Int32) then (0 : Int64) else tm1), se, jv ((if wh1 = (0 : Int32) then (0 : Int64) else tm1) + q4), se, rv b_48, iv (1 : Int32), iv p2] [(.int (XT.cmpL q4 (600000000000 : Int64)))] _
        refine XS.ifYes X48.here hx rfl (pc0 := 200) (pc' := 214) rfl (hb hby at_200) rfl (XT.ll_lt_t (hc46 : q4 < (600000000000 : Int64))) (by decide) (by decide) ?_
        show AT p e below T48 m 214 #[jv q0, se, iv p1, iv p2, iv p3, jv q4, se, iv p5, iv lk0, iv wh0, iv lk1, iv wh1, jv tm1, se, rv b19, jv (if wh1 = (0 : Int32) then (0 : Int64) else tm1), se, jv ((if wh1 = (0 : Int32) then (0 : Int64) else tm1) + q4), se, rv b_48, iv (1 : Int32), iv p2] [] _
        refine XS.iload X48.here hx rfl (hb hby at_214) rfl ?_
        refine XS.iload X48.here hx rfl (hb hby at_216) rfl ?_
        show AT p e below T48 m 218 #[jv q0, se, iv p1, iv p2, iv p3, jv q4, se, iv p5, iv lk0, iv wh0, iv lk1, iv wh1, jv tm1, se, rv b19, jv (if wh1 = (0 : Int32) then (0 : Int64) else tm1), se, jv ((if wh1 = (0 : Int32) then (0 : Int64) else tm1) + q4), se, rv b_48, iv (1 : Int32), iv p2] [(.int p5), (.int p2)] _
        refine XS.icmpNo X48.here hx rfl (hb hby at_218) rfl (XT.ii_ge_f (hc47 : p2 < p5)) ?_
        refine XS.aload X48.here hx rfl (hb hby at_221) rfl rfl ?_
        show AT p e below T48 m 223 #[jv q0, se, iv p1, iv p2, iv p3, jv q4, se, iv p5, iv lk0, iv wh0, iv lk1, iv wh1, jv tm1, se, rv b19, jv (if wh1 = (0 : Int32) then (0 : Int64) else tm1), se, jv ((if wh1 = (0 : Int32) then (0 : Int64) else tm1) + q4), se, rv b_48, iv (1 : Int32), iv p2] [(.ref b_48)] _
        refine XS.iconst X48.here hx rfl (hb hby at_223) ?_
        refine XS.iload X48.here hx rfl (hb hby at_224) rfl ?_
        refine XS.iconst X48.here hx rfl (hb hby at_226) ?_
        show AT p e below T48 m 227 #[jv q0, se, iv p1, iv p2, iv p3, jv q4, se, iv p5, iv lk0, iv wh0, iv lk1, iv wh1, jv tm1, se, rv b19, jv (if wh1 = (0 : Int32) then (0 : Int64) else tm1), se, jv ((if wh1 = (0 : Int32) then (0 : Int64) else tm1) + q4), se, rv b_48, iv (1 : Int32), iv p2] [(.int (1 : Int32)), (.int p2), (.int (2 : Int32)), (.ref b_48)] _
        refine XS.iadd X48.here hx rfl (hb hby at_227) rfl ?_
        refine XS.iload X48.here hx rfl (hb hby at_228) rfl ?_
        refine XS.iconst X48.here hx rfl (hb hby at_230) ?_
        show AT p e below T48 m 231 #[jv q0, se, iv p1, iv p2, iv p3, jv q4, se, iv p5, iv lk0, iv wh0, iv lk1, iv wh1, jv tm1, se, rv b19, jv (if wh1 = (0 : Int32) then (0 : Int64) else tm1), se, jv ((if wh1 = (0 : Int32) then (0 : Int64) else tm1) + q4), se, rv b_48, iv (1 : Int32), iv p2] [(.int (0 : Int32)), (.int p5), (.int (p2 + (1 : Int32))), (.int (2 : Int32)), (.ref b_48)] _
        refine XS.iconst X48.here hx rfl (hb hby at_231) ?_
        refine st64 _ ?_
        exact retN X64 hx (t := .boolean) Bd.returns (by simp) (hb hby at_235) hr
       ·
        show Q0 Z q0 p1 p2 p3 q4 p5 h0 n0 _ T64.heap _
        rw [e64]
        exact ⟨rfl, N64⟩
      ·
       rcases Decidable.em (p5 < p2) with hc65 | hc65
       ·
        obtain ⟨cq66, kq66, q66a, q66b, q66c⟩ := isOf hZ rfl E35_36
        obtain ⟨_, _, ⟨T66, L66, k66, n66⟩, -, X66, ⟨Lc66, hQ66, l66, y66, z66⟩, st66⟩ := X35.virtualBack hx (y := y5) (z := y5) hown (mvT hZ (ow hw 28 rfl)) (mvT hZ (ow hw 29 rfl)) (notFace_of_selects (args := #[]) (mvT hZ (ow hw 31 rfl))) (mvT hZ (ow hw 31 rfl)) (mvT hZ (ow hw 30 rfl)) (by decide) (backOf (W := 0) (rm5_1g l Z ar hw [] b19 ((if wh1 = (0 : Int32) then (0 : Int64) else tm1) + q4) p5 (if wh1 = (0 : Int32) then (0 : Int64) else tm1) dq_22 es_22 ke_22 nw_35 kn_35 tm1 p2 T35.heap n0 O35 HW E35_36 u35_2 u35_1 E35_37 u35_3 u35_4 u35_5 u35_6 u35_7 u35_8 hc45 (by rw [own_wd]; exact hc46) hc47 hc65) hZ (ow hw 32 rfl) (ow hw 2 rfl) (by decide) (by decide)) q66a q66c (g := (mkF m 137 #[jv q0, se, iv p1, iv p2, iv p3, jv q4, se, iv p5, iv lk0, iv wh0, iv lk1, iv wh1, jv tm1, se, rv b19, jv (if wh1 = (0 : Int32) then (0 : Int64) else tm1), se, jv ((if wh1 = (0 : Int32) then (0 : Int64) else tm1) + q4), se, un, un, un] [(.int p5), (.long ((if wh1 = (0 : Int32) then (0 : Int64) else tm1) + q4)), (.ref b19)])) rfl (by rw [hml]; rfl) (Steps.refl _) (argsL := [(.long ((if wh1 = (0 : Int32) then (0 : Int64) else tm1) + q4)), (.int p5)]) (rest := []) (lenOf pd_11 rfl) rfl (by show 2 * 0 + _ ≤ _; exact Nat.le_of_eq rfl) (hb hby at_137) (fun _ _ => ⟨rfl, rfl, (by decide : 4 + 1 ≤ _), (by decide : 24 + 4 ≤ _)⟩)
        dsimp only [Pt.U, Pt.locs, Pt.cells, Pt.slots] at X66 l66 y66 z66 st66 hQ66
        subst l66 y66 z66
        obtain ⟨b_66, kb_66, rfl, N66q, Kq66, u66_0, u66_1⟩ := hQ66
        have N66 := Fr.app N35 N66q
        have E66_67 := E35_36.keep Kq66
        have E66_68 := E35_37.keep Kq66
        have F66_69 := u35_1.keep Kq66 nin0
        have F66_70 := u35_2.keep Kq66 nin0
        have F66_71 := u35_3.keep Kq66 nin0
        have F66_72 := u35_4.keep Kq66 nin0
        have F66_73 := u35_5.keep Kq66 nin0
        have V66_74 := u35_6.keep Kq66 nin0
        have E66_75 := u35_7.keep Kq66
        have V66_76 := u35_8.keep Kq66 nin0
        have K66 := K35.trans Kq66 all0
        have O66 := O35.keep Kq66 all0
        have sz77 : h0.size ≤ b_66 := Nat.le_trans K35.1 u66_1
        have gn77 : n0 ≤ b_66 := Nat.le_trans (Nat.le_trans (Nat.le_of_eq O35.1.symm) O35.2.1) u66_1
        have ne78 : b19 ≠ b_66 := Nat.ne_of_lt (Nat.lt_of_lt_of_le (E35_36).lt u66_1)
        have ne79 : dq_22 ≠ b_66 := Nat.ne_of_lt (Nat.lt_of_lt_of_le (E35_37).lt u66_1)
        have ne80 : es_22 ≠ b_66 := Nat.ne_of_lt (Nat.lt_of_lt_of_le (u35_6).lt u66_1)
        have ne81 : nw_35 ≠ b_66 := Nat.ne_of_lt (Nat.lt_of_lt_of_le (u35_7).lt u66_1)
        obtain ⟨_, _, ⟨T82, L82, k82, n82⟩, -, X82, ⟨Lc82, hQ82, l82, y82, z82⟩, st82⟩ := Jvm.LawKit.callS X66 hx (y := y19) hown (mvT hZ (ow hw 124 rfl)) (mvT hZ (ow hw 125 rfl)) (mvT hZ (ow hw 126 rfl)) (mvT hZ (ow hw 127 rfl)) (by decide) (backOf (W := 0) (rm19_4 l Z ar hw [] b_66 (p2 + (1 : Int32)) (2147483647 : Int32) (1 : Int32) p5 kb_66 (p2 + (1 : Int32)) (2147483647 : Int32) (1 : Int32) p5 T66.heap n0 O66 u66_0) hZ (ow hw 127 rfl) (ow hw 126 rfl) (by decide) (by decide)) (g := (mkF m 255 #[jv q0, se, iv p1, iv p2, iv p3, jv q4, se, iv p5, iv lk0, iv wh0, iv lk1, iv wh1, jv tm1, se, rv b19, jv (if wh1 = (0 : Int32) then (0 : Int64) else tm1), se, jv ((if wh1 = (0 : Int32) then (0 : Int64) else tm1) + q4), se, rv b_66, iv (1 : Int32), iv p2] [(.int p5), (.int (1 : Int32)), (.int (2147483647 : Int32)), (.int (p2 + (1 : Int32))), (.int (4 : Int32)), (.ref b_66)])) rfl (by rw [hml]; rfl) (argsL := [(.ref b_66), (.int (4 : Int32)), (.int (p2 + (1 : Int32))), (.int (2147483647 : Int32)), (.int (1 : Int32)), (.int p5)]) (rest := []) (lenOf pd_13 rfl) rfl (by show 2 * 0 + _ ≤ _; exact Nat.le_of_eq rfl) (hb hby at_255) (fun _ _ => ⟨rfl, rfl, (by decide : 5 + 0 ≤ _), (by decide : 28 + 0 ≤ _)⟩)
        dsimp only [Pt.U, Pt.locs, Pt.cells, Pt.slots] at X82 l82 y82 z82 st82 hQ82
        subst l82 y82 z82
        obtain ⟨rfl, N82q, e82⟩ := hQ82
        have N82 := Fr.app N66 N82q
        have r82 : (f19_4 (p2 + (1 : Int32)) (2147483647 : Int32) (1 : Int32) p5 (p2 + (1 : Int32)) (2147483647 : Int32) (1 : Int32) p5) = (1 : Int32) := by rw [f19_4, if_pos (rfl : (p2 + (1 : Int32)) = (p2 + (1 : Int32))), if_pos ((by decide) : (2147483647 : Int32) = (2147483647 : Int32)), if_pos ((by decide) : (1 : Int32) = (1 : Int32)), if_pos (rfl : p5 = p5)] <;> decide
        rw [r82] at st82
        obtain ⟨fs, hr, hrun, hended, hW, hsame⟩ := X82.leave (v := some (.int (1 : Int32))) (fun h => by rw [Bd.returns] at h; cases h)
        subst hS0
        refine ⟨_, _, pre44 _ ?_, hrun, hended, _, _, rfl, ?_, ⟨_, rfl⟩, hW, hsame.mono (by decide) (by decide)⟩
        ·
         refine XS.aload X35.here hx rfl (hb hby at_131) rfl rfl ?_
         refine XS.lload X35.here hx rfl (hb hby at_133) rfl ?_
         refine XS.iload X35.here hx rfl (hb hby at_135) rfl ?_
         show AT p e below T35 m 137 #[jv q0, se, iv p1, iv p2, iv p3, jv q4, se, iv p5, iv lk0, iv wh0, iv lk1, iv wh1, jv tm1, se, rv b19, jv (if wh1 = (0 : Int32) then (0 : Int64) else tm1), se, jv ((if wh1 = (0 : Int32) then (0 : Int64) else tm1) + q4), se, un, un, un] [(.int p5), (.long ((if wh1 = (0 : Int32) then (0 : Int64) else tm1) + q4)), (.ref b19)] _
         refine st66.trans ?_
         refine XS.astore X66.here hx rfl (hb hby at_140) rfl rfl (l' := #[jv q0, se, iv p1, iv p2, iv p3, jv q4, se, iv p5, iv lk0, iv wh0, iv lk1, iv wh1, jv tm1, se, rv b19, jv (if wh1 = (0 : Int32) then (0 : Int64) else tm1), se, jv ((if wh1 = (0 : Int32) then (0 : Int64) else tm1) + q4), se, rv b_66, un, un]) rfl ?_
         refine XS.iload X66.here hx rfl (hb hby at_142) rfl ?_
         show AT p e below T66 m 144 #[jv q0, se, iv p1, iv p2, iv p3, jv q4, se, iv p5, iv lk0, iv wh0, iv lk1, iv wh1, jv tm1, se, rv b19, jv (if wh1 = (0 : Int32) then (0 : Int64) else tm1), se, jv ((if wh1 = (0 : Int32) then (0 : Int64) else tm1) + q4), se, rv b_66, un, un] [(.int lk0)] _
         refine XS.ifYes X66.here hx rfl (pc0 := 144) (pc' := 160) rfl (hb hby at_144) rfl (XT.i0_eq_t (hc29 : lk0 = (0 : Int32))) (by decide) (by decide) ?_
         show AT p e below T66 m 160 #[jv q0, se, iv p1, iv p2, iv p3, jv q4, se, iv p5, iv lk0, iv wh0, iv lk1, iv wh1, jv tm1, se, rv b19, jv (if wh1 = (0 : Int32) then (0 : Int64) else tm1), se, jv ((if wh1 = (0 : Int32) then (0 : Int64) else tm1) + q4), se, rv b_66, un, un] [] _
         refine XS.iload X66.here hx rfl (hb hby at_160) rfl ?_
         show AT p e below T66 m 162 #[jv q0, se, iv p1, iv p2, iv p3, jv q4, se, iv p5, iv lk0, iv wh0, iv lk1, iv wh1, jv tm1, se, rv b19, jv (if wh1 = (0 : Int32) then (0 : Int64) else tm1), se, jv ((if wh1 = (0 : Int32) then (0 : Int64) else tm1) + q4), se, rv b_66, un, un] [(.int lk1)] _
         refine XS.ifNo X66.here hx rfl (hb hby at_162) rfl (XT.i0_eq_f (hc31 : ¬ (lk1 = (0 : Int32)))) ?_
         refine XS.iloadN X66.here hx rfl (hb hby at_165) rfl ?_
         show AT p e below T66 m 166 #[jv q0, se, iv p1, iv p2, iv p3, jv q4, se, iv p5, iv lk0, iv wh0, iv lk1, iv wh1, jv tm1, se, rv b19, jv (if wh1 = (0 : Int32) then (0 : Int64) else tm1), se, jv ((if wh1 = (0 : Int32) then (0 : Int64) else tm1) + q4), se, rv b_66, un, un] [(.int p2)] _
         refine XS.ifNo X66.here hx rfl (hb hby at_166) rfl (XT.i0_le_f (hc34 : (0 : Int32) < p2)) ?_
         refine XS.iconst X66.here hx rfl (hb hby at_169) ?_
         show AT p e below T66 m 170 #[jv q0, se, iv p1, iv p2, iv p3, jv q4, se, iv p5, iv lk0, iv wh0, iv lk1, iv wh1, jv tm1, se, rv b19, jv (if wh1 = (0 : Int32) then (0 : Int64) else tm1), se, jv ((if wh1 = (0 : Int32) then (0 : Int64) else tm1) + q4), se, rv b_66, un, un] [(.int (1 : Int32))] _
         refine XS.istore X66.here hx rfl (hb hby at_170) rfl (l' := #[jv q0, se, iv p1, iv p2, iv p3, jv q4, se, iv p5, iv lk0, iv wh0, iv lk1, iv wh1, jv tm1, se, rv b19, jv (if wh1 = (0 : Int32) then (0 : Int64) else tm1), se, jv ((if wh1 = (0 : Int32) then (0 : Int64) else tm1) + q4), se, rv b_66, iv (1 : Int32), un]) rfl ?_
         refine XS.iloadN X66.here hx rfl (hb hby at_172) rfl ?_
         refine XS.istore X66.here hx rfl (hb hby at_173) rfl (l' := #[jv q0, se, iv p1, iv p2, iv p3, jv q4, se, iv p5, iv lk0, iv wh0, iv lk1, iv wh1, jv tm1, se, rv b19, jv (if wh1 = (0 : Int32) then (0 : Int64) else tm1), se, jv ((if wh1 = (0 : Int32) then (0 : Int64) else tm1) + q4), se, rv b_66, iv (1 : Int32), iv p2]) rfl ?_
         show AT p e below T66 m 175 #[jv q0, se, iv p1, iv p2, iv p3, jv q4, se, iv p5, iv lk0, iv wh0, iv lk1, iv wh1, jv tm1, se, rv b19, jv (if wh1 = (0 : Int32) then (0 : Int64) else tm1), se, jv ((if wh1 = (0 : Int32) then (0 : Int64) else tm1) + q4), se, rv b_66, iv (1 : Int32), iv p2] [] _
         refine XS.goto X66.here hx rfl (pc0 := 175) (pc' := 184) rfl (hb hby at_175) (by decide) (by decide) ?_
         refine XS.iload X66.here hx rfl (hb hby at_184) rfl ?_
         show AT p e below T66 m 186 #[jv q0, se, iv p1, iv p2, iv p3, jv q4, se, iv p5, iv lk0, iv wh0, iv lk1, iv wh1, jv tm1, se, rv b19, jv (if wh1 = (0 : Int32) then (0 : Int64) else tm1), se, jv ((if wh1 = (0 : Int32) then (0 : Int64) else tm1) + q4), se, rv b_66, iv (1 : Int32), iv p2] [(.int (1 : Int32))] _
         refine XS.ifNo X66.here hx rfl (hb hby at_186) rfl (XT.i0_eq_f ((by decide) : ¬ ((1 : Int32) = (0 : Int32)))) ?_
         refine XS.iload X66.here hx rfl (hb hby at_189) rfl ?_
         show AT p e below T66 m 191 #[jv q0, se, iv p1, iv p2, iv p3, jv q4, se, iv p5, iv lk0, iv wh0, iv lk1, iv wh1, jv tm1, se, rv b19, jv (if wh1 = (0 : Int32) then (0 : Int64) else tm1), se, jv ((if wh1 = (0 : Int32) then (0 : Int64) else tm1) + q4), se, rv b_66, iv (1 : Int32), iv p2] [(.int p5)] _
         refine XS.ifNo X66.here hx rfl (hb hby at_191) rfl (XT.i0_le_f (hc45 : (0 : Int32) < p5)) ?_
         show AT p e below T66 m 194 #[jv q0, se, iv p1, iv p2, iv p3, jv q4, se, iv p5, iv lk0, iv wh0, iv lk1, iv wh1, jv tm1, se, rv b19, jv (if wh1 = (0 : Int32) then (0 : Int64) else tm1), se, jv ((if wh1 = (0 : Int32) then (0 : Int64) else tm1) + q4), se, rv b_66, iv (1 : Int32), iv p2] [] _
         refine XS.lload X66.here hx rfl (hb hby at_194) rfl ?_
         refine X66.ldc2Long hx hown (mvT hZ (ow hw 123 rfl)) (g := (mkF m 196 #[jv q0, se, iv p1, iv p2, iv p3, jv q4, se, iv p5, iv lk0, iv wh0, iv lk1, iv wh1, jv tm1, se, rv b19, jv (if wh1 = (0 : Int32) then (0 : Int64) else tm1), se, jv ((if wh1 = (0 : Int32) then (0 : Int64) else tm1) + q4), se, rv b_66, iv (1 : Int32), iv p2] [(.long q4)])) rfl (hb hby at_196) _ ?_
         refine XS.lcmp X66.here hx rfl (hb hby at_199) rfl ?_
         show AT p e below T66 m 200 #[jv q0, se, iv p1, iv p2, iv p3, jv q4, se, iv p5, iv lk0, iv wh0, iv lk1, iv wh1, jv tm1, se, rv b19, jv (if wh1 = (0 : Int32) then (0 : Int64) else tm1), se, jv ((if wh1 = (0 : Int32) then (0 : Int64) else tm1) + q4), se, rv b_66, iv (1 : Int32), iv p2] [(.int (XT.cmpL q4 (600000000000 : Int64)))] _
         refine XS.ifYes X66.here hx rfl (pc0 := 200) (pc' := 214) rfl (hb hby at_200) rfl (XT.ll_lt_t (hc46 : q4 < (600000000000 : Int64))) (by decide) (by decide) ?_
         show AT p e below T66 m 214 #[jv q0, se, iv p1, iv p2, iv p3, jv q4, se, iv p5, iv lk0, iv wh0, iv lk1, iv wh1, jv tm1, se, rv b19, jv (if wh1 = (0 : Int32) then (0 : Int64) else tm1), se, jv ((if wh1 = (0 : Int32) then (0 : Int64) else tm1) + q4), se, rv b_66, iv (1 : Int32), iv p2] [] _
         refine XS.iload X66.here hx rfl (hb hby at_214) rfl ?_
         refine XS.iload X66.here hx rfl (hb hby at_216) rfl ?_
         show AT p e below T66 m 218 #[jv q0, se, iv p1, iv p2, iv p3, jv q4, se, iv p5, iv lk0, iv wh0, iv lk1, iv wh1, jv tm1, se, rv b19, jv (if wh1 = (0 : Int32) then (0 : Int64) else tm1), se, jv ((if wh1 = (0 : Int32) then (0 : Int64) else tm1) + q4), se, rv b_66, iv (1 : Int32), iv p2] [(.int p5), (.int p2)] _
         refine XS.icmpYes X66.here hx rfl (pc0 := 218) (pc' := 236) rfl (hb hby at_218) rfl (XT.ii_ge_t (hc47 : ¬ (p2 < p5))) (by decide) (by decide) ?_
         refine XS.iload X66.here hx rfl (hb hby at_236) rfl ?_
         show AT p e below T66 m 238 #[jv q0, se, iv p1, iv p2, iv p3, jv q4, se, iv p5, iv lk0, iv wh0, iv lk1, iv wh1, jv tm1, se, rv b19, jv (if wh1 = (0 : Int32) then (0 : Int64) else tm1), se, jv ((if wh1 = (0 : Int32) then (0 : Int64) else tm1) + q4), se, rv b_66, iv (1 : Int32), iv p2] [(.int p2)] _
         refine XS.iload X66.here hx rfl (hb hby at_238) rfl ?_
         show AT p e below T66 m 240 #[jv q0, se, iv p1, iv p2, iv p3, jv q4, se, iv p5, iv lk0, iv wh0, iv lk1, iv wh1, jv tm1, se, rv b19, jv (if wh1 = (0 : Int32) then (0 : Int64) else tm1), se, jv ((if wh1 = (0 : Int32) then (0 : Int64) else tm1) + q4), se, rv b_66, iv (1 : Int32), iv p2] [(.int p5), (.int p2)] _
         refine XS.icmpNo X66.here hx rfl (hb hby at_240) rfl (XT.ii_le_f (hc65 : p5 < p2)) ?_
         refine XS.aload X66.here hx rfl (hb hby at_243) rfl rfl ?_
         refine XS.iconst X66.here hx rfl (hb hby at_245) ?_
         show AT p e below T66 m 246 #[jv q0, se, iv p1, iv p2, iv p3, jv q4, se, iv p5, iv lk0, iv wh0, iv lk1, iv wh1, jv tm1, se, rv b19, jv (if wh1 = (0 : Int32) then (0 : Int64) else tm1), se, jv ((if wh1 = (0 : Int32) then (0 : Int64) else tm1) + q4), se, rv b_66, iv (1 : Int32), iv p2] [(.int (4 : Int32)), (.ref b_66)] _
         refine XS.iload X66.here hx rfl (hb hby at_246) rfl ?_
         refine XS.iconst X66.here hx rfl (hb hby at_248) ?_
         refine XS.iadd X66.here hx rfl (hb hby at_249) rfl ?_
         show AT p e below T66 m 250 #[jv q0, se, iv p1, iv p2, iv p3, jv q4, se, iv p5, iv lk0, iv wh0, iv lk1, iv wh1, jv tm1, se, rv b19, jv (if wh1 = (0 : Int32) then (0 : Int64) else tm1), se, jv ((if wh1 = (0 : Int32) then (0 : Int64) else tm1) + q4), se, rv b_66, iv (1 : Int32), iv p2] [(.int (p2 + (1 : Int32))), (.int (4 : Int32)), (.ref b_66)] _
         refine X66.ldcInt hx hown (mvT hZ (ow hw 129 rfl)) (g := (mkF m 250 #[jv q0, se, iv p1, iv p2, iv p3, jv q4, se, iv p5, iv lk0, iv wh0, iv lk1, iv wh1, jv tm1, se, rv b19, jv (if wh1 = (0 : Int32) then (0 : Int64) else tm1), se, jv ((if wh1 = (0 : Int32) then (0 : Int64) else tm1) + q4), se, rv b_66, iv (1 : Int32), iv p2] [(.int (p2 + (1 : Int32))), (.int (4 : Int32)), (.ref b_66)])) rfl (hb hby at_250) _ ?_
         refine XS.iconst X66.here hx rfl (hb hby at_252) ?_
         refine XS.iload X66.here hx rfl (hb hby at_253) rfl ?_
         show AT p e below T66 m 255 #[jv q0, se, iv p1, iv p2, iv p3, jv q4, se, iv p5, iv lk0, iv wh0, iv lk1, iv wh1, jv tm1, se, rv b19, jv (if wh1 = (0 : Int32) then (0 : Int64) else tm1), se, jv ((if wh1 = (0 : Int32) then (0 : Int64) else tm1) + q4), se, rv b_66, iv (1 : Int32), iv p2] [(.int p5), (.int (1 : Int32)), (.int (2147483647 : Int32)), (.int (p2 + (1 : Int32))), (.int (4 : Int32)), (.ref b_66)] _
         refine st82 _ ?_
         exact retN X82 hx (t := .boolean) Bd.returns (by simp) (hb hby at_258) hr
        ·
         show Q0 Z q0 p1 p2 p3 q4 p5 h0 n0 _ T82.heap _
         rw [e82]
         exact ⟨rfl, N82⟩
       ·
        obtain ⟨cq83, kq83, q83a, q83b, q83c⟩ := isOf hZ rfl E35_36
        obtain ⟨_, _, ⟨T83, L83, k83, n83⟩, -, X83, ⟨Lc83, hQ83, l83, y83, z83⟩, st83⟩ := X35.virtualBack hx (y := y5) (z := y5) hown (mvT hZ (ow hw 28 rfl)) (mvT hZ (ow hw 29 rfl)) (notFace_of_selects (args := #[]) (mvT hZ (ow hw 31 rfl))) (mvT hZ (ow hw 31 rfl)) (mvT hZ (ow hw 30 rfl)) (by decide) (backOf (W := 0) (rm5_1e l Z ar hw [] b19 ((if wh1 = (0 : Int32) then (0 : Int64) else tm1) + q4) p5 (if wh1 = (0 : Int32) then (0 : Int64) else tm1) dq_22 es_22 ke_22 nw_35 kn_35 tm1 p2 T35.heap n0 O35 HW E35_36 u35_2 u35_1 E35_37 u35_3 u35_4 u35_5 u35_6 u35_7 u35_8 hc45 (by rw [own_wd]; exact hc46) hc47 hc65) hZ (ow hw 32 rfl) (ow hw 2 rfl) (by decide) (by decide)) q83a q83c (g := (mkF m 137 #[jv q0, se, iv p1, iv p2, iv p3, jv q4, se, iv p5, iv lk0, iv wh0, iv lk1, iv wh1, jv tm1, se, rv b19, jv (if wh1 = (0 : Int32) then (0 : Int64) else tm1), se, jv ((if wh1 = (0 : Int32) then (0 : Int64) else tm1) + q4), se, un, un, un] [(.int p5), (.long ((if wh1 = (0 : Int32) then (0 : Int64) else tm1) + q4)), (.ref b19)])) rfl (by rw [hml]; rfl) (Steps.refl _) (argsL := [(.long ((if wh1 = (0 : Int32) then (0 : Int64) else tm1) + q4)), (.int p5)]) (rest := []) (lenOf pd_11 rfl) rfl (by show 2 * 0 + _ ≤ _; exact Nat.le_of_eq rfl) (hb hby at_137) (fun _ _ => ⟨rfl, rfl, (by decide : 4 + 1 ≤ _), (by decide : 24 + 0 ≤ _)⟩)
        dsimp only [Pt.U, Pt.locs, Pt.cells, Pt.slots] at X83 l83 y83 z83 st83 hQ83
        subst l83 y83 z83
        obtain ⟨b_83, kb_83, rfl, N83q, Kq83, u83_0, u83_1⟩ := hQ83
        have N83 := Fr.app N35 N83q
        have E83_84 := E35_36.keep Kq83
        have E83_85 := E35_37.keep Kq83
        have F83_86 := u35_1.keep Kq83 nin0
        have F83_87 := u35_2.keep Kq83 nin0
        have F83_88 := u35_3.keep Kq83 nin0
        have F83_89 := u35_4.keep Kq83 nin0
        have F83_90 := u35_5.keep Kq83 nin0
        have V83_91 := u35_6.keep Kq83 nin0
        have E83_92 := u35_7.keep Kq83
        have V83_93 := u35_8.keep Kq83 nin0
        have K83 := K35.trans Kq83 all0
        have O83 := O35.keep Kq83 all0
        have sz94 : h0.size ≤ b_83 := Nat.le_trans K35.1 u83_1
        have gn94 : n0 ≤ b_83 := Nat.le_trans (Nat.le_trans (Nat.le_of_eq O35.1.symm) O35.2.1) u83_1
        have ne95 : b19 ≠ b_83 := Nat.ne_of_lt (Nat.lt_of_lt_of_le (E35_36).lt u83_1)
        have ne96 : dq_22 ≠ b_83 := Nat.ne_of_lt (Nat.lt_of_lt_of_le (E35_37).lt u83_1)
        have ne97 : es_22 ≠ b_83 := Nat.ne_of_lt (Nat.lt_of_lt_of_le (u35_6).lt u83_1)
        have ne98 : nw_35 ≠ b_83 := Nat.ne_of_lt (Nat.lt_of_lt_of_le (u35_7).lt u83_1)
        obtain ⟨_, _, ⟨T99, L99, k99, n99⟩, -, X99, ⟨Lc99, hQ99, l99, y99, z99⟩, st99⟩ := Jvm.LawKit.callS X83 hx (y := y19) hown (mvT hZ (ow hw 124 rfl)) (mvT hZ (ow hw 125 rfl)) (mvT hZ (ow hw 126 rfl)) (mvT hZ (ow hw 127 rfl)) (by decide) (backOf (W := 0) (rm19_0 l Z ar hw [] b_83 (0 : Int32) (0 : Int32) (0 : Int32) (0 : Int32) kb_83 T83.heap n0 O83 u83_0) hZ (ow hw 127 rfl) (ow hw 126 rfl) (by decide) (by decide)) (g := (mkF m 266 #[jv q0, se, iv p1, iv p2, iv p3, jv q4, se, iv p5, iv lk0, iv wh0, iv lk1, iv wh1, jv tm1, se, rv b19, jv (if wh1 = (0 : Int32) then (0 : Int64) else tm1), se, jv ((if wh1 = (0 : Int32) then (0 : Int64) else tm1) + q4), se, rv b_83, iv (1 : Int32), iv p2] [(.int (0 : Int32)), (.int (0 : Int32)), (.int (0 : Int32)), (.int (0 : Int32)), (.int (0 : Int32)), (.ref b_83)])) rfl (by rw [hml]; rfl) (argsL := [(.ref b_83), (.int (0 : Int32)), (.int (0 : Int32)), (.int (0 : Int32)), (.int (0 : Int32)), (.int (0 : Int32))]) (rest := []) (lenOf pd_13 rfl) rfl (by show 2 * 0 + _ ≤ _; exact Nat.le_of_eq rfl) (hb hby at_266) (fun _ _ => ⟨rfl, rfl, (by decide : 5 + 0 ≤ _), (by decide : 24 + 0 ≤ _)⟩)
        dsimp only [Pt.U, Pt.locs, Pt.cells, Pt.slots] at X99 l99 y99 z99 st99 hQ99
        subst l99 y99 z99
        obtain ⟨rfl, N99q, e99⟩ := hQ99
        have N99 := Fr.app N83 N99q
        obtain ⟨fs, hr, hrun, hended, hW, hsame⟩ := X99.leave (v := some (.int (1 : Int32))) (fun h => by rw [Bd.returns] at h; cases h)
        subst hS0
        refine ⟨_, _, pre44 _ ?_, hrun, hended, _, _, rfl, ?_, ⟨_, rfl⟩, hW, hsame.mono (by decide) (by decide)⟩
        ·
         refine XS.aload X35.here hx rfl (hb hby at_131) rfl rfl ?_
         refine XS.lload X35.here hx rfl (hb hby at_133) rfl ?_
         refine XS.iload X35.here hx rfl (hb hby at_135) rfl ?_
         show AT p e below T35 m 137 #[jv q0, se, iv p1, iv p2, iv p3, jv q4, se, iv p5, iv lk0, iv wh0, iv lk1, iv wh1, jv tm1, se, rv b19, jv (if wh1 = (0 : Int32) then (0 : Int64) else tm1), se, jv ((if wh1 = (0 : Int32) then (0 : Int64) else tm1) + q4), se, un, un, un] [(.int p5), (.long ((if wh1 = (0 : Int32) then (0 : Int64) else tm1) + q4)), (.ref b19)] _
         refine st83.trans ?_
         refine XS.astore X83.here hx rfl (hb hby at_140) rfl rfl (l' := #[jv q0, se, iv p1, iv p2, iv p3, jv q4, se, iv p5, iv lk0, iv wh0, iv lk1, iv wh1, jv tm1, se, rv b19, jv (if wh1 = (0 : Int32) then (0 : Int64) else tm1), se, jv ((if wh1 = (0 : Int32) then (0 : Int64) else tm1) + q4), se, rv b_83, un, un]) rfl ?_
         refine XS.iload X83.here hx rfl (hb hby at_142) rfl ?_
         show AT p e below T83 m 144 #[jv q0, se, iv p1, iv p2, iv p3, jv q4, se, iv p5, iv lk0, iv wh0, iv lk1, iv wh1, jv tm1, se, rv b19, jv (if wh1 = (0 : Int32) then (0 : Int64) else tm1), se, jv ((if wh1 = (0 : Int32) then (0 : Int64) else tm1) + q4), se, rv b_83, un, un] [(.int lk0)] _
         refine XS.ifYes X83.here hx rfl (pc0 := 144) (pc' := 160) rfl (hb hby at_144) rfl (XT.i0_eq_t (hc29 : lk0 = (0 : Int32))) (by decide) (by decide) ?_
         show AT p e below T83 m 160 #[jv q0, se, iv p1, iv p2, iv p3, jv q4, se, iv p5, iv lk0, iv wh0, iv lk1, iv wh1, jv tm1, se, rv b19, jv (if wh1 = (0 : Int32) then (0 : Int64) else tm1), se, jv ((if wh1 = (0 : Int32) then (0 : Int64) else tm1) + q4), se, rv b_83, un, un] [] _
         refine XS.iload X83.here hx rfl (hb hby at_160) rfl ?_
         show AT p e below T83 m 162 #[jv q0, se, iv p1, iv p2, iv p3, jv q4, se, iv p5, iv lk0, iv wh0, iv lk1, iv wh1, jv tm1, se, rv b19, jv (if wh1 = (0 : Int32) then (0 : Int64) else tm1), se, jv ((if wh1 = (0 : Int32) then (0 : Int64) else tm1) + q4), se, rv b_83, un, un] [(.int lk1)] _
         refine XS.ifNo X83.here hx rfl (hb hby at_162) rfl (XT.i0_eq_f (hc31 : ¬ (lk1 = (0 : Int32)))) ?_
         refine XS.iloadN X83.here hx rfl (hb hby at_165) rfl ?_
         show AT p e below T83 m 166 #[jv q0, se, iv p1, iv p2, iv p3, jv q4, se, iv p5, iv lk0, iv wh0, iv lk1, iv wh1, jv tm1, se, rv b19, jv (if wh1 = (0 : Int32) then (0 : Int64) else tm1), se, jv ((if wh1 = (0 : Int32) then (0 : Int64) else tm1) + q4), se, rv b_83, un, un] [(.int p2)] _
         refine XS.ifNo X83.here hx rfl (hb hby at_166) rfl (XT.i0_le_f (hc34 : (0 : Int32) < p2)) ?_
         refine XS.iconst X83.here hx rfl (hb hby at_169) ?_
         show AT p e below T83 m 170 #[jv q0, se, iv p1, iv p2, iv p3, jv q4, se, iv p5, iv lk0, iv wh0, iv lk1, iv wh1, jv tm1, se, rv b19, jv (if wh1 = (0 : Int32) then (0 : Int64) else tm1), se, jv ((if wh1 = (0 : Int32) then (0 : Int64) else tm1) + q4), se, rv b_83, un, un] [(.int (1 : Int32))] _
         refine XS.istore X83.here hx rfl (hb hby at_170) rfl (l' := #[jv q0, se, iv p1, iv p2, iv p3, jv q4, se, iv p5, iv lk0, iv wh0, iv lk1, iv wh1, jv tm1, se, rv b19, jv (if wh1 = (0 : Int32) then (0 : Int64) else tm1), se, jv ((if wh1 = (0 : Int32) then (0 : Int64) else tm1) + q4), se, rv b_83, iv (1 : Int32), un]) rfl ?_
         refine XS.iloadN X83.here hx rfl (hb hby at_172) rfl ?_
         refine XS.istore X83.here hx rfl (hb hby at_173) rfl (l' := #[jv q0, se, iv p1, iv p2, iv p3, jv q4, se, iv p5, iv lk0, iv wh0, iv lk1, iv wh1, jv tm1, se, rv b19, jv (if wh1 = (0 : Int32) then (0 : Int64) else tm1), se, jv ((if wh1 = (0 : Int32) then (0 : Int64) else tm1) + q4), se, rv b_83, iv (1 : Int32), iv p2]) rfl ?_
         show AT p e below T83 m 175 #[jv q0, se, iv p1, iv p2, iv p3, jv q4, se, iv p5, iv lk0, iv wh0, iv lk1, iv wh1, jv tm1, se, rv b19, jv (if wh1 = (0 : Int32) then (0 : Int64) else tm1), se, jv ((if wh1 = (0 : Int32) then (0 : Int64) else tm1) + q4), se, rv b_83, iv (1 : Int32), iv p2] [] _
         refine XS.goto X83.here hx rfl (pc0 := 175) (pc' := 184) rfl (hb hby at_175) (by decide) (by decide) ?_
         refine XS.iload X83.here hx rfl (hb hby at_184) rfl ?_
         show AT p e below T83 m 186 #[jv q0, se, iv p1, iv p2, iv p3, jv q4, se, iv p5, iv lk0, iv wh0, iv lk1, iv wh1, jv tm1, se, rv b19, jv (if wh1 = (0 : Int32) then (0 : Int64) else tm1), se, jv ((if wh1 = (0 : Int32) then (0 : Int64) else tm1) + q4), se, rv b_83, iv (1 : Int32), iv p2] [(.int (1 : Int32))] _
         refine XS.ifNo X83.here hx rfl (hb hby at_186) rfl (XT.i0_eq_f ((by decide) : ¬ ((1 : Int32) = (0 : Int32)))) ?_
         refine XS.iload X83.here hx rfl (hb hby at_189) rfl ?_
         show AT p e below T83 m 191 #[jv q0, se, iv p1, iv p2, iv p3, jv q4, se, iv p5, iv lk0, iv wh0, iv lk1, iv wh1, jv tm1, se, rv b19, jv (if wh1 = (0 : Int32) then (0 : Int64) else tm1), se, jv ((if wh1 = (0 : Int32) then (0 : Int64) else tm1) + q4), se, rv b_83, iv (1 : Int32), iv p2] [(.int p5)] _
         refine XS.ifNo X83.here hx rfl (hb hby at_191) rfl (XT.i0_le_f (hc45 : (0 : Int32) < p5)) ?_
         show AT p e below T83 m 194 #[jv q0, se, iv p1, iv p2, iv p3, jv q4, se, iv p5, iv lk0, iv wh0, iv lk1, iv wh1, jv tm1, se, rv b19, jv (if wh1 = (0 : Int32) then (0 : Int64) else tm1), se, jv ((if wh1 = (0 : Int32) then (0 : Int64) else tm1) + q4), se, rv b_83, iv (1 : Int32), iv p2] [] _
         refine XS.lload X83.here hx rfl (hb hby at_194) rfl ?_
         refine X83.ldc2Long hx hown (mvT hZ (ow hw 123 rfl)) (g := (mkF m 196 #[jv q0, se, iv p1, iv p2, iv p3, jv q4, se, iv p5, iv lk0, iv wh0, iv lk1, iv wh1, jv tm1, se, rv b19, jv (if wh1 = (0 : Int32) then (0 : Int64) else tm1), se, jv ((if wh1 = (0 : Int32) then (0 : Int64) else tm1) + q4), se, rv b_83, iv (1 : Int32), iv p2] [(.long q4)])) rfl (hb hby at_196) _ ?_
         refine XS.lcmp X83.here hx rfl (hb hby at_199) rfl ?_
         show AT p e below T83 m 200 #[jv q0, se, iv p1, iv p2, iv p3, jv q4, se, iv p5, iv lk0, iv wh0, iv lk1, iv wh1, jv tm1, se, rv b19, jv (if wh1 = (0 : Int32) then (0 : Int64) else tm1), se, jv ((if wh1 = (0 : Int32) then (0 : Int64) else tm1) + q4), se, rv b_83, iv (1 : Int32), iv p2] [(.int (XT.cmpL q4 (600000000000 : Int64)))] _
         refine XS.ifYes X83.here hx rfl (pc0 := 200) (pc' := 214) rfl (hb hby at_200) rfl (XT.ll_lt_t (hc46 : q4 < (600000000000 : Int64))) (by decide) (by decide) ?_
         show AT p e below T83 m 214 #[jv q0, se, iv p1, iv p2, iv p3, jv q4, se, iv p5, iv lk0, iv wh0, iv lk1, iv wh1, jv tm1, se, rv b19, jv (if wh1 = (0 : Int32) then (0 : Int64) else tm1), se, jv ((if wh1 = (0 : Int32) then (0 : Int64) else tm1) + q4), se, rv b_83, iv (1 : Int32), iv p2] [] _
         refine XS.iload X83.here hx rfl (hb hby at_214) rfl ?_
         refine XS.iload X83.here hx rfl (hb hby at_216) rfl ?_
         show AT p e below T83 m 218 #[jv q0, se, iv p1, iv p2, iv p3, jv q4, se, iv p5, iv lk0, iv wh0, iv lk1, iv wh1, jv tm1, se, rv b19, jv (if wh1 = (0 : Int32) then (0 : Int64) else tm1), se, jv ((if wh1 = (0 : Int32) then (0 : Int64) else tm1) + q4), se, rv b_83, iv (1 : Int32), iv p2] [(.int p5), (.int p2)] _
         refine XS.icmpYes X83.here hx rfl (pc0 := 218) (pc' := 236) rfl (hb hby at_218) rfl (XT.ii_ge_t (hc47 : ¬ (p2 < p5))) (by decide) (by decide) ?_
         refine XS.iload X83.here hx rfl (hb hby at_236) rfl ?_
         show AT p e below T83 m 238 #[jv q0, se, iv p1, iv p2, iv p3, jv q4, se, iv p5, iv lk0, iv wh0, iv lk1, iv wh1, jv tm1, se, rv b19, jv (if wh1 = (0 : Int32) then (0 : Int64) else tm1), se, jv ((if wh1 = (0 : Int32) then (0 : Int64) else tm1) + q4), se, rv b_83, iv (1 : Int32), iv p2] [(.int p2)] _
         refine XS.iload X83.here hx rfl (hb hby at_238) rfl ?_
         show AT p e below T83 m 240 #[jv q0, se, iv p1, iv p2, iv p3, jv q4, se, iv p5, iv lk0, iv wh0, iv lk1, iv wh1, jv tm1, se, rv b19, jv (if wh1 = (0 : Int32) then (0 : Int64) else tm1), se, jv ((if wh1 = (0 : Int32) then (0 : Int64) else tm1) + q4), se, rv b_83, iv (1 : Int32), iv p2] [(.int p5), (.int p2)] _
         refine XS.icmpYes X83.here hx rfl (pc0 := 240) (pc' := 259) rfl (hb hby at_240) rfl (XT.ii_le_t (hc65 : ¬ (p5 < p2))) (by decide) (by decide) ?_
         refine XS.aload X83.here hx rfl (hb hby at_259) rfl rfl ?_
         refine XS.iconst X83.here hx rfl (hb hby at_261) ?_
         show AT p e below T83 m 262 #[jv q0, se, iv p1, iv p2, iv p3, jv q4, se, iv p5, iv lk0, iv wh0, iv lk1, iv wh1, jv tm1, se, rv b19, jv (if wh1 = (0 : Int32) then (0 : Int64) else tm1), se, jv ((if wh1 = (0 : Int32) then (0 : Int64) else tm1) + q4), se, rv b_83, iv (1 : Int32), iv p2] [(.int (0 : Int32)), (.ref b_83)] _
         refine XS.iconst X83.here hx rfl (hb hby at_262) ?_
         refine XS.iconst X83.here hx rfl (hb hby at_263) ?_
         refine XS.iconst X83.here hx rfl (hb hby at_264) ?_
         show AT p e below T83 m 265 #[jv q0, se, iv p1, iv p2, iv p3, jv q4, se, iv p5, iv lk0, iv wh0, iv lk1, iv wh1, jv tm1, se, rv b19, jv (if wh1 = (0 : Int32) then (0 : Int64) else tm1), se, jv ((if wh1 = (0 : Int32) then (0 : Int64) else tm1) + q4), se, rv b_83, iv (1 : Int32), iv p2] [(.int (0 : Int32)), (.int (0 : Int32)), (.int (0 : Int32)), (.int (0 : Int32)), (.ref b_83)] _
         refine XS.iconst X83.here hx rfl (hb hby at_265) ?_
         refine st99 _ ?_
         exact retN X99 hx (t := .boolean) Bd.returns (by simp) (hb hby at_269) hr
        ·
         show Q0 Z q0 p1 p2 p3 q4 p5 h0 n0 _ T99.heap _
         rw [e99]
         exact ⟨rfl, N99⟩
     ·
      obtain ⟨cq100, kq100, q100a, q100b, q100c⟩ := isOf hZ rfl E35_36
      obtain ⟨_, _, ⟨T100, L100, k100, n100⟩, -, X100, ⟨Lc100, hQ100, l100, y100, z100⟩, st100⟩ := X35.virtualBack hx (y := y5) (z := y5) hown (mvT hZ (ow hw 28 rfl)) (mvT hZ (ow hw 29 rfl)) (notFace_of_selects (args := #[]) (mvT hZ (ow hw 31 rfl))) (mvT hZ (ow hw 31 rfl)) (mvT hZ (ow hw 30 rfl)) (by decide) (backOf (W := 0) (rm5_1b l Z ar hw [] b19 ((if wh1 = (0 : Int32) then (0 : Int64) else tm1) + q4) p5 (if wh1 = (0 : Int32) then (0 : Int64) else tm1) dq_22 es_22 ke_22 nw_35 kn_35 tm1 p2 T35.heap n0 O35 HW E35_36 u35_2 u35_1 E35_37 u35_3 u35_4 u35_5 u35_6 u35_7 u35_8 hc45 (by rw [own_wd]; exact hc46)) hZ (ow hw 32 rfl) (ow hw 2 rfl) (by decide) (by decide)) q100a q100c (g := (mkF m 137 #[jv q0, se, iv p1, iv p2, iv p3, jv q4, se, iv p5, iv lk0, iv wh0, iv lk1, iv wh1, jv tm1, se, rv b19, jv (if wh1 = (0 : Int32) then (0 : Int64) else tm1), se, jv ((if wh1 = (0 : Int32) then (0 : Int64) else tm1) + q4), se, un, un, un] [(.int p5), (.long ((if wh1 = (0 : Int32) then (0 : Int64) else tm1) + q4)), (.ref b19)])) rfl (by rw [hml]; rfl) (Steps.refl _) (argsL := [(.long ((if wh1 = (0 : Int32) then (0 : Int64) else tm1) + q4)), (.int p5)]) (rest := []) (lenOf pd_11 rfl) rfl (by show 2 * 0 + _ ≤ _; exact Nat.le_of_eq rfl) (hb hby at_137) (fun _ _ => ⟨rfl, rfl, (by decide : 4 + 0 ≤ _), (by decide : 24 + 0 ≤ _)⟩)
      dsimp only [Pt.U, Pt.locs, Pt.cells, Pt.slots] at X100 l100 y100 z100 st100 hQ100
      subst l100 y100 z100
      obtain ⟨rfl, N100q, e100⟩ := hQ100
      have N100 := Fr.app N35 N100q
      obtain ⟨fs, hr, hrun, hended, hW, hsame⟩ := X100.leave (v := some (.int (1 : Int32))) (fun h => by rw [Bd.returns] at h; cases h)
      subst hS0
      refine ⟨_, _, pre44 _ ?_, hrun, hended, _, _, rfl, ?_, ⟨_, rfl⟩, hW, hsame.mono (by decide) (by decide)⟩
      ·
       refine XS.aload X35.here hx rfl (hb hby at_131) rfl rfl ?_
       refine XS.lload X35.here hx rfl (hb hby at_133) rfl ?_
       refine XS.iload X35.here hx rfl (hb hby at_135) rfl ?_
       show AT p e below T35 m 137 #[jv q0, se, iv p1, iv p2, iv p3, jv q4, se, iv p5, iv lk0, iv wh0, iv lk1, iv wh1, jv tm1, se, rv b19, jv (if wh1 = (0 : Int32) then (0 : Int64) else tm1), se, jv ((if wh1 = (0 : Int32) then (0 : Int64) else tm1) + q4), se, un, un, un] [(.int p5), (.long ((if wh1 = (0 : Int32) then (0 : Int64) else tm1) + q4)), (.ref b19)] _
       refine st100.trans ?_
       refine XS.astore X100.here hx rfl (hb hby at_140) rfl rfl (l' := #[jv q0, se, iv p1, iv p2, iv p3, jv q4, se, iv p5, iv lk0, iv wh0, iv lk1, iv wh1, jv tm1, se, rv b19, jv (if wh1 = (0 : Int32) then (0 : Int64) else tm1), se, jv ((if wh1 = (0 : Int32) then (0 : Int64) else tm1) + q4), se, .val .null, un, un]) rfl ?_
       refine XS.iload X100.here hx rfl (hb hby at_142) rfl ?_
       show AT p e below T100 m 144 #[jv q0, se, iv p1, iv p2, iv p3, jv q4, se, iv p5, iv lk0, iv wh0, iv lk1, iv wh1, jv tm1, se, rv b19, jv (if wh1 = (0 : Int32) then (0 : Int64) else tm1), se, jv ((if wh1 = (0 : Int32) then (0 : Int64) else tm1) + q4), se, .val .null, un, un] [(.int lk0)] _
       refine XS.ifYes X100.here hx rfl (pc0 := 144) (pc' := 160) rfl (hb hby at_144) rfl (XT.i0_eq_t (hc29 : lk0 = (0 : Int32))) (by decide) (by decide) ?_
       show AT p e below T100 m 160 #[jv q0, se, iv p1, iv p2, iv p3, jv q4, se, iv p5, iv lk0, iv wh0, iv lk1, iv wh1, jv tm1, se, rv b19, jv (if wh1 = (0 : Int32) then (0 : Int64) else tm1), se, jv ((if wh1 = (0 : Int32) then (0 : Int64) else tm1) + q4), se, .val .null, un, un] [] _
       refine XS.iload X100.here hx rfl (hb hby at_160) rfl ?_
       show AT p e below T100 m 162 #[jv q0, se, iv p1, iv p2, iv p3, jv q4, se, iv p5, iv lk0, iv wh0, iv lk1, iv wh1, jv tm1, se, rv b19, jv (if wh1 = (0 : Int32) then (0 : Int64) else tm1), se, jv ((if wh1 = (0 : Int32) then (0 : Int64) else tm1) + q4), se, .val .null, un, un] [(.int lk1)] _
       refine XS.ifNo X100.here hx rfl (hb hby at_162) rfl (XT.i0_eq_f (hc31 : ¬ (lk1 = (0 : Int32)))) ?_
       refine XS.iloadN X100.here hx rfl (hb hby at_165) rfl ?_
       show AT p e below T100 m 166 #[jv q0, se, iv p1, iv p2, iv p3, jv q4, se, iv p5, iv lk0, iv wh0, iv lk1, iv wh1, jv tm1, se, rv b19, jv (if wh1 = (0 : Int32) then (0 : Int64) else tm1), se, jv ((if wh1 = (0 : Int32) then (0 : Int64) else tm1) + q4), se, .val .null, un, un] [(.int p2)] _
       refine XS.ifNo X100.here hx rfl (hb hby at_166) rfl (XT.i0_le_f (hc34 : (0 : Int32) < p2)) ?_
       refine XS.iconst X100.here hx rfl (hb hby at_169) ?_
       show AT p e below T100 m 170 #[jv q0, se, iv p1, iv p2, iv p3, jv q4, se, iv p5, iv lk0, iv wh0, iv lk1, iv wh1, jv tm1, se, rv b19, jv (if wh1 = (0 : Int32) then (0 : Int64) else tm1), se, jv ((if wh1 = (0 : Int32) then (0 : Int64) else tm1) + q4), se, .val .null, un, un] [(.int (1 : Int32))] _
       refine XS.istore X100.here hx rfl (hb hby at_170) rfl (l' := #[jv q0, se, iv p1, iv p2, iv p3, jv q4, se, iv p5, iv lk0, iv wh0, iv lk1, iv wh1, jv tm1, se, rv b19, jv (if wh1 = (0 : Int32) then (0 : Int64) else tm1), se, jv ((if wh1 = (0 : Int32) then (0 : Int64) else tm1) + q4), se, .val .null, iv (1 : Int32), un]) rfl ?_
       refine XS.iloadN X100.here hx rfl (hb hby at_172) rfl ?_
       refine XS.istore X100.here hx rfl (hb hby at_173) rfl (l' := #[jv q0, se, iv p1, iv p2, iv p3, jv q4, se, iv p5, iv lk0, iv wh0, iv lk1, iv wh1, jv tm1, se, rv b19, jv (if wh1 = (0 : Int32) then (0 : Int64) else tm1), se, jv ((if wh1 = (0 : Int32) then (0 : Int64) else tm1) + q4), se, .val .null, iv (1 : Int32), iv p2]) rfl ?_
       show AT p e below T100 m 175 #[jv q0, se, iv p1, iv p2, iv p3, jv q4, se, iv p5, iv lk0, iv wh0, iv lk1, iv wh1, jv tm1, se, rv b19, jv (if wh1 = (0 : Int32) then (0 : Int64) else tm1), se, jv ((if wh1 = (0 : Int32) then (0 : Int64) else tm1) + q4), se, .val .null, iv (1 : Int32), iv p2] [] _
       refine XS.goto X100.here hx rfl (pc0 := 175) (pc' := 184) rfl (hb hby at_175) (by decide) (by decide) ?_
       refine XS.iload X100.here hx rfl (hb hby at_184) rfl ?_
       show AT p e below T100 m 186 #[jv q0, se, iv p1, iv p2, iv p3, jv q4, se, iv p5, iv lk0, iv wh0, iv lk1, iv wh1, jv tm1, se, rv b19, jv (if wh1 = (0 : Int32) then (0 : Int64) else tm1), se, jv ((if wh1 = (0 : Int32) then (0 : Int64) else tm1) + q4), se, .val .null, iv (1 : Int32), iv p2] [(.int (1 : Int32))] _
       refine XS.ifNo X100.here hx rfl (hb hby at_186) rfl (XT.i0_eq_f ((by decide) : ¬ ((1 : Int32) = (0 : Int32)))) ?_
       refine XS.iload X100.here hx rfl (hb hby at_189) rfl ?_
       show AT p e below T100 m 191 #[jv q0, se, iv p1, iv p2, iv p3, jv q4, se, iv p5, iv lk0, iv wh0, iv lk1, iv wh1, jv tm1, se, rv b19, jv (if wh1 = (0 : Int32) then (0 : Int64) else tm1), se, jv ((if wh1 = (0 : Int32) then (0 : Int64) else tm1) + q4), se, .val .null, iv (1 : Int32), iv p2] [(.int p5)] _
       refine XS.ifNo X100.here hx rfl (hb hby at_191) rfl (XT.i0_le_f (hc45 : (0 : Int32) < p5)) ?_
       show AT p e below T100 m 194 #[jv q0, se, iv p1, iv p2, iv p3, jv q4, se, iv p5, iv lk0, iv wh0, iv lk1, iv wh1, jv tm1, se, rv b19, jv (if wh1 = (0 : Int32) then (0 : Int64) else tm1), se, jv ((if wh1 = (0 : Int32) then (0 : Int64) else tm1) + q4), se, .val .null, iv (1 : Int32), iv p2] [] _
       refine XS.lload X100.here hx rfl (hb hby at_194) rfl ?_
       refine X100.ldc2Long hx hown (mvT hZ (ow hw 123 rfl)) (g := (mkF m 196 #[jv q0, se, iv p1, iv p2, iv p3, jv q4, se, iv p5, iv lk0, iv wh0, iv lk1, iv wh1, jv tm1, se, rv b19, jv (if wh1 = (0 : Int32) then (0 : Int64) else tm1), se, jv ((if wh1 = (0 : Int32) then (0 : Int64) else tm1) + q4), se, .val .null, iv (1 : Int32), iv p2] [(.long q4)])) rfl (hb hby at_196) _ ?_
       refine XS.lcmp X100.here hx rfl (hb hby at_199) rfl ?_
       show AT p e below T100 m 200 #[jv q0, se, iv p1, iv p2, iv p3, jv q4, se, iv p5, iv lk0, iv wh0, iv lk1, iv wh1, jv tm1, se, rv b19, jv (if wh1 = (0 : Int32) then (0 : Int64) else tm1), se, jv ((if wh1 = (0 : Int32) then (0 : Int64) else tm1) + q4), se, .val .null, iv (1 : Int32), iv p2] [(.int (XT.cmpL q4 (600000000000 : Int64)))] _
       refine XS.ifNo X100.here hx rfl (hb hby at_200) rfl (XT.ll_lt_f (hc46 : ¬ (q4 < (600000000000 : Int64)))) ?_
       show AT p e below T100 m 203 #[jv q0, se, iv p1, iv p2, iv p3, jv q4, se, iv p5, iv lk0, iv wh0, iv lk1, iv wh1, jv tm1, se, rv b19, jv (if wh1 = (0 : Int32) then (0 : Int64) else tm1), se, jv ((if wh1 = (0 : Int32) then (0 : Int64) else tm1) + q4), se, .val .null, iv (1 : Int32), iv p2] [] _
       refine XS.aload X100.here hx rfl (hb hby at_203) rfl rfl ?_
       show AT p e below T100 m 205 #[jv q0, se, iv p1, iv p2, iv p3, jv q4, se, iv p5, iv lk0, iv wh0, iv lk1, iv wh1, jv tm1, se, rv b19, jv (if wh1 = (0 : Int32) then (0 : Int64) else tm1), se, jv ((if wh1 = (0 : Int32) then (0 : Int64) else tm1) + q4), se, .val .null, iv (1 : Int32), iv p2] [.null] _
       refine XS.ifnonnullNo X100.here hx rfl (hb hby at_205) rfl ?_
       refine XS.iconst X100.here hx rfl (hb hby at_208) ?_
       refine XS.goto X100.here hx rfl (pc0 := 209) (pc' := 213) rfl (hb hby at_209) (by decide) (by decide) ?_
       show AT p e below T100 m 213 #[jv q0, se, iv p1, iv p2, iv p3, jv q4, se, iv p5, iv lk0, iv wh0, iv lk1, iv wh1, jv tm1, se, rv b19, jv (if wh1 = (0 : Int32) then (0 : Int64) else tm1), se, jv ((if wh1 = (0 : Int32) then (0 : Int64) else tm1) + q4), se, .val .null, iv (1 : Int32), iv p2] [(.int (1 : Int32))] _
       exact retN X100 hx (t := .boolean) Bd.returns (by simp) (hb hby at_213) hr
      ·
       show Q0 Z q0 p1 p2 p3 q4 p5 h0 n0 _ T100.heap _
       rw [e100]
       exact ⟨rfl, N100⟩
    ·
     obtain ⟨cq101, kq101, q101a, q101b, q101c⟩ := isOf hZ rfl E35_36
     obtain ⟨_, _, ⟨T101, L101, k101, n101⟩, -, X101, ⟨Lc101, hQ101, l101, y101, z101⟩, st101⟩ := X35.virtualBack hx (y := y5) (z := y5) hown (mvT hZ (ow hw 28 rfl)) (mvT hZ (ow hw 29 rfl)) (notFace_of_selects (args := #[]) (mvT hZ (ow hw 31 rfl))) (mvT hZ (ow hw 31 rfl)) (mvT hZ (ow hw 30 rfl)) (by decide) (backOf (W := 0) (rm5_1a l Z ar hw [] b19 ((if wh1 = (0 : Int32) then (0 : Int64) else tm1) + q4) p5 (if wh1 = (0 : Int32) then (0 : Int64) else tm1) dq_22 es_22 ke_22 nw_35 kn_35 tm1 p2 T35.heap n0 O35 E35_36 u35_2 u35_1 E35_37 u35_3 u35_4 u35_5 u35_6 u35_7 u35_8 hc45) hZ (ow hw 32 rfl) (ow hw 2 rfl) (by decide) (by decide)) q101a q101c (g := (mkF m 137 #[jv q0, se, iv p1, iv p2, iv p3, jv q4, se, iv p5, iv lk0, iv wh0, iv lk1, iv wh1, jv tm1, se, rv b19, jv (if wh1 = (0 : Int32) then (0 : Int64) else tm1), se, jv ((if wh1 = (0 : Int32) then (0 : Int64) else tm1) + q4), se, un, un, un] [(.int p5), (.long ((if wh1 = (0 : Int32) then (0 : Int64) else tm1) + q4)), (.ref b19)])) rfl (by rw [hml]; rfl) (Steps.refl _) (argsL := [(.long ((if wh1 = (0 : Int32) then (0 : Int64) else tm1) + q4)), (.int p5)]) (rest := []) (lenOf pd_11 rfl) rfl (by show 2 * 0 + _ ≤ _; exact Nat.le_of_eq rfl) (hb hby at_137) (fun _ _ => ⟨rfl, rfl, (by decide : 4 + 0 ≤ _), (by decide : 24 + 0 ≤ _)⟩)
     dsimp only [Pt.U, Pt.locs, Pt.cells, Pt.slots] at X101 l101 y101 z101 st101 hQ101
     subst l101 y101 z101
     obtain ⟨rfl, N101q, e101⟩ := hQ101
     have N101 := Fr.app N35 N101q
     obtain ⟨fs, hr, hrun, hended, hW, hsame⟩ := X101.leave (v := some (.int (1 : Int32))) (fun h => by rw [Bd.returns] at h; cases h)
     subst hS0
     refine ⟨_, _, pre44 _ ?_, hrun, hended, _, _, rfl, ?_, ⟨_, rfl⟩, hW, hsame.mono (by decide) (by decide)⟩
     ·
      refine XS.aload X35.here hx rfl (hb hby at_131) rfl rfl ?_
      refine XS.lload X35.here hx rfl (hb hby at_133) rfl ?_
      refine XS.iload X35.here hx rfl (hb hby at_135) rfl ?_
      show AT p e below T35 m 137 #[jv q0, se, iv p1, iv p2, iv p3, jv q4, se, iv p5, iv lk0, iv wh0, iv lk1, iv wh1, jv tm1, se, rv b19, jv (if wh1 = (0 : Int32) then (0 : Int64) else tm1), se, jv ((if wh1 = (0 : Int32) then (0 : Int64) else tm1) + q4), se, un, un, un] [(.int p5), (.long ((if wh1 = (0 : Int32) then (0 : Int64) else tm1) + q4)), (.ref b19)] _
      refine st101.trans ?_
      refine XS.astore X101.here hx rfl (hb hby at_140) rfl rfl (l' := #[jv q0, se, iv p1, iv p2, iv p3, jv q4, se, iv p5, iv lk0, iv wh0, iv lk1, iv wh1, jv tm1, se, rv b19, jv (if wh1 = (0 : Int32) then (0 : Int64) else tm1), se, jv ((if wh1 = (0 : Int32) then (0 : Int64) else tm1) + q4), se, .val .null, un, un]) rfl ?_
      refine XS.iload X101.here hx rfl (hb hby at_142) rfl ?_
      show AT p e below T101 m 144 #[jv q0, se, iv p1, iv p2, iv p3, jv q4, se, iv p5, iv lk0, iv wh0, iv lk1, iv wh1, jv tm1, se, rv b19, jv (if wh1 = (0 : Int32) then (0 : Int64) else tm1), se, jv ((if wh1 = (0 : Int32) then (0 : Int64) else tm1) + q4), se, .val .null, un, un] [(.int lk0)] _
      refine XS.ifYes X101.here hx rfl (pc0 := 144) (pc' := 160) rfl (hb hby at_144) rfl (XT.i0_eq_t (hc29 : lk0 = (0 : Int32))) (by decide) (by decide) ?_
      show AT p e below T101 m 160 #[jv q0, se, iv p1, iv p2, iv p3, jv q4, se, iv p5, iv lk0, iv wh0, iv lk1, iv wh1, jv tm1, se, rv b19, jv (if wh1 = (0 : Int32) then (0 : Int64) else tm1), se, jv ((if wh1 = (0 : Int32) then (0 : Int64) else tm1) + q4), se, .val .null, un, un] [] _
      refine XS.iload X101.here hx rfl (hb hby at_160) rfl ?_
      show AT p e below T101 m 162 #[jv q0, se, iv p1, iv p2, iv p3, jv q4, se, iv p5, iv lk0, iv wh0, iv lk1, iv wh1, jv tm1, se, rv b19, jv (if wh1 = (0 : Int32) then (0 : Int64) else tm1), se, jv ((if wh1 = (0 : Int32) then (0 : Int64) else tm1) + q4), se, .val .null, un, un] [(.int lk1)] _
      refine XS.ifNo X101.here hx rfl (hb hby at_162) rfl (XT.i0_eq_f (hc31 : ¬ (lk1 = (0 : Int32)))) ?_
      refine XS.iloadN X101.here hx rfl (hb hby at_165) rfl ?_
      show AT p e below T101 m 166 #[jv q0, se, iv p1, iv p2, iv p3, jv q4, se, iv p5, iv lk0, iv wh0, iv lk1, iv wh1, jv tm1, se, rv b19, jv (if wh1 = (0 : Int32) then (0 : Int64) else tm1), se, jv ((if wh1 = (0 : Int32) then (0 : Int64) else tm1) + q4), se, .val .null, un, un] [(.int p2)] _
      refine XS.ifNo X101.here hx rfl (hb hby at_166) rfl (XT.i0_le_f (hc34 : (0 : Int32) < p2)) ?_
      refine XS.iconst X101.here hx rfl (hb hby at_169) ?_
      show AT p e below T101 m 170 #[jv q0, se, iv p1, iv p2, iv p3, jv q4, se, iv p5, iv lk0, iv wh0, iv lk1, iv wh1, jv tm1, se, rv b19, jv (if wh1 = (0 : Int32) then (0 : Int64) else tm1), se, jv ((if wh1 = (0 : Int32) then (0 : Int64) else tm1) + q4), se, .val .null, un, un] [(.int (1 : Int32))] _
      refine XS.istore X101.here hx rfl (hb hby at_170) rfl (l' := #[jv q0, se, iv p1, iv p2, iv p3, jv q4, se, iv p5, iv lk0, iv wh0, iv lk1, iv wh1, jv tm1, se, rv b19, jv (if wh1 = (0 : Int32) then (0 : Int64) else tm1), se, jv ((if wh1 = (0 : Int32) then (0 : Int64) else tm1) + q4), se, .val .null, iv (1 : Int32), un]) rfl ?_
      refine XS.iloadN X101.here hx rfl (hb hby at_172) rfl ?_
      refine XS.istore X101.here hx rfl (hb hby at_173) rfl (l' := #[jv q0, se, iv p1, iv p2, iv p3, jv q4, se, iv p5, iv lk0, iv wh0, iv lk1, iv wh1, jv tm1, se, rv b19, jv (if wh1 = (0 : Int32) then (0 : Int64) else tm1), se, jv ((if wh1 = (0 : Int32) then (0 : Int64) else tm1) + q4), se, .val .null, iv (1 : Int32), iv p2]) rfl ?_
      show AT p e below T101 m 175 #[jv q0, se, iv p1, iv p2, iv p3, jv q4, se, iv p5, iv lk0, iv wh0, iv lk1, iv wh1, jv tm1, se, rv b19, jv (if wh1 = (0 : Int32) then (0 : Int64) else tm1), se, jv ((if wh1 = (0 : Int32) then (0 : Int64) else tm1) + q4), se, .val .null, iv (1 : Int32), iv p2] [] _
      refine XS.goto X101.here hx rfl (pc0 := 175) (pc' := 184) rfl (hb hby at_175) (by decide) (by decide) ?_
      refine XS.iload X101.here hx rfl (hb hby at_184) rfl ?_
      show AT p e below T101 m 186 #[jv q0, se, iv p1, iv p2, iv p3, jv q4, se, iv p5, iv lk0, iv wh0, iv lk1, iv wh1, jv tm1, se, rv b19, jv (if wh1 = (0 : Int32) then (0 : Int64) else tm1), se, jv ((if wh1 = (0 : Int32) then (0 : Int64) else tm1) + q4), se, .val .null, iv (1 : Int32), iv p2] [(.int (1 : Int32))] _
      refine XS.ifNo X101.here hx rfl (hb hby at_186) rfl (XT.i0_eq_f ((by decide) : ¬ ((1 : Int32) = (0 : Int32)))) ?_
      refine XS.iload X101.here hx rfl (hb hby at_189) rfl ?_
      show AT p e below T101 m 191 #[jv q0, se, iv p1, iv p2, iv p3, jv q4, se, iv p5, iv lk0, iv wh0, iv lk1, iv wh1, jv tm1, se, rv b19, jv (if wh1 = (0 : Int32) then (0 : Int64) else tm1), se, jv ((if wh1 = (0 : Int32) then (0 : Int64) else tm1) + q4), se, .val .null, iv (1 : Int32), iv p2] [(.int p5)] _
      refine XS.ifYes X101.here hx rfl (pc0 := 191) (pc' := 203) rfl (hb hby at_191) rfl (XT.i0_le_t (hc45 : ¬ ((0 : Int32) < p5))) (by decide) (by decide) ?_
      show AT p e below T101 m 203 #[jv q0, se, iv p1, iv p2, iv p3, jv q4, se, iv p5, iv lk0, iv wh0, iv lk1, iv wh1, jv tm1, se, rv b19, jv (if wh1 = (0 : Int32) then (0 : Int64) else tm1), se, jv ((if wh1 = (0 : Int32) then (0 : Int64) else tm1) + q4), se, .val .null, iv (1 : Int32), iv p2] [] _
      refine XS.aload X101.here hx rfl (hb hby at_203) rfl rfl ?_
      show AT p e below T101 m 205 #[jv q0, se, iv p1, iv p2, iv p3, jv q4, se, iv p5, iv lk0, iv wh0, iv lk1, iv wh1, jv tm1, se, rv b19, jv (if wh1 = (0 : Int32) then (0 : Int64) else tm1), se, jv ((if wh1 = (0 : Int32) then (0 : Int64) else tm1) + q4), se, .val .null, iv (1 : Int32), iv p2] [.null] _
      refine XS.ifnonnullNo X101.here hx rfl (hb hby at_205) rfl ?_
      refine XS.iconst X101.here hx rfl (hb hby at_208) ?_
      refine XS.goto X101.here hx rfl (pc0 := 209) (pc' := 213) rfl (hb hby at_209) (by decide) (by decide) ?_
      show AT p e below T101 m 213 #[jv q0, se, iv p1, iv p2, iv p3, jv q4, se, iv p5, iv lk0, iv wh0, iv lk1, iv wh1, jv tm1, se, rv b19, jv (if wh1 = (0 : Int32) then (0 : Int64) else tm1), se, jv ((if wh1 = (0 : Int32) then (0 : Int64) else tm1) + q4), se, .val .null, iv (1 : Int32), iv p2] [(.int (1 : Int32))] _
      exact retN X101 hx (t := .boolean) Bd.returns (by simp) (hb hby at_213) hr
     ·
      show Q0 Z q0 p1 p2 p3 q4 p5 h0 n0 _ T101.heap _
      rw [e101]
      exact ⟨rfl, N101⟩
   ·
    obtain ⟨cq102, kq102, q102a, q102b, q102c⟩ := isOf hZ rfl E22_23
    obtain ⟨_, _, ⟨T102, L102, k102, n102⟩, -, X102, ⟨Lc102, hQ102, l102, y102, z102⟩, st102⟩ := X22.virtualBack hx (y := y7) (z := y7) hown (mvT hZ (ow hw 42 rfl)) (mvT hZ (ow hw 43 rfl)) (notFace_of_selects (args := #[]) (mvT hZ (ow hw 45 rfl))) (mvT hZ (ow hw 45 rfl)) (mvT hZ (ow hw 44 rfl)) (by decide) (backOf (W := 0) (rm7_00 l Z ar hw [] b19 tm1 p2 wh1 (0 : Int64) dq_22 es_22 ke_22 T22.heap n0 O22 E22_23 u22_2 u22_1 u22_3 u22_4 u22_5 u22_6 u22_7 u22_8 gn19 gn24 gn26 u22_11 u22_12 u22_13 hc34) hZ (ow hw 46 rfl) (ow hw 2 rfl) (by decide) (by decide)) q102a q102c (g := (mkF m 112 #[jv q0, se, iv p1, iv p2, iv p3, jv q4, se, iv p5, iv lk0, iv wh0, iv lk1, iv wh1, jv tm1, se, rv b19, jv (0 : Int64), se, un, un, un, un, un] [(.int wh1), (.int p2), (.long tm1), (.ref b19)])) rfl (by rw [hml]; rfl) (Steps.refl _) (argsL := [(.long tm1), (.int p2), (.int wh1)]) (rest := []) (lenOf pd_12 rfl) rfl (by show 2 * 0 + _ ≤ _; exact Nat.le_of_eq rfl) (hb hby at_112) (fun _ _ => ⟨rfl, rfl, (by decide : 3 + 0 ≤ _), (by decide : 22 + 0 ≤ _)⟩)
    dsimp only [Pt.U, Pt.locs, Pt.cells, Pt.slots] at X102 l102 y102 z102 st102 hQ102
    subst l102 y102 z102
    obtain ⟨rfl, N102q, Kq102, u102_0, u102_1, u102_2⟩ := hQ102
    have N102 := Fr.app N22 N102q
    have E102_103 := E22_23.keep Kq102
    have E102_104 := u22_3.keep Kq102
    have F102_105 := u22_4.keep Kq102 (ninS (Ne.symm u22_11) nin0)
    have F102_106 := u22_5.keep Kq102 (ninS (Ne.symm u22_11) nin0)
    have F102_107 := u22_6.keep Kq102 (ninS (Ne.symm u22_11) nin0)
    have V102_108 := u22_7.keep Kq102 (ninS (Ne.symm u22_12) nin0)
    have K102 := K22.trans Kq102 (allS (Or.inr sz19) all0)
    have O102 := O22.keep Kq102 (allS gn19 all0)
    have pre109 : ∀ tg, AT p e below T102 m 117 #[jv q0, se, iv p1, iv p2, iv p3, jv q4, se, iv p5, iv lk0, iv wh0, iv lk1, iv wh1, jv tm1, se, rv b19, jv (0 : Int64), se, un, un, un, un, un] [(.int wh1)] tg → Steps p.tables e below S0 tg := fun tg kg => pre33 tg (by
     refine XS.aload X22.here hx rfl (hb hby at_105) rfl rfl ?_
     refine XS.lload X22.here hx rfl (hb hby at_107) rfl ?_
     refine XS.iloadN X22.here hx rfl (hb hby at_109) rfl ?_
     show AT p e below T22 m 110 #[jv q0, se, iv p1, iv p2, iv p3, jv q4, se, iv p5, iv lk0, iv wh0, iv lk1, iv wh1, jv tm1, se, rv b19, jv (0 : Int64), se, un, un, un, un, un] [(.int p2), (.long tm1), (.ref b19)] _
     refine XS.iload X22.here hx rfl (hb hby at_110) rfl ?_
     refine st102.trans ?_
     refine XS.iload X102.here hx rfl (hb hby at_115) rfl ?_
     exact kg)
    have pre110 : ∀ tg, AT p e below T102 m 124 #[jv q0, se, iv p1, iv p2, iv p3, jv q4, se, iv p5, iv lk0, iv wh0, iv lk1, iv wh1, jv tm1, se, rv b19, jv (if wh1 = (0 : Int32) then (0 : Int64) else tm1), se, un, un, un, un, un] [] tg → Steps p.tables e below S0 tg := by
     intro tg kg
     rcases Decidable.em (wh1 = (0 : Int32)) with hd | hd
     ·
      simp only [if_pos hd] at kg
      exact pre109 tg (by
       refine XS.ifYes X102.here hx rfl (pc0 := 117) (pc' := 124) rfl (hb hby at_117) rfl (XT.i0_eq_t hd) (by decide) (by decide) ?_
       exact kg)
     ·
      simp only [if_neg hd] at kg
      exact pre109 tg (by
       refine XS.ifNo X102.here hx rfl (hb hby at_117) rfl (XT.i0_eq_f hd) ?_
       show AT p e below T102 m 120 #[jv q0, se, iv p1, iv p2, iv p3, jv q4, se, iv p5, iv lk0, iv wh0, iv lk1, iv wh1, jv tm1, se, rv b19, jv (0 : Int64), se, un, un, un, un, un] [] _
       refine XS.lload X102.here hx rfl (hb hby at_120) rfl ?_
       refine XS.lstore X102.here hx rfl (hb hby at_122) rfl (l' := #[jv q0, se, iv p1, iv p2, iv p3, jv q4, se, iv p5, iv lk0, iv wh0, iv lk1, iv wh1, jv tm1, se, rv b19, jv tm1, se, un, un, un, un, un]) rfl ?_
       exact kg)
    obtain ⟨cq111, kq111, q111a, q111b, q111c⟩ := isOf hZ rfl E102_103
    obtain ⟨_, _, ⟨T111, L111, k111, n111⟩, -, X111, ⟨Lc111, hQ111, l111, y111, z111⟩, st111⟩ := X102.virtualBack hx (y := y5) (z := y5) hown (mvT hZ (ow hw 28 rfl)) (mvT hZ (ow hw 29 rfl)) (notFace_of_selects (args := #[]) (mvT hZ (ow hw 31 rfl))) (mvT hZ (ow hw 31 rfl)) (mvT hZ (ow hw 30 rfl)) (by decide) (backOf (W := 0) (rm5_0n l Z ar hw [] b19 ((if wh1 = (0 : Int32) then (0 : Int64) else tm1) + q4) p5 (if wh1 = (0 : Int32) then (0 : Int64) else tm1) dq_22 es_22 ke_22 T102.heap n0 O102 E102_103 u102_2 u102_1 E102_104 F102_105 F102_106 F102_107 V102_108) hZ (ow hw 32 rfl) (ow hw 2 rfl) (by decide) (by decide)) q111a q111c (g := (mkF m 137 #[jv q0, se, iv p1, iv p2, iv p3, jv q4, se, iv p5, iv lk0, iv wh0, iv lk1, iv wh1, jv tm1, se, rv b19, jv (if wh1 = (0 : Int32) then (0 : Int64) else tm1), se, jv ((if wh1 = (0 : Int32) then (0 : Int64) else tm1) + q4), se, un, un, un] [(.int p5), (.long ((if wh1 = (0 : Int32) then (0 : Int64) else tm1) + q4)), (.ref b19)])) rfl (by rw [hml]; rfl) (Steps.refl _) (argsL := [(.long ((if wh1 = (0 : Int32) then (0 : Int64) else tm1) + q4)), (.int p5)]) (rest := []) (lenOf pd_11 rfl) rfl (by show 2 * 0 + _ ≤ _; exact Nat.le_of_eq rfl) (hb hby at_137) (fun _ _ => ⟨rfl, rfl, (by decide : 3 + 0 ≤ _), (by decide : 22 + 0 ≤ _)⟩)
    dsimp only [Pt.U, Pt.locs, Pt.cells, Pt.slots] at X111 l111 y111 z111 st111 hQ111
    subst l111 y111 z111
    obtain ⟨rfl, N111q, e111⟩ := hQ111
    have N111 := Fr.app N102 N111q
    obtain ⟨fs, hr, hrun, hended, hW, hsame⟩ := X111.leave (v := some (.int (1 : Int32))) (fun h => by rw [Bd.returns] at h; cases h)
    subst hS0
    refine ⟨_, _, pre110 _ ?_, hrun, hended, _, _, rfl, ?_, ⟨_, rfl⟩, hW, hsame.mono (by decide) (by decide)⟩
    ·
     refine XS.lload X102.here hx rfl (hb hby at_124) rfl ?_
     refine XS.lload X102.here hx rfl (hb hby at_126) rfl ?_
     refine XS.ladd X102.here hx rfl (hb hby at_128) rfl ?_
     show AT p e below T102 m 129 #[jv q0, se, iv p1, iv p2, iv p3, jv q4, se, iv p5, iv lk0, iv wh0, iv lk1, iv wh1, jv tm1, se, rv b19, jv (if wh1 = (0 : Int32) then (0 : Int64) else tm1), se, un, un, un, un, un] [(.long ((if wh1 = (0 : Int32) then (0 : Int64) else tm1) + q4))] _
     refine XS.lstore X102.here hx rfl (hb hby at_129) rfl (l' := #[jv q0, se, iv p1, iv p2, iv p3, jv q4, se, iv p5, iv lk0, iv wh0, iv lk1, iv wh1, jv tm1, se, rv b19, jv (if wh1 = (0 : Int32) then (0 : Int64) else tm1), se, jv ((if wh1 = (0 : Int32) then (0 : Int64) else tm1) + q4), se, un, un, un]) rfl ?_
     refine XS.aload X102.here hx rfl (hb hby at_131) rfl rfl ?_
     refine XS.lload X102.here hx rfl (hb hby at_133) rfl ?_
     show AT p e below T102 m 135 #[jv q0, se, iv p1, iv p2, iv p3, jv q4, se, iv p5, iv lk0, iv wh0, iv lk1, iv wh1, jv tm1, se, rv b19, jv (if wh1 = (0 : Int32) then (0 : Int64) else tm1), se, jv ((if wh1 = (0 : Int32) then (0 : Int64) else tm1) + q4), se, un, un, un] [(.long ((if wh1 = (0 : Int32) then (0 : Int64) else tm1) + q4)), (.ref b19)] _
     refine XS.iload X102.here hx rfl (hb hby at_135) rfl ?_
     refine st111.trans ?_
     refine XS.astore X111.here hx rfl (hb hby at_140) rfl rfl (l' := #[jv q0, se, iv p1, iv p2, iv p3, jv q4, se, iv p5, iv lk0, iv wh0, iv lk1, iv wh1, jv tm1, se, rv b19, jv (if wh1 = (0 : Int32) then (0 : Int64) else tm1), se, jv ((if wh1 = (0 : Int32) then (0 : Int64) else tm1) + q4), se, .val .null, un, un]) rfl ?_
     show AT p e below T111 m 142 #[jv q0, se, iv p1, iv p2, iv p3, jv q4, se, iv p5, iv lk0, iv wh0, iv lk1, iv wh1, jv tm1, se, rv b19, jv (if wh1 = (0 : Int32) then (0 : Int64) else tm1), se, jv ((if wh1 = (0 : Int32) then (0 : Int64) else tm1) + q4), se, .val .null, un, un] [] _
     refine XS.iload X111.here hx rfl (hb hby at_142) rfl ?_
     show AT p e below T111 m 144 #[jv q0, se, iv p1, iv p2, iv p3, jv q4, se, iv p5, iv lk0, iv wh0, iv lk1, iv wh1, jv tm1, se, rv b19, jv (if wh1 = (0 : Int32) then (0 : Int64) else tm1), se, jv ((if wh1 = (0 : Int32) then (0 : Int64) else tm1) + q4), se, .val .null, un, un] [(.int lk0)] _
     refine XS.ifYes X111.here hx rfl (pc0 := 144) (pc' := 160) rfl (hb hby at_144) rfl (XT.i0_eq_t (hc29 : lk0 = (0 : Int32))) (by decide) (by decide) ?_
     refine XS.iload X111.here hx rfl (hb hby at_160) rfl ?_
     show AT p e below T111 m 162 #[jv q0, se, iv p1, iv p2, iv p3, jv q4, se, iv p5, iv lk0, iv wh0, iv lk1, iv wh1, jv tm1, se, rv b19, jv (if wh1 = (0 : Int32) then (0 : Int64) else tm1), se, jv ((if wh1 = (0 : Int32) then (0 : Int64) else tm1) + q4), se, .val .null, un, un] [(.int lk1)] _
     refine XS.ifNo X111.here hx rfl (hb hby at_162) rfl (XT.i0_eq_f (hc31 : ¬ (lk1 = (0 : Int32)))) ?_
     refine XS.iloadN X111.here hx rfl (hb hby at_165) rfl ?_
     show AT p e below T111 m 166 #[jv q0, se, iv p1, iv p2, iv p3, jv q4, se, iv p5, iv lk0, iv wh0, iv lk1, iv wh1, jv tm1, se, rv b19, jv (if wh1 = (0 : Int32) then (0 : Int64) else tm1), se, jv ((if wh1 = (0 : Int32) then (0 : Int64) else tm1) + q4), se, .val .null, un, un] [(.int p2)] _
     refine XS.ifYes X111.here hx rfl (pc0 := 166) (pc' := 178) rfl (hb hby at_166) rfl (XT.i0_le_t (hc34 : ¬ ((0 : Int32) < p2))) (by decide) (by decide) ?_
     show AT p e below T111 m 178 #[jv q0, se, iv p1, iv p2, iv p3, jv q4, se, iv p5, iv lk0, iv wh0, iv lk1, iv wh1, jv tm1, se, rv b19, jv (if wh1 = (0 : Int32) then (0 : Int64) else tm1), se, jv ((if wh1 = (0 : Int32) then (0 : Int64) else tm1) + q4), se, .val .null, un, un] [] _
     refine XS.iconst X111.here hx rfl (hb hby at_178) ?_
     refine XS.istore X111.here hx rfl (hb hby at_179) rfl (l' := #[jv q0, se, iv p1, iv p2, iv p3, jv q4, se, iv p5, iv lk0, iv wh0, iv lk1, iv wh1, jv tm1, se, rv b19, jv (if wh1 = (0 : Int32) then (0 : Int64) else tm1), se, jv ((if wh1 = (0 : Int32) then (0 : Int64) else tm1) + q4), se, .val .null, iv (0 : Int32), un]) rfl ?_
     refine XS.iconst X111.here hx rfl (hb hby at_181) ?_
     show AT p e below T111 m 182 #[jv q0, se, iv p1, iv p2, iv p3, jv q4, se, iv p5, iv lk0, iv wh0, iv lk1, iv wh1, jv tm1, se, rv b19, jv (if wh1 = (0 : Int32) then (0 : Int64) else tm1), se, jv ((if wh1 = (0 : Int32) then (0 : Int64) else tm1) + q4), se, .val .null, iv (0 : Int32), un] [(.int (0 : Int32))] _
     refine XS.istore X111.here hx rfl (hb hby at_182) rfl (l' := #[jv q0, se, iv p1, iv p2, iv p3, jv q4, se, iv p5, iv lk0, iv wh0, iv lk1, iv wh1, jv tm1, se, rv b19, jv (if wh1 = (0 : Int32) then (0 : Int64) else tm1), se, jv ((if wh1 = (0 : Int32) then (0 : Int64) else tm1) + q4), se, .val .null, iv (0 : Int32), iv (0 : Int32)]) rfl ?_
     refine XS.iload X111.here hx rfl (hb hby at_184) rfl ?_
     show AT p e below T111 m 186 #[jv q0, se, iv p1, iv p2, iv p3, jv q4, se, iv p5, iv lk0, iv wh0, iv lk1, iv wh1, jv tm1, se, rv b19, jv (if wh1 = (0 : Int32) then (0 : Int64) else tm1), se, jv ((if wh1 = (0 : Int32) then (0 : Int64) else tm1) + q4), se, .val .null, iv (0 : Int32), iv (0 : Int32)] [(.int (0 : Int32))] _
     refine XS.ifYes X111.here hx rfl (pc0 := 186) (pc' := 203) rfl (hb hby at_186) rfl (XT.i0_eq_t ((by decide) : (0 : Int32) = (0 : Int32))) (by decide) (by decide) ?_
     refine XS.aload X111.here hx rfl (hb hby at_203) rfl rfl ?_
     show AT p e below T111 m 205 #[jv q0, se, iv p1, iv p2, iv p3, jv q4, se, iv p5, iv lk0, iv wh0, iv lk1, iv wh1, jv tm1, se, rv b19, jv (if wh1 = (0 : Int32) then (0 : Int64) else tm1), se, jv ((if wh1 = (0 : Int32) then (0 : Int64) else tm1) + q4), se, .val .null, iv (0 : Int32), iv (0 : Int32)] [.null] _
     refine XS.ifnonnullNo X111.here hx rfl (hb hby at_205) rfl ?_
     show AT p e below T111 m 208 #[jv q0, se, iv p1, iv p2, iv p3, jv q4, se, iv p5, iv lk0, iv wh0, iv lk1, iv wh1, jv tm1, se, rv b19, jv (if wh1 = (0 : Int32) then (0 : Int64) else tm1), se, jv ((if wh1 = (0 : Int32) then (0 : Int64) else tm1) + q4), se, .val .null, iv (0 : Int32), iv (0 : Int32)] [] _
     refine XS.iconst X111.here hx rfl (hb hby at_208) ?_
     refine XS.goto X111.here hx rfl (pc0 := 209) (pc' := 213) rfl (hb hby at_209) (by decide) (by decide) ?_
     exact retN X111 hx (t := .boolean) Bd.returns (by simp) (hb hby at_213) hr
    ·
     show Q0 Z q0 p1 p2 p3 q4 p5 h0 n0 _ T111.heap _
     rw [e111]
     exact ⟨rfl, N111⟩
 ·
  have pre112 : ∀ tg, AT p e below T22 m 83 #[jv q0, se, iv p1, iv p2, iv p3, jv q4, se, iv p5, iv lk0, iv wh0, iv lk1, iv wh1, jv tm1, se, rv b19, jv (0 : Int64), se, un, un, un, un, un] [] tg → Steps p.tables e below S0 tg := fun tg kg => pre28 tg (by
   refine XS.ifNo X22.here hx rfl (hb hby at_80) rfl (XT.i0_eq_f hc29) ?_
   exact kg)
  rcases Decidable.em ((0 : Int32) < p1) with hc113 | hc113
  ·
   obtain ⟨cq114, kq114, q114a, q114b, q114c⟩ := isOf hZ rfl E22_23
   obtain ⟨_, _, ⟨T114, L114, k114, n114⟩, -, X114, ⟨Lc114, hQ114, l114, y114, z114⟩, st114⟩ := X22.virtualBack hx (y := y7) (z := y7) hown (mvT hZ (ow hw 42 rfl)) (mvT hZ (ow hw 43 rfl)) (notFace_of_selects (args := #[]) (mvT hZ (ow hw 45 rfl))) (mvT hZ (ow hw 45 rfl)) (mvT hZ (ow hw 44 rfl)) (by decide) (backOf (W := 0) (rm7_01 l Z ar hw [] b19 q0 p1 wh0 (0 : Int64) dq_22 es_22 ke_22 T22.heap n0 O22 E22_23 u22_2 u22_1 u22_3 u22_4 u22_5 u22_6 u22_7 u22_8 gn19 gn24 gn26 u22_11 u22_12 u22_13 hc113) hZ (ow hw 46 rfl) (ow hw 2 rfl) (by decide) (by decide)) q114a q114c (g := (mkF m 89 #[jv q0, se, iv p1, iv p2, iv p3, jv q4, se, iv p5, iv lk0, iv wh0, iv lk1, iv wh1, jv tm1, se, rv b19, jv (0 : Int64), se, un, un, un, un, un] [(.int wh0), (.int p1), (.long q0), (.ref b19)])) rfl (by rw [hml]; rfl) (Steps.refl _) (argsL := [(.long q0), (.int p1), (.int wh0)]) (rest := []) (lenOf pd_12 rfl) rfl (by show 2 * 0 + _ ≤ _; exact Nat.le_of_eq rfl) (hb hby at_89) (fun _ _ => ⟨rfl, rfl, (by decide : 3 + 1 ≤ _), (by decide : 22 + 2 ≤ _)⟩)
   dsimp only [Pt.U, Pt.locs, Pt.cells, Pt.slots] at X114 l114 y114 z114 st114 hQ114
   subst l114 y114 z114
   obtain ⟨nw_114, kn_114, rfl, N114q, Kq114, u114_0, u114_1, u114_2, u114_3, u114_4, u114_5, u114_6, u114_7, u114_8, u114_9⟩ := hQ114
   have N114 := Fr.app N22 N114q
   have E114_115 := E22_23.keep Kq114
   have E114_116 := u22_3.keep Kq114
   have K114 := K22.trans Kq114 (allS (Or.inr sz19) (allS (Or.inr sz24) (allS (Or.inr sz26) all0)))
   have O114 := O22.keep Kq114 (allS gn19 (allS gn24 (allS gn26 all0)))
   have sz117 : h0.size ≤ nw_114 := Nat.le_trans K22.1 u114_9
   have gn117 : n0 ≤ nw_114 := Nat.le_trans (Nat.le_trans (Nat.le_of_eq O22.1.symm) O22.2.1) u114_9
   have ne118 : b19 ≠ nw_114 := Nat.ne_of_lt (Nat.lt_of_lt_of_le (E22_23).lt u114_9)
   have ne119 : dq_22 ≠ nw_114 := Nat.ne_of_lt (Nat.lt_of_lt_of_le (u22_3).lt u114_9)
   have ne120 : es_22 ≠ nw_114 := Nat.ne_of_lt (Nat.lt_of_lt_of_le (u22_7).lt u114_9)
   have pre121 : ∀ tg, AT p e below T114 m 94 #[jv q0, se, iv p1, iv p2, iv p3, jv q4, se, iv p5, iv lk0, iv wh0, iv lk1, iv wh1, jv tm1, se, rv b19, jv (0 : Int64), se, un, un, un, un, un] [(.int wh0)] tg → Steps p.tables e below S0 tg := fun tg kg => pre112 tg (by
    refine XS.aload X22.here hx rfl (hb hby at_83) rfl rfl ?_
    refine XS.lloadN X22.here hx rfl (hb hby at_85) rfl ?_
    refine XS.iloadN X22.here hx rfl (hb hby at_86) rfl ?_
    show AT p e below T22 m 87 #[jv q0, se, iv p1, iv p2, iv p3, jv q4, se, iv p5, iv lk0, iv wh0, iv lk1, iv wh1, jv tm1, se, rv b19, jv (0 : Int64), se, un, un, un, un, un] [(.int p1), (.long q0), (.ref b19)] _
    refine XS.iload X22.here hx rfl (hb hby at_87) rfl ?_
    refine st114.trans ?_
    refine XS.iload X114.here hx rfl (hb hby at_92) rfl ?_
    exact kg)
   have pre122 : ∀ tg, AT p e below T114 m 100 #[jv q0, se, iv p1, iv p2, iv p3, jv q4, se, iv p5, iv lk0, iv wh0, iv lk1, iv wh1, jv tm1, se, rv b19, jv (if wh0 = (0 : Int32) then (0 : Int64) else q0), se, un, un, un, un, un] [] tg → Steps p.tables e below S0 tg := by
    intro tg kg
    rcases Decidable.em (wh0 = (0 : Int32)) with hd | hd
    ·
     simp only [if_pos hd] at kg
     exact pre121 tg (by
      refine XS.ifYes X114.here hx rfl (pc0 := 94) (pc' := 100) rfl (hb hby at_94) rfl (XT.i0_eq_t hd) (by decide) (by decide) ?_
      exact kg)
    ·
     simp only [if_neg hd] at kg
     exact pre121 tg (by
      refine XS.ifNo X114.here hx rfl (hb hby at_94) rfl (XT.i0_eq_f hd) ?_
      show AT p e below T114 m 97 #[jv q0, se, iv p1, iv p2, iv p3, jv q4, se, iv p5, iv lk0, iv wh0, iv lk1, iv wh1, jv tm1, se, rv b19, jv (0 : Int64), se, un, un, un, un, un] [] _
      refine XS.lloadN X114.here hx rfl (hb hby at_97) rfl ?_
      refine XS.lstore X114.here hx rfl (hb hby at_98) rfl (l' := #[jv q0, se, iv p1, iv p2, iv p3, jv q4, se, iv p5, iv lk0, iv wh0, iv lk1, iv wh1, jv tm1, se, rv b19, jv q0, se, un, un, un, un, un]) rfl ?_
      exact kg)
   have pre123 : ∀ tg, AT p e below T114 m 102 #[jv q0, se, iv p1, iv p2, iv p3, jv q4, se, iv p5, iv lk0, iv wh0, iv lk1, iv wh1, jv tm1, se, rv b19, jv (if wh0 = (0 : Int32) then (0 : Int64) else q0), se, un, un, un, un, un] [(.int lk1)] tg → Steps p.tables e below S0 tg := fun tg kg => pre122 tg (by
    refine XS.iload X114.here hx rfl (hb hby at_100) rfl ?_
    exact kg)
   rcases Decidable.em (lk1 = (0 : Int32)) with hc124 | hc124
   ·
    have pre125 : ∀ tg, AT p e below T114 m 131 #[jv q0, se, iv p1, iv p2, iv p3, jv q4, se, iv p5, iv lk0, iv wh0, iv lk1, iv wh1, jv tm1, se, rv b19, jv (if wh0 = (0 : Int32) then (0 : Int64) else q0), se, jv ((if wh0 = (0 : Int32) then (0 : Int64) else q0) + q4), se, un, un, un] [] tg → Steps p.tables e below S0 tg := fun tg kg => pre123 tg (by
     refine XS.ifYes X114.here hx rfl (pc0 := 102) (pc' := 124) rfl (hb hby at_102) rfl (XT.i0_eq_t hc124) (by decide) (by decide) ?_
     refine XS.lload X114.here hx rfl (hb hby at_124) rfl ?_
     refine XS.lload X114.here hx rfl (hb hby at_126) rfl ?_
     show AT p e below T114 m 128 #[jv q0, se, iv p1, iv p2, iv p3, jv q4, se, iv p5, iv lk0, iv wh0, iv lk1, iv wh1, jv tm1, se, rv b19, jv (if wh0 = (0 : Int32) then (0 : Int64) else q0), se, un, un, un, un, un] [(.long q4), (.long (if wh0 = (0 : Int32) then (0 : Int64) else q0))] _
     refine XS.ladd X114.here hx rfl (hb hby at_128) rfl ?_
     refine XS.lstore X114.here hx rfl (hb hby at_129) rfl (l' := #[jv q0, se, iv p1, iv p2, iv p3, jv q4, se, iv p5, iv lk0, iv wh0, iv lk1, iv wh1, jv tm1, se, rv b19, jv (if wh0 = (0 : Int32) then (0 : Int64) else q0), se, jv ((if wh0 = (0 : Int32) then (0 : Int64) else q0) + q4), se, un, un, un]) rfl ?_
     exact kg)
    rcases Decidable.em ((0 : Int32) < p5) with hc126 | hc126
    ·
     rcases Decidable.em (q4 < (600000000000 : Int64)) with hc127 | hc127
     ·
      rcases Decidable.em (p1 < p5) with hc128 | hc128
      ·
       obtain ⟨cq129, kq129, q129a, q129b, q129c⟩ := isOf hZ rfl E114_115
       obtain ⟨_, _, ⟨T129, L129, k129, n129⟩, -, X129, ⟨Lc129, hQ129, l129, y129, z129⟩, st129⟩ := X114.virtualBack hx (y := y5) (z := y5) hown (mvT hZ (ow hw 28 rfl)) (mvT hZ (ow hw 29 rfl)) (notFace_of_selects (args := #[]) (mvT hZ (ow hw 31 rfl))) (mvT hZ (ow hw 31 rfl)) (mvT hZ (ow hw 30 rfl)) (by decide) (backOf (W := 0) (rm5_1l l Z ar hw [] b19 ((if wh0 = (0 : Int32) then (0 : Int64) else q0) + q4) p5 (if wh0 = (0 : Int32) then (0 : Int64) else q0) dq_22 es_22 ke_22 nw_114 kn_114 q0 p1 T114.heap n0 O114 HW E114_115 u114_2 u114_1 E114_116 u114_3 u114_4 u114_5 u114_6 u114_7 u114_8 hc126 (by rw [own_wd]; exact hc127) hc128) hZ (ow hw 32 rfl) (ow hw 2 rfl) (by decide) (by decide)) q129a q129c (g := (mkF m 137 #[jv q0, se, iv p1, iv p2, iv p3, jv q4, se, iv p5, iv lk0, iv wh0, iv lk1, iv wh1, jv tm1, se, rv b19, jv (if wh0 = (0 : Int32) then (0 : Int64) else q0), se, jv ((if wh0 = (0 : Int32) then (0 : Int64) else q0) + q4), se, un, un, un] [(.int p5), (.long ((if wh0 = (0 : Int32) then (0 : Int64) else q0) + q4)), (.ref b19)])) rfl (by rw [hml]; rfl) (Steps.refl _) (argsL := [(.long ((if wh0 = (0 : Int32) then (0 : Int64) else q0) + q4)), (.int p5)]) (rest := []) (lenOf pd_11 rfl) rfl (by show 2 * 0 + _ ≤ _; exact Nat.le_of_eq rfl) (hb hby at_137) (fun _ _ => ⟨rfl, rfl, (by decide : 4 + 1 ≤ _), (by decide : 24 + 2 ≤ _)⟩)
       dsimp only [Pt.U, Pt.locs, Pt.cells, Pt.slots] at X129 l129 y129 z129 st129 hQ129
       subst l129 y129 z129
       obtain ⟨b_129, kb_129, rfl, N129q, Kq129, u129_0, u129_1⟩ := hQ129
       have N129 := Fr.app N114 N129q
       have E129_130 := E114_115.keep Kq129
       have E129_131 := E114_116.keep Kq129
       have F129_132 := u114_1.keep Kq129 nin0
       have F129_133 := u114_2.keep Kq129 nin0
       have F129_134 := u114_3.keep Kq129 nin0
       have F129_135 := u114_4.keep Kq129 nin0
       have F129_136 := u114_5.keep Kq129 nin0
       have V129_137 := u114_6.keep Kq129 nin0
       have E129_138 := u114_7.keep Kq129
       have V129_139 := u114_8.keep Kq129 nin0
       have K129 := K114.trans Kq129 all0
       have O129 := O114.keep Kq129 all0
       have sz140 : h0.size ≤ b_129 := Nat.le_trans K114.1 u129_1
       have gn140 : n0 ≤ b_129 := Nat.le_trans (Nat.le_trans (Nat.le_of_eq O114.1.symm) O114.2.1) u129_1
       have ne141 : b19 ≠ b_129 := Nat.ne_of_lt (Nat.lt_of_lt_of_le (E114_115).lt u129_1)
       have ne142 : dq_22 ≠ b_129 := Nat.ne_of_lt (Nat.lt_of_lt_of_le (E114_116).lt u129_1)
       have ne143 : es_22 ≠ b_129 := Nat.ne_of_lt (Nat.lt_of_lt_of_le (u114_6).lt u129_1)
       have ne144 : nw_114 ≠ b_129 := Nat.ne_of_lt (Nat.lt_of_lt_of_le (u114_7).lt u129_1)
       obtain ⟨_, _, ⟨T145, L145, k145, n145⟩, -, X145, ⟨Lc145, hQ145, l145, y145, z145⟩, st145⟩ := Jvm.LawKit.callS X129 hx (y := y19) hown (mvT hZ (ow hw 124 rfl)) (mvT hZ (ow hw 125 rfl)) (mvT hZ (ow hw 126 rfl)) (mvT hZ (ow hw 127 rfl)) (by decide) (backOf (W := 0) (rm19_2 l Z ar hw [] b_129 (p1 + (1 : Int32)) p5 (0 : Int32) (0 : Int32) kb_129 (p1 + (1 : Int32)) p5 T129.heap n0 O129 u129_0) hZ (ow hw 127 rfl) (ow hw 126 rfl) (by decide) (by decide)) (g := (mkF m 232 #[jv q0, se, iv p1, iv p2, iv p3, jv q4, se, iv p5, iv lk0, iv wh0, iv lk1, iv wh1, jv tm1, se, rv b19, jv (if wh0 = (0 : Int32) then (0 : Int64) else q0), se, jv ((if wh0 = (0 : Int32) then (0 : Int64) else q0) + q4), se, rv b_129, iv (1 : Int32), iv p1] [(.int (0 : Int32)), (.int (0 : Int32)), (.int p5), (.int (p1 + (1 : Int32))), (.int (2 : Int32)), (.ref b_129)])) rfl (by rw [hml]; rfl) (argsL := [(.ref b_129), (.int (2 : Int32)), (.int (p1 + (1 : Int32))), (.int p5), (.int (0 : Int32)), (.int (0 : Int32))]) (rest := []) (lenOf pd_13 rfl) rfl (by show 2 * 0 + _ ≤ _; exact Nat.le_of_eq rfl) (hb hby at_232) (fun _ _ => ⟨rfl, rfl, (by decide : 5 + 0 ≤ _), (by decide : 26 + 0 ≤ _)⟩)
       dsimp only [Pt.U, Pt.locs, Pt.cells, Pt.slots] at X145 l145 y145 z145 st145 hQ145
       subst l145 y145 z145
       obtain ⟨rfl, N145q, e145⟩ := hQ145
       have N145 := Fr.app N129 N145q
       have r145 : (f19_2 (p1 + (1 : Int32)) p5 (p1 + (1 : Int32)) p5) = (1 : Int32) := by rw [f19_2, if_pos (rfl : (p1 + (1 : Int32)) = (p1 + (1 : Int32))), if_pos (rfl : p5 = p5)] <;> decide
       rw [r145] at st145
       obtain ⟨fs, hr, hrun, hended, hW, hsame⟩ := X145.leave (v := some (.int (1 : Int32))) (fun h => by rw [Bd.returns] at h; cases h)
       subst hS0
       refine ⟨_, _, pre125 _ ?_, hrun, hended, _, _, rfl, ?_, ⟨_, rfl⟩, hW, hsame.mono (by decide) (by decide)⟩
       ·
        refine XS.aload X114.here hx rfl (hb hby at_131) rfl rfl ?_
        refine XS.lload X114.here hx rfl (hb hby at_133) rfl ?_
        refine XS.iload X114.here hx rfl (hb hby at_135) rfl ?_
        show AT p e below T114 m 137 #[jv q0, se, iv p1, iv p2, iv p3, jv q4, se, iv p5, iv lk0, iv wh0, iv lk1, iv wh1, jv tm1, se, rv b19, jv (if wh0 = (0 : Int32) then (0 : Int64) else q0), se, jv ((if wh0 = (0 : Int32) then (0 : Int64) else q0) + q4), se, un, un, un] [(.int p5), (.long ((if wh0 = (0 : Int32) then (0 : Int64) else q0) + q4)), (.ref b19)] _
        refine st129.trans ?_
        refine XS.astore X129.here hx rfl (hb hby at_140) rfl rfl (l' := #[jv q0, se, iv p1, iv p2, iv p3, jv q4, se, iv p5, iv lk0, iv wh0, iv lk1, iv wh1, jv tm1, se, rv b19, jv (if wh0 = (0 : Int32) then (0 : Int64) else q0), se, jv ((if wh0 = (0 : Int32) then (0 : Int64) else q0) + q4), se, rv b_129, un, un]) rfl ?_
        refine XS.iload X129.here hx rfl (hb hby at_142) rfl ?_
        show AT p e below T129 m 144 #[jv q0, se, iv p1, iv p2, iv p3, jv q4, se, iv p5, iv lk0, iv wh0, iv lk1, iv wh1, jv tm1, se, rv b19, jv (if wh0 = (0 : Int32) then (0 : Int64) else q0), se, jv ((if wh0 = (0 : Int32) then (0 : Int64) else q0) + q4), se, rv b_129, un, un] [(.int lk0)] _
        refine XS.ifNo X129.here hx rfl (hb hby at_144) rfl (XT.i0_eq_f (hc29 : ¬ (lk0 = (0 : Int32)))) ?_
        show AT p e below T129 m 147 #[jv q0, se, iv p1, iv p2, iv p3, jv q4, se, iv p5, iv lk0, iv wh0, iv lk1, iv wh1, jv tm1, se, rv b19, jv (if wh0 = (0 : Int32) then (0 : Int64) else q0), se, jv ((if wh0 = (0 : Int32) then (0 : Int64) else q0) + q4), se, rv b_129, un, un] [] _
        refine XS.iloadN X129.here hx rfl (hb hby at_147) rfl ?_
        show AT p e below T129 m 148 #[jv q0, se, iv p1, iv p2, iv p3, jv q4, se, iv p5, iv lk0, iv wh0, iv lk1, iv wh1, jv tm1, se, rv b19, jv (if wh0 = (0 : Int32) then (0 : Int64) else q0), se, jv ((if wh0 = (0 : Int32) then (0 : Int64) else q0) + q4), se, rv b_129, un, un] [(.int p1)] _
        refine XS.ifNo X129.here hx rfl (hb hby at_148) rfl (XT.i0_le_f (hc113 : (0 : Int32) < p1)) ?_
        refine XS.iconst X129.here hx rfl (hb hby at_151) ?_
        refine XS.istore X129.here hx rfl (hb hby at_152) rfl (l' := #[jv q0, se, iv p1, iv p2, iv p3, jv q4, se, iv p5, iv lk0, iv wh0, iv lk1, iv wh1, jv tm1, se, rv b19, jv (if wh0 = (0 : Int32) then (0 : Int64) else q0), se, jv ((if wh0 = (0 : Int32) then (0 : Int64) else q0) + q4), se, rv b_129, iv (1 : Int32), un]) rfl ?_
        show AT p e below T129 m 154 #[jv q0, se, iv p1, iv p2, iv p3, jv q4, se, iv p5, iv lk0, iv wh0, iv lk1, iv wh1, jv tm1, se, rv b19, jv (if wh0 = (0 : Int32) then (0 : Int64) else q0), se, jv ((if wh0 = (0 : Int32) then (0 : Int64) else q0) + q4), se, rv b_129, iv (1 : Int32), un] [] _
        refine XS.iloadN X129.here hx rfl (hb hby at_154) rfl ?_
        refine XS.istore X129.here hx rfl (hb hby at_155) rfl (l' := #[jv q0, se, iv p1, iv p2, iv p3, jv q4, se, iv p5, iv lk0, iv wh0, iv lk1, iv wh1, jv tm1, se, rv b19, jv (if wh0 = (0 : Int32) then (0 : Int64) else q0), se, jv ((if wh0 = (0 : Int32) then (0 : Int64) else q0) + q4), se, rv b_129, iv (1 : Int32), iv p1]) rfl ?_
        refine XS.goto X129.here hx rfl (pc0 := 157) (pc' := 184) rfl (hb hby at_157) (by decide) (by decide) ?_
        show AT p e below T129 m 184 #[jv q0, se, iv p1, iv p2, iv p3, jv q4, se, iv p5, iv lk0, iv wh0, iv lk1, iv wh1, jv tm1, se, rv b19, jv (if wh0 = (0 : Int32) then (0 : Int64) else q0), se, jv ((if wh0 = (0 : Int32) then (0 : Int64) else q0) + q4), se, rv b_129, iv (1 : Int32), iv p1] [] _
        refine XS.iload X129.here hx rfl (hb hby at_184) rfl ?_
        show AT p e below T129 m 186 #[jv q0, se, iv p1, iv p2, iv p3, jv q4, se, iv p5, iv lk0, iv wh0, iv lk1, iv wh1, jv tm1, se, rv b19, jv (if wh0 = (0 : Int32) then (0 : Int64) else q0), se, jv ((if wh0 = (0 : Int32) then (0 : Int64) else q0) + q4), se, rv b_129, iv (1 : Int32), iv p1] [(.int (1 : Int32))] _
        refine XS.ifNo X129.here hx rfl (hb hby at_186) rfl (XT.i0_eq_f ((by decide) : ¬ ((1 : Int32) = (0 : Int32)))) ?_
        refine XS.iload X129.here hx rfl (hb hby at_189) rfl ?_
        show AT p e below T129 m 191 #[jv q0, se, iv p1, iv p2, iv p3, jv q4, se, iv p5, iv lk0, iv wh0, iv lk1, iv wh1, jv tm1, se, rv b19, jv (if wh0 = (0 : Int32) then (0 : Int64) else q0), se, jv ((if wh0 = (0 : Int32) then (0 : Int64) else q0) + q4), se, rv b_129, iv (1 : Int32), iv p1] [(.int p5)] _
        refine XS.ifNo X129.here hx rfl (hb hby at_191) rfl (XT.i0_le_f (hc126 : (0 : Int32) < p5)) ?_
        refine XS.lload X129.here hx rfl (hb hby at_194) rfl ?_
        show AT p e below T129 m 196 #[jv q0, se, iv p1, iv p2, iv p3, jv q4, se, iv p5, iv lk0, iv wh0, iv lk1, iv wh1, jv tm1, se, rv b19, jv (if wh0 = (0 : Int32) then (0 : Int64) else q0), se, jv ((if wh0 = (0 : Int32) then (0 : Int64) else q0) + q4), se, rv b_129, iv (1 : Int32), iv p1] [(.long q4)] _
        refine X129.ldc2Long hx hown (mvT hZ (ow hw 123 rfl)) (g := (mkF m 196 #[jv q0, se, iv p1, iv p2, iv p3, jv q4, se, iv p5, iv lk0, iv wh0, iv lk1, iv wh1, jv tm1, se, rv b19, jv (if wh0 = (0 : Int32) then (0 : Int64) else q0), se, jv ((if wh0 = (0 : Int32) then (0 : Int64) else q0) + q4), se, rv b_129, iv (1 : Int32), iv p1] [(.long q4)])) rfl (hb hby at_196) _ ?_
        refine XS.lcmp X129.here hx rfl (hb hby at_199) rfl ?_
        show AT p e below T129 m 200 #[jv q0, se, iv p1, iv p2, iv p3, jv q4, se, iv p5, iv lk0, iv wh0, iv lk1, iv wh1, jv tm1, se, rv b19, jv (if wh0 = (0 : Int32) then (0 : Int64) else q0), se, jv ((if wh0 = (0 : Int32) then (0 : Int64) else q0) + q4), se, rv b_129, iv (1 : Int32), iv p1] [(.int (XT.cmpL q4 (600000000000 : Int64)))] _
        refine XS.ifYes X129.here hx rfl (pc0 := 200) (pc' := 214) rfl (hb hby at_200) rfl (XT.ll_lt_t (hc127 : q4 < (600000000000 : Int64))) (by decide) (by decide) ?_
        refine XS.iload X129.here hx rfl (hb hby at_214) rfl ?_
        show AT p e below T129 m 216 #[jv q0, se, iv p1, iv p2, iv p3, jv q4, se, iv p5, iv lk0, iv wh0, iv lk1, iv wh1, jv tm1, se, rv b19, jv (if wh0 = (0 : Int32) then (0 : Int64) else q0), se, jv ((if wh0 = (0 : Int32) then (0 : Int64) else q0) + q4), se, rv b_129, iv (1 : Int32), iv p1] [(.int p1)] _
        refine XS.iload X129.here hx rfl (hb hby at_216) rfl ?_
        show AT p e below T129 m 218 #[jv q0, se, iv p1, iv p2, iv p3, jv q4, se, iv p5, iv lk0, iv wh0, iv lk1, iv wh1, jv tm1, se, rv b19, jv (if wh0 = (0 : Int32) then (0 : Int64) else q0), se, jv ((if wh0 = (0 : Int32) then (0 : Int64) else q0) + q4), se, rv b_129, iv (1 : Int32), iv p1] [(.int p5), (.int p1)] _
        refine XS.icmpNo X129.here hx rfl (hb hby at_218) rfl (XT.ii_ge_f (hc128 : p1 < p5)) ?_
        refine XS.aload X129.here hx rfl (hb hby at_221) rfl rfl ?_
        refine XS.iconst X129.here hx rfl (hb hby at_223) ?_
        show AT p e below T129 m 224 #[jv q0, se, iv p1, iv p2, iv p3, jv q4, se, iv p5, iv lk0, iv wh0, iv lk1, iv wh1, jv tm1, se, rv b19, jv (if wh0 = (0 : Int32) then (0 : Int64) else q0), se, jv ((if wh0 = (0 : Int32) then (0 : Int64) else q0) + q4), se, rv b_129, iv (1 : Int32), iv p1] [(.int (2 : Int32)), (.ref b_129)] _
        refine XS.iload X129.here hx rfl (hb hby at_224) rfl ?_
        refine XS.iconst X129.here hx rfl (hb hby at_226) ?_
        refine XS.iadd X129.here hx rfl (hb hby at_227) rfl ?_
        show AT p e below T129 m 228 #[jv q0, se, iv p1, iv p2, iv p3, jv q4, se, iv p5, iv lk0, iv wh0, iv lk1, iv wh1, jv tm1, se, rv b19, jv (if wh0 = (0 : Int32) then (0 : Int64) else q0), se, jv ((if wh0 = (0 : Int32) then (0 : Int64) else q0) + q4), se, rv b_129, iv (1 : Int32), iv p1] [(.int (p1 + (1 : Int32))), (.int (2 : Int32)), (.ref b_129)] _
        refine XS.iload X129.here hx rfl (hb hby at_228) rfl ?_
        refine XS.iconst X129.here hx rfl (hb hby at_230) ?_
        refine XS.iconst X129.here hx rfl (hb hby at_231) ?_
        show AT p e below T129 m 232 #[jv q0, se, iv p1, iv p2, iv p3, jv q4, se, iv p5, iv lk0, iv wh0, iv lk1, iv wh1, jv tm1, se, rv b19, jv (if wh0 = (0 : Int32) then (0 : Int64) else q0), se, jv ((if wh0 = (0 : Int32) then (0 : Int64) else q0) + q4), se, rv b_129, iv (1 : Int32), iv p1] [(.int (0 : Int32)), (.int (0 : Int32)), (.int p5), (.int (p1 + (1 : Int32))), (.int (2 : Int32)), (.ref b_129)] _
        refine st145 _ ?_
        exact retN X145 hx (t := .boolean) Bd.returns (by simp) (hb hby at_235) hr
       ·
        show Q0 Z q0 p1 p2 p3 q4 p5 h0 n0 _ T145.heap _
        rw [e145]
        exact ⟨rfl, N145⟩
      ·
       rcases Decidable.em (p5 < p1) with hc146 | hc146
       ·
        obtain ⟨cq147, kq147, q147a, q147b, q147c⟩ := isOf hZ rfl E114_115
        obtain ⟨_, _, ⟨T147, L147, k147, n147⟩, -, X147, ⟨Lc147, hQ147, l147, y147, z147⟩, st147⟩ := X114.virtualBack hx (y := y5) (z := y5) hown (mvT hZ (ow hw 28 rfl)) (mvT hZ (ow hw 29 rfl)) (notFace_of_selects (args := #[]) (mvT hZ (ow hw 31 rfl))) (mvT hZ (ow hw 31 rfl)) (mvT hZ (ow hw 30 rfl)) (by decide) (backOf (W := 0) (rm5_1g l Z ar hw [] b19 ((if wh0 = (0 : Int32) then (0 : Int64) else q0) + q4) p5 (if wh0 = (0 : Int32) then (0 : Int64) else q0) dq_22 es_22 ke_22 nw_114 kn_114 q0 p1 T114.heap n0 O114 HW E114_115 u114_2 u114_1 E114_116 u114_3 u114_4 u114_5 u114_6 u114_7 u114_8 hc126 (by rw [own_wd]; exact hc127) hc128 hc146) hZ (ow hw 32 rfl) (ow hw 2 rfl) (by decide) (by decide)) q147a q147c (g := (mkF m 137 #[jv q0, se, iv p1, iv p2, iv p3, jv q4, se, iv p5, iv lk0, iv wh0, iv lk1, iv wh1, jv tm1, se, rv b19, jv (if wh0 = (0 : Int32) then (0 : Int64) else q0), se, jv ((if wh0 = (0 : Int32) then (0 : Int64) else q0) + q4), se, un, un, un] [(.int p5), (.long ((if wh0 = (0 : Int32) then (0 : Int64) else q0) + q4)), (.ref b19)])) rfl (by rw [hml]; rfl) (Steps.refl _) (argsL := [(.long ((if wh0 = (0 : Int32) then (0 : Int64) else q0) + q4)), (.int p5)]) (rest := []) (lenOf pd_11 rfl) rfl (by show 2 * 0 + _ ≤ _; exact Nat.le_of_eq rfl) (hb hby at_137) (fun _ _ => ⟨rfl, rfl, (by decide : 4 + 1 ≤ _), (by decide : 24 + 4 ≤ _)⟩)
        dsimp only [Pt.U, Pt.locs, Pt.cells, Pt.slots] at X147 l147 y147 z147 st147 hQ147
        subst l147 y147 z147
        obtain ⟨b_147, kb_147, rfl, N147q, Kq147, u147_0, u147_1⟩ := hQ147
        have N147 := Fr.app N114 N147q
        have E147_148 := E114_115.keep Kq147
        have E147_149 := E114_116.keep Kq147
        have F147_150 := u114_1.keep Kq147 nin0
        have F147_151 := u114_2.keep Kq147 nin0
        have F147_152 := u114_3.keep Kq147 nin0
        have F147_153 := u114_4.keep Kq147 nin0
        have F147_154 := u114_5.keep Kq147 nin0
        have V147_155 := u114_6.keep Kq147 nin0
        have E147_156 := u114_7.keep Kq147
        have V147_157 := u114_8.keep Kq147 nin0
        have K147 := K114.trans Kq147 all0
        have O147 := O114.keep Kq147 all0
        have sz158 : h0.size ≤ b_147 := Nat.le_trans K114.1 u147_1
        have gn158 : n0 ≤ b_147 := Nat.le_trans (Nat.le_trans (Nat.le_of_eq O114.1.symm) O114.2.1) u147_1
        have ne159 : b19 ≠ b_147 := Nat.ne_of_lt (Nat.lt_of_lt_of_le (E114_115).lt u147_1)
        have ne160 : dq_22 ≠ b_147 := Nat.ne_of_lt (Nat.lt_of_lt_of_le (E114_116).lt u147_1)
        have ne161 : es_22 ≠ b_147 := Nat.ne_of_lt (Nat.lt_of_lt_of_le (u114_6).lt u147_1)
        have ne162 : nw_114 ≠ b_147 := Nat.ne_of_lt (Nat.lt_of_lt_of_le (u114_7).lt u147_1)
        obtain ⟨_, _, ⟨T163, L163, k163, n163⟩, -, X163, ⟨Lc163, hQ163, l163, y163, z163⟩, st163⟩ := Jvm.LawKit.callS X147 hx (y := y19) hown (mvT hZ (ow hw 124 rfl)) (mvT hZ (ow hw 125 rfl)) (mvT hZ (ow hw 126 rfl)) (mvT hZ (ow hw 127 rfl)) (by decide) (backOf (W := 0) (rm19_4 l Z ar hw [] b_147 (p1 + (1 : Int32)) (2147483647 : Int32) (1 : Int32) p5 kb_147 (p1 + (1 : Int32)) (2147483647 : Int32) (1 : Int32) p5 T147.heap n0 O147 u147_0) hZ (ow hw 127 rfl) (ow hw 126 rfl) (by decide) (by decide)) (g := (mkF m 255 #[jv q0, se, iv p1, iv p2, iv p3, jv q4, se, iv p5, iv lk0, iv wh0, iv lk1, iv wh1, jv tm1, se, rv b19, jv (if wh0 = (0 : Int32) then (0 : Int64) else q0), se, jv ((if wh0 = (0 : Int32) then (0 : Int64) else q0) + q4), se, rv b_147, iv (1 : Int32), iv p1] [(.int p5), (.int (1 : Int32)), (.int (2147483647 : Int32)), (.int (p1 + (1 : Int32))), (.int (4 : Int32)), (.ref b_147)])) rfl (by rw [hml]; rfl) (argsL := [(.ref b_147), (.int (4 : Int32)), (.int (p1 + (1 : Int32))), (.int (2147483647 : Int32)), (.int (1 : Int32)), (.int p5)]) (rest := []) (lenOf pd_13 rfl) rfl (by show 2 * 0 + _ ≤ _; exact Nat.le_of_eq rfl) (hb hby at_255) (fun _ _ => ⟨rfl, rfl, (by decide : 5 + 0 ≤ _), (by decide : 28 + 0 ≤ _)⟩)
        dsimp only [Pt.U, Pt.locs, Pt.cells, Pt.slots] at X163 l163 y163 z163 st163 hQ163
        subst l163 y163 z163
        obtain ⟨rfl, N163q, e163⟩ := hQ163
        have N163 := Fr.app N147 N163q
        have r163 : (f19_4 (p1 + (1 : Int32)) (2147483647 : Int32) (1 : Int32) p5 (p1 + (1 : Int32)) (2147483647 : Int32) (1 : Int32) p5) = (1 : Int32) := by rw [f19_4, if_pos (rfl : (p1 + (1 : Int32)) = (p1 + (1 : Int32))), if_pos ((by decide) : (2147483647 : Int32) = (2147483647 : Int32)), if_pos ((by decide) : (1 : Int32) = (1 : Int32)), if_pos (rfl : p5 = p5)] <;> decide
        rw [r163] at st163
        obtain ⟨fs, hr, hrun, hended, hW, hsame⟩ := X163.leave (v := some (.int (1 : Int32))) (fun h => by rw [Bd.returns] at h; cases h)
        subst hS0
        refine ⟨_, _, pre125 _ ?_, hrun, hended, _, _, rfl, ?_, ⟨_, rfl⟩, hW, hsame.mono (by decide) (by decide)⟩
        ·
         refine XS.aload X114.here hx rfl (hb hby at_131) rfl rfl ?_
         refine XS.lload X114.here hx rfl (hb hby at_133) rfl ?_
         refine XS.iload X114.here hx rfl (hb hby at_135) rfl ?_
         show AT p e below T114 m 137 #[jv q0, se, iv p1, iv p2, iv p3, jv q4, se, iv p5, iv lk0, iv wh0, iv lk1, iv wh1, jv tm1, se, rv b19, jv (if wh0 = (0 : Int32) then (0 : Int64) else q0), se, jv ((if wh0 = (0 : Int32) then (0 : Int64) else q0) + q4), se, un, un, un] [(.int p5), (.long ((if wh0 = (0 : Int32) then (0 : Int64) else q0) + q4)), (.ref b19)] _
         refine st147.trans ?_
         refine XS.astore X147.here hx rfl (hb hby at_140) rfl rfl (l' := #[jv q0, se, iv p1, iv p2, iv p3, jv q4, se, iv p5, iv lk0, iv wh0, iv lk1, iv wh1, jv tm1, se, rv b19, jv (if wh0 = (0 : Int32) then (0 : Int64) else q0), se, jv ((if wh0 = (0 : Int32) then (0 : Int64) else q0) + q4), se, rv b_147, un, un]) rfl ?_
         refine XS.iload X147.here hx rfl (hb hby at_142) rfl ?_
         show AT p e below T147 m 144 #[jv q0, se, iv p1, iv p2, iv p3, jv q4, se, iv p5, iv lk0, iv wh0, iv lk1, iv wh1, jv tm1, se, rv b19, jv (if wh0 = (0 : Int32) then (0 : Int64) else q0), se, jv ((if wh0 = (0 : Int32) then (0 : Int64) else q0) + q4), se, rv b_147, un, un] [(.int lk0)] _
         refine XS.ifNo X147.here hx rfl (hb hby at_144) rfl (XT.i0_eq_f (hc29 : ¬ (lk0 = (0 : Int32)))) ?_
         show AT p e below T147 m 147 #[jv q0, se, iv p1, iv p2, iv p3, jv q4, se, iv p5, iv lk0, iv wh0, iv lk1, iv wh1, jv tm1, se, rv b19, jv (if wh0 = (0 : Int32) then (0 : Int64) else q0), se, jv ((if wh0 = (0 : Int32) then (0 : Int64) else q0) + q4), se, rv b_147, un, un] [] _
         refine XS.iloadN X147.here hx rfl (hb hby at_147) rfl ?_
         show AT p e below T147 m 148 #[jv q0, se, iv p1, iv p2, iv p3, jv q4, se, iv p5, iv lk0, iv wh0, iv lk1, iv wh1, jv tm1, se, rv b19, jv (if wh0 = (0 : Int32) then (0 : Int64) else q0), se, jv ((if wh0 = (0 : Int32) then (0 : Int64) else q0) + q4), se, rv b_147, un, un] [(.int p1)] _
         refine XS.ifNo X147.here hx rfl (hb hby at_148) rfl (XT.i0_le_f (hc113 : (0 : Int32) < p1)) ?_
         refine XS.iconst X147.here hx rfl (hb hby at_151) ?_
         refine XS.istore X147.here hx rfl (hb hby at_152) rfl (l' := #[jv q0, se, iv p1, iv p2, iv p3, jv q4, se, iv p5, iv lk0, iv wh0, iv lk1, iv wh1, jv tm1, se, rv b19, jv (if wh0 = (0 : Int32) then (0 : Int64) else q0), se, jv ((if wh0 = (0 : Int32) then (0 : Int64) else q0) + q4), se, rv b_147, iv (1 : Int32), un]) rfl ?_
         show AT p e below T147 m 154 #[jv q0, se, iv p1, iv p2, iv p3, jv q4, se, iv p5, iv lk0, iv wh0, iv lk1, iv wh1, jv tm1, se, rv b19, jv (if wh0 = (0 : Int32) then (0 : Int64) else q0), se, jv ((if wh0 = (0 : Int32) then (0 : Int64) else q0) + q4), se, rv b_147, iv (1 : Int32), un] [] _
         refine XS.iloadN X147.here hx rfl (hb hby at_154) rfl ?_
         refine XS.istore X147.here hx rfl (hb hby at_155) rfl (l' := #[jv q0, se, iv p1, iv p2, iv p3, jv q4, se, iv p5, iv lk0, iv wh0, iv lk1, iv wh1, jv tm1, se, rv b19, jv (if wh0 = (0 : Int32) then (0 : Int64) else q0), se, jv ((if wh0 = (0 : Int32) then (0 : Int64) else q0) + q4), se, rv b_147, iv (1 : Int32), iv p1]) rfl ?_
         refine XS.goto X147.here hx rfl (pc0 := 157) (pc' := 184) rfl (hb hby at_157) (by decide) (by decide) ?_
         show AT p e below T147 m 184 #[jv q0, se, iv p1, iv p2, iv p3, jv q4, se, iv p5, iv lk0, iv wh0, iv lk1, iv wh1, jv tm1, se, rv b19, jv (if wh0 = (0 : Int32) then (0 : Int64) else q0), se, jv ((if wh0 = (0 : Int32) then (0 : Int64) else q0) + q4), se, rv b_147, iv (1 : Int32), iv p1] [] _
         refine XS.iload X147.here hx rfl (hb hby at_184) rfl ?_
         show AT p e below T147 m 186 #[jv q0, se, iv p1, iv p2, iv p3, jv q4, se, iv p5, iv lk0, iv wh0, iv lk1, iv wh1, jv tm1, se, rv b19, jv (if wh0 = (0 : Int32) then (0 : Int64) else q0), se, jv ((if wh0 = (0 : Int32) then (0 : Int64) else q0) + q4), se, rv b_147, iv (1 : Int32), iv p1] [(.int (1 : Int32))] _
         refine XS.ifNo X147.here hx rfl (hb hby at_186) rfl (XT.i0_eq_f ((by decide) : ¬ ((1 : Int32) = (0 : Int32)))) ?_
         refine XS.iload X147.here hx rfl (hb hby at_189) rfl ?_
         show AT p e below T147 m 191 #[jv q0, se, iv p1, iv p2, iv p3, jv q4, se, iv p5, iv lk0, iv wh0, iv lk1, iv wh1, jv tm1, se, rv b19, jv (if wh0 = (0 : Int32) then (0 : Int64) else q0), se, jv ((if wh0 = (0 : Int32) then (0 : Int64) else q0) + q4), se, rv b_147, iv (1 : Int32), iv p1] [(.int p5)] _
         refine XS.ifNo X147.here hx rfl (hb hby at_191) rfl (XT.i0_le_f (hc126 : (0 : Int32) < p5)) ?_
         refine XS.lload X147.here hx rfl (hb hby at_194) rfl ?_
         show AT p e below T147 m 196 #[jv q0, se, iv p1, iv p2, iv p3, jv q4, se, iv p5, iv lk0, iv wh0, iv lk1, iv wh1, jv tm1, se, rv b19, jv (if wh0 = (0 : Int32) then (0 : Int64) else q0), se, jv ((if wh0 = (0 : Int32) then (0 : Int64) else q0) + q4), se, rv b_147, iv (1 : Int32), iv p1] [(.long q4)] _
         refine X147.ldc2Long hx hown (mvT hZ (ow hw 123 rfl)) (g := (mkF m 196 #[jv q0, se, iv p1, iv p2, iv p3, jv q4, se, iv p5, iv lk0, iv wh0, iv lk1, iv wh1, jv tm1, se, rv b19, jv (if wh0 = (0 : Int32) then (0 : Int64) else q0), se, jv ((if wh0 = (0 : Int32) then (0 : Int64) else q0) + q4), se, rv b_147, iv (1 : Int32), iv p1] [(.long q4)])) rfl (hb hby at_196) _ ?_
         refine XS.lcmp X147.here hx rfl (hb hby at_199) rfl ?_
         show AT p e below T147 m 200 #[jv q0, se, iv p1, iv p2, iv p3, jv q4, se, iv p5, iv lk0, iv wh0, iv lk1, iv wh1, jv tm1, se, rv b19, jv (if wh0 = (0 : Int32) then (0 : Int64) else q0), se, jv ((if wh0 = (0 : Int32) then (0 : Int64) else q0) + q4), se, rv b_147, iv (1 : Int32), iv p1] [(.int (XT.cmpL q4 (600000000000 : Int64)))] _
         refine XS.ifYes X147.here hx rfl (pc0 := 200) (pc' := 214) rfl (hb hby at_200) rfl (XT.ll_lt_t (hc127 : q4 < (600000000000 : Int64))) (by decide) (by decide) ?_
         refine XS.iload X147.here hx rfl (hb hby at_214) rfl ?_
         show AT p e below T147 m 216 #[jv q0, se, iv p1, iv p2, iv p3, jv q4, se, iv p5, iv lk0, iv wh0, iv lk1, iv wh1, jv tm1, se, rv b19, jv (if wh0 = (0 : Int32) then (0 : Int64) else q0), se, jv ((if wh0 = (0 : Int32) then (0 : Int64) else q0) + q4), se, rv b_147, iv (1 : Int32), iv p1] [(.int p1)] _
         refine XS.iload X147.here hx rfl (hb hby at_216) rfl ?_
         show AT p e below T147 m 218 #[jv q0, se, iv p1, iv p2, iv p3, jv q4, se, iv p5, iv lk0, iv wh0, iv lk1, iv wh1, jv tm1, se, rv b19, jv (if wh0 = (0 : Int32) then (0 : Int64) else q0), se, jv ((if wh0 = (0 : Int32) then (0 : Int64) else q0) + q4), se, rv b_147, iv (1 : Int32), iv p1] [(.int p5), (.int p1)] _
         refine XS.icmpYes X147.here hx rfl (pc0 := 218) (pc' := 236) rfl (hb hby at_218) rfl (XT.ii_ge_t (hc128 : ¬ (p1 < p5))) (by decide) (by decide) ?_
         refine XS.iload X147.here hx rfl (hb hby at_236) rfl ?_
         refine XS.iload X147.here hx rfl (hb hby at_238) rfl ?_
         show AT p e below T147 m 240 #[jv q0, se, iv p1, iv p2, iv p3, jv q4, se, iv p5, iv lk0, iv wh0, iv lk1, iv wh1, jv tm1, se, rv b19, jv (if wh0 = (0 : Int32) then (0 : Int64) else q0), se, jv ((if wh0 = (0 : Int32) then (0 : Int64) else q0) + q4), se, rv b_147, iv (1 : Int32), iv p1] [(.int p5), (.int p1)] _
         refine XS.icmpNo X147.here hx rfl (hb hby at_240) rfl (XT.ii_le_f (hc146 : p5 < p1)) ?_
         show AT p e below T147 m 243 #[jv q0, se, iv p1, iv p2, iv p3, jv q4, se, iv p5, iv lk0, iv wh0, iv lk1, iv wh1, jv tm1, se, rv b19, jv (if wh0 = (0 : Int32) then (0 : Int64) else q0), se, jv ((if wh0 = (0 : Int32) then (0 : Int64) else q0) + q4), se, rv b_147, iv (1 : Int32), iv p1] [] _
         refine XS.aload X147.here hx rfl (hb hby at_243) rfl rfl ?_
         refine XS.iconst X147.here hx rfl (hb hby at_245) ?_
         refine XS.iload X147.here hx rfl (hb hby at_246) rfl ?_
         show AT p e below T147 m 248 #[jv q0, se, iv p1, iv p2, iv p3, jv q4, se, iv p5, iv lk0, iv wh0, iv lk1, iv wh1, jv tm1, se, rv b19, jv (if wh0 = (0 : Int32) then (0 : Int64) else q0), se, jv ((if wh0 = (0 : Int32) then (0 : Int64) else q0) + q4), se, rv b_147, iv (1 : Int32), iv p1] [(.int p1), (.int (4 : Int32)), (.ref b_147)] _
         refine XS.iconst X147.here hx rfl (hb hby at_248) ?_
         refine XS.iadd X147.here hx rfl (hb hby at_249) rfl ?_
         refine X147.ldcInt hx hown (mvT hZ (ow hw 129 rfl)) (g := (mkF m 250 #[jv q0, se, iv p1, iv p2, iv p3, jv q4, se, iv p5, iv lk0, iv wh0, iv lk1, iv wh1, jv tm1, se, rv b19, jv (if wh0 = (0 : Int32) then (0 : Int64) else q0), se, jv ((if wh0 = (0 : Int32) then (0 : Int64) else q0) + q4), se, rv b_147, iv (1 : Int32), iv p1] [(.int (p1 + (1 : Int32))), (.int (4 : Int32)), (.ref b_147)])) rfl (hb hby at_250) _ ?_
         show AT p e below T147 m 252 #[jv q0, se, iv p1, iv p2, iv p3, jv q4, se, iv p5, iv lk0, iv wh0, iv lk1, iv wh1, jv tm1, se, rv b19, jv (if wh0 = (0 : Int32) then (0 : Int64) else q0), se, jv ((if wh0 = (0 : Int32) then (0 : Int64) else q0) + q4), se, rv b_147, iv (1 : Int32), iv p1] [(.int (2147483647 : Int32)), (.int (p1 + (1 : Int32))), (.int (4 : Int32)), (.ref b_147)] _
         refine XS.iconst X147.here hx rfl (hb hby at_252) ?_
         refine XS.iload X147.here hx rfl (hb hby at_253) rfl ?_
         refine st163 _ ?_
         show AT p e below T163 m 258 #[jv q0, se, iv p1, iv p2, iv p3, jv q4, se, iv p5, iv lk0, iv wh0, iv lk1, iv wh1, jv tm1, se, rv b19, jv (if wh0 = (0 : Int32) then (0 : Int64) else q0), se, jv ((if wh0 = (0 : Int32) then (0 : Int64) else q0) + q4), se, rv b_147, iv (1 : Int32), iv p1] [(.int (1 : Int32))] _
         exact retN X163 hx (t := .boolean) Bd.returns (by simp) (hb hby at_258) hr
        ·
         show Q0 Z q0 p1 p2 p3 q4 p5 h0 n0 _ T163.heap _
         rw [e163]
         exact ⟨rfl, N163⟩
       ·
        obtain ⟨cq164, kq164, q164a, q164b, q164c⟩ := isOf hZ rfl E114_115
        obtain ⟨_, _, ⟨T164, L164, k164, n164⟩, -, X164, ⟨Lc164, hQ164, l164, y164, z164⟩, st164⟩ := X114.virtualBack hx (y := y5) (z := y5) hown (mvT hZ (ow hw 28 rfl)) (mvT hZ (ow hw 29 rfl)) (notFace_of_selects (args := #[]) (mvT hZ (ow hw 31 rfl))) (mvT hZ (ow hw 31 rfl)) (mvT hZ (ow hw 30 rfl)) (by decide) (backOf (W := 0) (rm5_1e l Z ar hw [] b19 ((if wh0 = (0 : Int32) then (0 : Int64) else q0) + q4) p5 (if wh0 = (0 : Int32) then (0 : Int64) else q0) dq_22 es_22 ke_22 nw_114 kn_114 q0 p1 T114.heap n0 O114 HW E114_115 u114_2 u114_1 E114_116 u114_3 u114_4 u114_5 u114_6 u114_7 u114_8 hc126 (by rw [own_wd]; exact hc127) hc128 hc146) hZ (ow hw 32 rfl) (ow hw 2 rfl) (by decide) (by decide)) q164a q164c (g := (mkF m 137 #[jv q0, se, iv p1, iv p2, iv p3, jv q4, se, iv p5, iv lk0, iv wh0, iv lk1, iv wh1, jv tm1, se, rv b19, jv (if wh0 = (0 : Int32) then (0 : Int64) else q0), se, jv ((if wh0 = (0 : Int32) then (0 : Int64) else q0) + q4), se, un, un, un] [(.int p5), (.long ((if wh0 = (0 : Int32) then (0 : Int64) else q0) + q4)), (.ref b19)])) rfl (by rw [hml]; rfl) (Steps.refl _) (argsL := [(.long ((if wh0 = (0 : Int32) then (0 : Int64) else q0) + q4)), (.int p5)]) (rest := []) (lenOf pd_11 rfl) rfl (by show 2 * 0 + _ ≤ _; exact Nat.le_of_eq rfl) (hb hby at_137) (fun _ _ => ⟨rfl, rfl, (by decide : 4 + 1 ≤ _), (by decide : 24 + 0 ≤ _)⟩)
        dsimp only [Pt.U, Pt.locs, Pt.cells, Pt.slots] at X164 l164 y164 z164 st164 hQ164
        subst l164 y164 z164
        obtain ⟨b_164, kb_164, rfl, N164q, Kq164, u164_0, u164_1⟩ := hQ164
        have N164 := Fr.app N114 N164q
        have E164_165 := E114_115.keep Kq164
        have E164_166 := E114_116.keep Kq164
        have F164_167 := u114_1.keep Kq164 nin0
        have F164_168 := u114_2.keep Kq164 nin0
        have F164_169 := u114_3.keep Kq164 nin0
        have F164_170 := u114_4.keep Kq164 nin0
        have F164_171 := u114_5.keep Kq164 nin0
        have V164_172 := u114_6.keep Kq164 nin0
        have E164_173 := u114_7.keep Kq164
        have V164_174 := u114_8.keep Kq164 nin0
        have K164 := K114.trans Kq164 all0
        have O164 := O114.keep Kq164 all0
        have sz175 : h0.size ≤ b_164 := Nat.le_trans K114.1 u164_1
        have gn175 : n0 ≤ b_164 := Nat.le_trans (Nat.le_trans (Nat.le_of_eq O114.1.symm) O114.2.1) u164_1
        have ne176 : b19 ≠ b_164 := Nat.ne_of_lt (Nat.lt_of_lt_of_le (E114_115).lt u164_1)
        have ne177 : dq_22 ≠ b_164 := Nat.ne_of_lt (Nat.lt_of_lt_of_le (E114_116).lt u164_1)
        have ne178 : es_22 ≠ b_164 := Nat.ne_of_lt (Nat.lt_of_lt_of_le (u114_6).lt u164_1)
        have ne179 : nw_114 ≠ b_164 := Nat.ne_of_lt (Nat.lt_of_lt_of_le (u114_7).lt u164_1)
        obtain ⟨_, _, ⟨T180, L180, k180, n180⟩, -, X180, ⟨Lc180, hQ180, l180, y180, z180⟩, st180⟩ := Jvm.LawKit.callS X164 hx (y := y19) hown (mvT hZ (ow hw 124 rfl)) (mvT hZ (ow hw 125 rfl)) (mvT hZ (ow hw 126 rfl)) (mvT hZ (ow hw 127 rfl)) (by decide) (backOf (W := 0) (rm19_0 l Z ar hw [] b_164 (0 : Int32) (0 : Int32) (0 : Int32) (0 : Int32) kb_164 T164.heap n0 O164 u164_0) hZ (ow hw 127 rfl) (ow hw 126 rfl) (by decide) (by decide)) (g := (mkF m 266 #[jv q0, se, iv p1, iv p2, iv p3, jv q4, se, iv p5, iv lk0, iv wh0, iv lk1, iv wh1, jv tm1, se, rv b19, jv (if wh0 = (0 : Int32) then (0 : Int64) else q0), se, jv ((if wh0 = (0 : Int32) then (0 : Int64) else q0) + q4), se, rv b_164, iv (1 : Int32), iv p1] [(.int (0 : Int32)), (.int (0 : Int32)), (.int (0 : Int32)), (.int (0 : Int32)), (.int (0 : Int32)), (.ref b_164)])) rfl (by rw [hml]; rfl) (argsL := [(.ref b_164), (.int (0 : Int32)), (.int (0 : Int32)), (.int (0 : Int32)), (.int (0 : Int32)), (.int (0 : Int32))]) (rest := []) (lenOf pd_13 rfl) rfl (by show 2 * 0 + _ ≤ _; exact Nat.le_of_eq rfl) (hb hby at_266) (fun _ _ => ⟨rfl, rfl, (by decide : 5 + 0 ≤ _), (by decide : 24 + 0 ≤ _)⟩)
        dsimp only [Pt.U, Pt.locs, Pt.cells, Pt.slots] at X180 l180 y180 z180 st180 hQ180
        subst l180 y180 z180
        obtain ⟨rfl, N180q, e180⟩ := hQ180
        have N180 := Fr.app N164 N180q
        obtain ⟨fs, hr, hrun, hended, hW, hsame⟩ := X180.leave (v := some (.int (1 : Int32))) (fun h => by rw [Bd.returns] at h; cases h)
        subst hS0
        refine ⟨_, _, pre125 _ ?_, hrun, hended, _, _, rfl, ?_, ⟨_, rfl⟩, hW, hsame.mono (by decide) (by decide)⟩
        ·
         refine XS.aload X114.here hx rfl (hb hby at_131) rfl rfl ?_
         refine XS.lload X114.here hx rfl (hb hby at_133) rfl ?_
         refine XS.iload X114.here hx rfl (hb hby at_135) rfl ?_
         show AT p e below T114 m 137 #[jv q0, se, iv p1, iv p2, iv p3, jv q4, se, iv p5, iv lk0, iv wh0, iv lk1, iv wh1, jv tm1, se, rv b19, jv (if wh0 = (0 : Int32) then (0 : Int64) else q0), se, jv ((if wh0 = (0 : Int32) then (0 : Int64) else q0) + q4), se, un, un, un] [(.int p5), (.long ((if wh0 = (0 : Int32) then (0 : Int64) else q0) + q4)), (.ref b19)] _
         refine st164.trans ?_
         refine XS.astore X164.here hx rfl (hb hby at_140) rfl rfl (l' := #[jv q0, se, iv p1, iv p2, iv p3, jv q4, se, iv p5, iv lk0, iv wh0, iv lk1, iv wh1, jv tm1, se, rv b19, jv (if wh0 = (0 : Int32) then (0 : Int64) else q0), se, jv ((if wh0 = (0 : Int32) then (0 : Int64) else q0) + q4), se, rv b_164, un, un]) rfl ?_
         refine XS.iload X164.here hx rfl (hb hby at_142) rfl ?_
         show AT p e below T164 m 144 #[jv q0, se, iv p1, iv p2, iv p3, jv q4, se, iv p5, iv lk0, iv wh0, iv lk1, iv wh1, jv tm1, se, rv b19, jv (if wh0 = (0 : Int32) then (0 : Int64) else q0), se, jv ((if wh0 = (0 : Int32) then (0 : Int64) else q0) + q4), se, rv b_164, un, un] [(.int lk0)] _
         refine XS.ifNo X164.here hx rfl (hb hby at_144) rfl (XT.i0_eq_f (hc29 : ¬ (lk0 = (0 : Int32)))) ?_
         show AT p e below T164 m 147 #[jv q0, se, iv p1, iv p2, iv p3, jv q4, se, iv p5, iv lk0, iv wh0, iv lk1, iv wh1, jv tm1, se, rv b19, jv (if wh0 = (0 : Int32) then (0 : Int64) else q0), se, jv ((if wh0 = (0 : Int32) then (0 : Int64) else q0) + q4), se, rv b_164, un, un] [] _
         refine XS.iloadN X164.here hx rfl (hb hby at_147) rfl ?_
         show AT p e below T164 m 148 #[jv q0, se, iv p1, iv p2, iv p3, jv q4, se, iv p5, iv lk0, iv wh0, iv lk1, iv wh1, jv tm1, se, rv b19, jv (if wh0 = (0 : Int32) then (0 : Int64) else q0), se, jv ((if wh0 = (0 : Int32) then (0 : Int64) else q0) + q4), se, rv b_164, un, un] [(.int p1)] _
         refine XS.ifNo X164.here hx rfl (hb hby at_148) rfl (XT.i0_le_f (hc113 : (0 : Int32) < p1)) ?_
         refine XS.iconst X164.here hx rfl (hb hby at_151) ?_
         refine XS.istore X164.here hx rfl (hb hby at_152) rfl (l' := #[jv q0, se, iv p1, iv p2, iv p3, jv q4, se, iv p5, iv lk0, iv wh0, iv lk1, iv wh1, jv tm1, se, rv b19, jv (if wh0 = (0 : Int32) then (0 : Int64) else q0), se, jv ((if wh0 = (0 : Int32) then (0 : Int64) else q0) + q4), se, rv b_164, iv (1 : Int32), un]) rfl ?_
         show AT p e below T164 m 154 #[jv q0, se, iv p1, iv p2, iv p3, jv q4, se, iv p5, iv lk0, iv wh0, iv lk1, iv wh1, jv tm1, se, rv b19, jv (if wh0 = (0 : Int32) then (0 : Int64) else q0), se, jv ((if wh0 = (0 : Int32) then (0 : Int64) else q0) + q4), se, rv b_164, iv (1 : Int32), un] [] _
         refine XS.iloadN X164.here hx rfl (hb hby at_154) rfl ?_
         refine XS.istore X164.here hx rfl (hb hby at_155) rfl (l' := #[jv q0, se, iv p1, iv p2, iv p3, jv q4, se, iv p5, iv lk0, iv wh0, iv lk1, iv wh1, jv tm1, se, rv b19, jv (if wh0 = (0 : Int32) then (0 : Int64) else q0), se, jv ((if wh0 = (0 : Int32) then (0 : Int64) else q0) + q4), se, rv b_164, iv (1 : Int32), iv p1]) rfl ?_
         refine XS.goto X164.here hx rfl (pc0 := 157) (pc' := 184) rfl (hb hby at_157) (by decide) (by decide) ?_
         show AT p e below T164 m 184 #[jv q0, se, iv p1, iv p2, iv p3, jv q4, se, iv p5, iv lk0, iv wh0, iv lk1, iv wh1, jv tm1, se, rv b19, jv (if wh0 = (0 : Int32) then (0 : Int64) else q0), se, jv ((if wh0 = (0 : Int32) then (0 : Int64) else q0) + q4), se, rv b_164, iv (1 : Int32), iv p1] [] _
         refine XS.iload X164.here hx rfl (hb hby at_184) rfl ?_
         show AT p e below T164 m 186 #[jv q0, se, iv p1, iv p2, iv p3, jv q4, se, iv p5, iv lk0, iv wh0, iv lk1, iv wh1, jv tm1, se, rv b19, jv (if wh0 = (0 : Int32) then (0 : Int64) else q0), se, jv ((if wh0 = (0 : Int32) then (0 : Int64) else q0) + q4), se, rv b_164, iv (1 : Int32), iv p1] [(.int (1 : Int32))] _
         refine XS.ifNo X164.here hx rfl (hb hby at_186) rfl (XT.i0_eq_f ((by decide) : ¬ ((1 : Int32) = (0 : Int32)))) ?_
         refine XS.iload X164.here hx rfl (hb hby at_189) rfl ?_
         show AT p e below T164 m 191 #[jv q0, se, iv p1, iv p2, iv p3, jv q4, se, iv p5, iv lk0, iv wh0, iv lk1, iv wh1, jv tm1, se, rv b19, jv (if wh0 = (0 : Int32) then (0 : Int64) else q0), se, jv ((if wh0 = (0 : Int32) then (0 : Int64) else q0) + q4), se, rv b_164, iv (1 : Int32), iv p1] [(.int p5)] _
         refine XS.ifNo X164.here hx rfl (hb hby at_191) rfl (XT.i0_le_f (hc126 : (0 : Int32) < p5)) ?_
         refine XS.lload X164.here hx rfl (hb hby at_194) rfl ?_
         show AT p e below T164 m 196 #[jv q0, se, iv p1, iv p2, iv p3, jv q4, se, iv p5, iv lk0, iv wh0, iv lk1, iv wh1, jv tm1, se, rv b19, jv (if wh0 = (0 : Int32) then (0 : Int64) else q0), se, jv ((if wh0 = (0 : Int32) then (0 : Int64) else q0) + q4), se, rv b_164, iv (1 : Int32), iv p1] [(.long q4)] _
         refine X164.ldc2Long hx hown (mvT hZ (ow hw 123 rfl)) (g := (mkF m 196 #[jv q0, se, iv p1, iv p2, iv p3, jv q4, se, iv p5, iv lk0, iv wh0, iv lk1, iv wh1, jv tm1, se, rv b19, jv (if wh0 = (0 : Int32) then (0 : Int64) else q0), se, jv ((if wh0 = (0 : Int32) then (0 : Int64) else q0) + q4), se, rv b_164, iv (1 : Int32), iv p1] [(.long q4)])) rfl (hb hby at_196) _ ?_
         refine XS.lcmp X164.here hx rfl (hb hby at_199) rfl ?_
         show AT p e below T164 m 200 #[jv q0, se, iv p1, iv p2, iv p3, jv q4, se, iv p5, iv lk0, iv wh0, iv lk1, iv wh1, jv tm1, se, rv b19, jv (if wh0 = (0 : Int32) then (0 : Int64) else q0), se, jv ((if wh0 = (0 : Int32) then (0 : Int64) else q0) + q4), se, rv b_164, iv (1 : Int32), iv p1] [(.int (XT.cmpL q4 (600000000000 : Int64)))] _
         refine XS.ifYes X164.here hx rfl (pc0 := 200) (pc' := 214) rfl (hb hby at_200) rfl (XT.ll_lt_t (hc127 : q4 < (600000000000 : Int64))) (by decide) (by decide) ?_
         refine XS.iload X164.here hx rfl (hb hby at_214) rfl ?_
         show AT p e below T164 m 216 #[jv q0, se, iv p1, iv p2, iv p3, jv q4, se, iv p5, iv lk0, iv wh0, iv lk1, iv wh1, jv tm1, se, rv b19, jv (if wh0 = (0 : Int32) then (0 : Int64) else q0), se, jv ((if wh0 = (0 : Int32) then (0 : Int64) else q0) + q4), se, rv b_164, iv (1 : Int32), iv p1] [(.int p1)] _
         refine XS.iload X164.here hx rfl (hb hby at_216) rfl ?_
         show AT p e below T164 m 218 #[jv q0, se, iv p1, iv p2, iv p3, jv q4, se, iv p5, iv lk0, iv wh0, iv lk1, iv wh1, jv tm1, se, rv b19, jv (if wh0 = (0 : Int32) then (0 : Int64) else q0), se, jv ((if wh0 = (0 : Int32) then (0 : Int64) else q0) + q4), se, rv b_164, iv (1 : Int32), iv p1] [(.int p5), (.int p1)] _
         refine XS.icmpYes X164.here hx rfl (pc0 := 218) (pc' := 236) rfl (hb hby at_218) rfl (XT.ii_ge_t (hc128 : ¬ (p1 < p5))) (by decide) (by decide) ?_
         refine XS.iload X164.here hx rfl (hb hby at_236) rfl ?_
         refine XS.iload X164.here hx rfl (hb hby at_238) rfl ?_
         show AT p e below T164 m 240 #[jv q0, se, iv p1, iv p2, iv p3, jv q4, se, iv p5, iv lk0, iv wh0, iv lk1, iv wh1, jv tm1, se, rv b19, jv (if wh0 = (0 : Int32) then (0 : Int64) else q0), se, jv ((if wh0 = (0 : Int32) then (0 : Int64) else q0) + q4), se, rv b_164, iv (1 : Int32), iv p1] [(.int p5), (.int p1)] _
         refine XS.icmpYes X164.here hx rfl (pc0 := 240) (pc' := 259) rfl (hb hby at_240) rfl (XT.ii_le_t (hc146 : ¬ (p5 < p1))) (by decide) (by decide) ?_
         show AT p e below T164 m 259 #[jv q0, se, iv p1, iv p2, iv p3, jv q4, se, iv p5, iv lk0, iv wh0, iv lk1, iv wh1, jv tm1, se, rv b19, jv (if wh0 = (0 : Int32) then (0 : Int64) else q0), se, jv ((if wh0 = (0 : Int32) then (0 : Int64) else q0) + q4), se, rv b_164, iv (1 : Int32), iv p1] [] _
         refine XS.aload X164.here hx rfl (hb hby at_259) rfl rfl ?_
         refine XS.iconst X164.here hx rfl (hb hby at_261) ?_
         refine XS.iconst X164.here hx rfl (hb hby at_262) ?_
         show AT p e below T164 m 263 #[jv q0, se, iv p1, iv p2, iv p3, jv q4, se, iv p5, iv lk0, iv wh0, iv lk1, iv wh1, jv tm1, se, rv b19, jv (if wh0 = (0 : Int32) then (0 : Int64) else q0), se, jv ((if wh0 = (0 : Int32) then (0 : Int64) else q0) + q4), se, rv b_164, iv (1 : Int32), iv p1] [(.int (0 : Int32)), (.int (0 : Int32)), (.ref b_164)] _
         refine XS.iconst X164.here hx rfl (hb hby at_263) ?_
         refine XS.iconst X164.here hx rfl (hb hby at_264) ?_
         refine XS.iconst X164.here hx rfl (hb hby at_265) ?_
         show AT p e below T164 m 266 #[jv q0, se, iv p1, iv p2, iv p3, jv q4, se, iv p5, iv lk0, iv wh0, iv lk1, iv wh1, jv tm1, se, rv b19, jv (if wh0 = (0 : Int32) then (0 : Int64) else q0), se, jv ((if wh0 = (0 : Int32) then (0 : Int64) else q0) + q4), se, rv b_164, iv (1 : Int32), iv p1] [(.int (0 : Int32)), (.int (0 : Int32)), (.int (0 : Int32)), (.int (0 : Int32)), (.int (0 : Int32)), (.ref b_164)] _
         refine st180 _ ?_
         exact retN X180 hx (t := .boolean) Bd.returns (by simp) (hb hby at_269) hr
        ·
         show Q0 Z q0 p1 p2 p3 q4 p5 h0 n0 _ T180.heap _
         rw [e180]
         exact ⟨rfl, N180⟩
     ·
      obtain ⟨cq181, kq181, q181a, q181b, q181c⟩ := isOf hZ rfl E114_115
      obtain ⟨_, _, ⟨T181, L181, k181, n181⟩, -, X181, ⟨Lc181, hQ181, l181, y181, z181⟩, st181⟩ := X114.virtualBack hx (y := y5) (z := y5) hown (mvT hZ (ow hw 28 rfl)) (mvT hZ (ow hw 29 rfl)) (notFace_of_selects (args := #[]) (mvT hZ (ow hw 31 rfl))) (mvT hZ (ow hw 31 rfl)) (mvT hZ (ow hw 30 rfl)) (by decide) (backOf (W := 0) (rm5_1b l Z ar hw [] b19 ((if wh0 = (0 : Int32) then (0 : Int64) else q0) + q4) p5 (if wh0 = (0 : Int32) then (0 : Int64) else q0) dq_22 es_22 ke_22 nw_114 kn_114 q0 p1 T114.heap n0 O114 HW E114_115 u114_2 u114_1 E114_116 u114_3 u114_4 u114_5 u114_6 u114_7 u114_8 hc126 (by rw [own_wd]; exact hc127)) hZ (ow hw 32 rfl) (ow hw 2 rfl) (by decide) (by decide)) q181a q181c (g := (mkF m 137 #[jv q0, se, iv p1, iv p2, iv p3, jv q4, se, iv p5, iv lk0, iv wh0, iv lk1, iv wh1, jv tm1, se, rv b19, jv (if wh0 = (0 : Int32) then (0 : Int64) else q0), se, jv ((if wh0 = (0 : Int32) then (0 : Int64) else q0) + q4), se, un, un, un] [(.int p5), (.long ((if wh0 = (0 : Int32) then (0 : Int64) else q0) + q4)), (.ref b19)])) rfl (by rw [hml]; rfl) (Steps.refl _) (argsL := [(.long ((if wh0 = (0 : Int32) then (0 : Int64) else q0) + q4)), (.int p5)]) (rest := []) (lenOf pd_11 rfl) rfl (by show 2 * 0 + _ ≤ _; exact Nat.le_of_eq rfl) (hb hby at_137) (fun _ _ => ⟨rfl, rfl, (by decide : 4 + 0 ≤ _), (by decide : 24 + 0 ≤ _)⟩)
      dsimp only [Pt.U, Pt.locs, Pt.cells, Pt.slots] at X181 l181 y181 z181 st181 hQ181
      subst l181 y181 z181
      obtain ⟨rfl, N181q, e181⟩ := hQ181
      have N181 := Fr.app N114 N181q
      obtain ⟨fs, hr, hrun, hended, hW, hsame⟩ := X181.leave (v := some (.int (1 : Int32))) (fun h => by rw [Bd.returns] at h; cases h)
      subst hS0
      refine ⟨_, _, pre125 _ ?_, hrun, hended, _, _, rfl, ?_, ⟨_, rfl⟩, hW, hsame.mono (by decide) (by decide)⟩
      ·
       refine XS.aload X114.here hx rfl (hb hby at_131) rfl rfl ?_
       refine XS.lload X114.here hx rfl (hb hby at_133) rfl ?_
       refine XS.iload X114.here hx rfl (hb hby at_135) rfl ?_
       show AT p e below T114 m 137 #[jv q0, se, iv p1, iv p2, iv p3, jv q4, se, iv p5, iv lk0, iv wh0, iv lk1, iv wh1, jv tm1, se, rv b19, jv (if wh0 = (0 : Int32) then (0 : Int64) else q0), se, jv ((if wh0 = (0 : Int32) then (0 : Int64) else q0) + q4), se, un, un, un] [(.int p5), (.long ((if wh0 = (0 : Int32) then (0 : Int64) else q0) + q4)), (.ref b19)] _
       refine st181.trans ?_
       refine XS.astore X181.here hx rfl (hb hby at_140) rfl rfl (l' := #[jv q0, se, iv p1, iv p2, iv p3, jv q4, se, iv p5, iv lk0, iv wh0, iv lk1, iv wh1, jv tm1, se, rv b19, jv (if wh0 = (0 : Int32) then (0 : Int64) else q0), se, jv ((if wh0 = (0 : Int32) then (0 : Int64) else q0) + q4), se, .val .null, un, un]) rfl ?_
       refine XS.iload X181.here hx rfl (hb hby at_142) rfl ?_
       show AT p e below T181 m 144 #[jv q0, se, iv p1, iv p2, iv p3, jv q4, se, iv p5, iv lk0, iv wh0, iv lk1, iv wh1, jv tm1, se, rv b19, jv (if wh0 = (0 : Int32) then (0 : Int64) else q0), se, jv ((if wh0 = (0 : Int32) then (0 : Int64) else q0) + q4), se, .val .null, un, un] [(.int lk0)] _
       refine XS.ifNo X181.here hx rfl (hb hby at_144) rfl (XT.i0_eq_f (hc29 : ¬ (lk0 = (0 : Int32)))) ?_
       show AT p e below T181 m 147 #[jv q0, se, iv p1, iv p2, iv p3, jv q4, se, iv p5, iv lk0, iv wh0, iv lk1, iv wh1, jv tm1, se, rv b19, jv (if wh0 = (0 : Int32) then (0 : Int64) else q0), se, jv ((if wh0 = (0 : Int32) then (0 : Int64) else q0) + q4), se, .val .null, un, un] [] _
       refine XS.iloadN X181.here hx rfl (hb hby at_147) rfl ?_
       show AT p e below T181 m 148 #[jv q0, se, iv p1, iv p2, iv p3, jv q4, se, iv p5, iv lk0, iv wh0, iv lk1, iv wh1, jv tm1, se, rv b19, jv (if wh0 = (0 : Int32) then (0 : Int64) else q0), se, jv ((if wh0 = (0 : Int32) then (0 : Int64) else q0) + q4), se, .val .null, un, un] [(.int p1)] _
       refine XS.ifNo X181.here hx rfl (hb hby at_148) rfl (XT.i0_le_f (hc113 : (0 : Int32) < p1)) ?_
       refine XS.iconst X181.here hx rfl (hb hby at_151) ?_
       refine XS.istore X181.here hx rfl (hb hby at_152) rfl (l' := #[jv q0, se, iv p1, iv p2, iv p3, jv q4, se, iv p5, iv lk0, iv wh0, iv lk1, iv wh1, jv tm1, se, rv b19, jv (if wh0 = (0 : Int32) then (0 : Int64) else q0), se, jv ((if wh0 = (0 : Int32) then (0 : Int64) else q0) + q4), se, .val .null, iv (1 : Int32), un]) rfl ?_
       show AT p e below T181 m 154 #[jv q0, se, iv p1, iv p2, iv p3, jv q4, se, iv p5, iv lk0, iv wh0, iv lk1, iv wh1, jv tm1, se, rv b19, jv (if wh0 = (0 : Int32) then (0 : Int64) else q0), se, jv ((if wh0 = (0 : Int32) then (0 : Int64) else q0) + q4), se, .val .null, iv (1 : Int32), un] [] _
       refine XS.iloadN X181.here hx rfl (hb hby at_154) rfl ?_
       refine XS.istore X181.here hx rfl (hb hby at_155) rfl (l' := #[jv q0, se, iv p1, iv p2, iv p3, jv q4, se, iv p5, iv lk0, iv wh0, iv lk1, iv wh1, jv tm1, se, rv b19, jv (if wh0 = (0 : Int32) then (0 : Int64) else q0), se, jv ((if wh0 = (0 : Int32) then (0 : Int64) else q0) + q4), se, .val .null, iv (1 : Int32), iv p1]) rfl ?_
       refine XS.goto X181.here hx rfl (pc0 := 157) (pc' := 184) rfl (hb hby at_157) (by decide) (by decide) ?_
       show AT p e below T181 m 184 #[jv q0, se, iv p1, iv p2, iv p3, jv q4, se, iv p5, iv lk0, iv wh0, iv lk1, iv wh1, jv tm1, se, rv b19, jv (if wh0 = (0 : Int32) then (0 : Int64) else q0), se, jv ((if wh0 = (0 : Int32) then (0 : Int64) else q0) + q4), se, .val .null, iv (1 : Int32), iv p1] [] _
       refine XS.iload X181.here hx rfl (hb hby at_184) rfl ?_
       show AT p e below T181 m 186 #[jv q0, se, iv p1, iv p2, iv p3, jv q4, se, iv p5, iv lk0, iv wh0, iv lk1, iv wh1, jv tm1, se, rv b19, jv (if wh0 = (0 : Int32) then (0 : Int64) else q0), se, jv ((if wh0 = (0 : Int32) then (0 : Int64) else q0) + q4), se, .val .null, iv (1 : Int32), iv p1] [(.int (1 : Int32))] _
       refine XS.ifNo X181.here hx rfl (hb hby at_186) rfl (XT.i0_eq_f ((by decide) : ¬ ((1 : Int32) = (0 : Int32)))) ?_
       refine XS.iload X181.here hx rfl (hb hby at_189) rfl ?_
       show AT p e below T181 m 191 #[jv q0, se, iv p1, iv p2, iv p3, jv q4, se, iv p5, iv lk0, iv wh0, iv lk1, iv wh1, jv tm1, se, rv b19, jv (if wh0 = (0 : Int32) then (0 : Int64) else q0), se, jv ((if wh0 = (0 : Int32) then (0 : Int64) else q0) + q4), se, .val .null, iv (1 : Int32), iv p1] [(.int p5)] _
       refine XS.ifNo X181.here hx rfl (hb hby at_191) rfl (XT.i0_le_f (hc126 : (0 : Int32) < p5)) ?_
       refine XS.lload X181.here hx rfl (hb hby at_194) rfl ?_
       show AT p e below T181 m 196 #[jv q0, se, iv p1, iv p2, iv p3, jv q4, se, iv p5, iv lk0, iv wh0, iv lk1, iv wh1, jv tm1, se, rv b19, jv (if wh0 = (0 : Int32) then (0 : Int64) else q0), se, jv ((if wh0 = (0 : Int32) then (0 : Int64) else q0) + q4), se, .val .null, iv (1 : Int32), iv p1] [(.long q4)] _
       refine X181.ldc2Long hx hown (mvT hZ (ow hw 123 rfl)) (g := (mkF m 196 #[jv q0, se, iv p1, iv p2, iv p3, jv q4, se, iv p5, iv lk0, iv wh0, iv lk1, iv wh1, jv tm1, se, rv b19, jv (if wh0 = (0 : Int32) then (0 : Int64) else q0), se, jv ((if wh0 = (0 : Int32) then (0 : Int64) else q0) + q4), se, .val .null, iv (1 : Int32), iv p1] [(.long q4)])) rfl (hb hby at_196) _ ?_
       refine XS.lcmp X181.here hx rfl (hb hby at_199) rfl ?_
       show AT p e below T181 m 200 #[jv q0, se, iv p1, iv p2, iv p3, jv q4, se, iv p5, iv lk0, iv wh0, iv lk1, iv wh1, jv tm1, se, rv b19, jv (if wh0 = (0 : Int32) then (0 : Int64) else q0), se, jv ((if wh0 = (0 : Int32) then (0 : Int64) else q0) + q4), se, .val .null, iv (1 : Int32), iv p1] [(.int (XT.cmpL q4 (600000000000 : Int64)))] _
       refine XS.ifNo X181.here hx rfl (hb hby at_200) rfl (XT.ll_lt_f (hc127 : ¬ (q4 < (600000000000 : Int64)))) ?_
       refine XS.aload X181.here hx rfl (hb hby at_203) rfl rfl ?_
       show AT p e below T181 m 205 #[jv q0, se, iv p1, iv p2, iv p3, jv q4, se, iv p5, iv lk0, iv wh0, iv lk1, iv wh1, jv tm1, se, rv b19, jv (if wh0 = (0 : Int32) then (0 : Int64) else q0), se, jv ((if wh0 = (0 : Int32) then (0 : Int64) else q0) + q4), se, .val .null, iv (1 : Int32), iv p1] [.null] _
       refine XS.ifnonnullNo X181.here hx rfl (hb hby at_205) rfl ?_
       show AT p e below T181 m 208 #[jv q0, se, iv p1, iv p2, iv p3, jv q4, se, iv p5, iv lk0, iv wh0, iv lk1, iv wh1, jv tm1, se, rv b19, jv (if wh0 = (0 : Int32) then (0 : Int64) else q0), se, jv ((if wh0 = (0 : Int32) then (0 : Int64) else q0) + q4), se, .val .null, iv (1 : Int32), iv p1] [] _
       refine XS.iconst X181.here hx rfl (hb hby at_208) ?_
       refine XS.goto X181.here hx rfl (pc0 := 209) (pc' := 213) rfl (hb hby at_209) (by decide) (by decide) ?_
       exact retN X181 hx (t := .boolean) Bd.returns (by simp) (hb hby at_213) hr
      ·
       show Q0 Z q0 p1 p2 p3 q4 p5 h0 n0 _ T181.heap _
       rw [e181]
       exact ⟨rfl, N181⟩
    ·
     obtain ⟨cq182, kq182, q182a, q182b, q182c⟩ := isOf hZ rfl E114_115
     obtain ⟨_, _, ⟨T182, L182, k182, n182⟩, -, X182, ⟨Lc182, hQ182, l182, y182, z182⟩, st182⟩ := X114.virtualBack hx (y := y5) (z := y5) hown (mvT hZ (ow hw 28 rfl)) (mvT hZ (ow hw 29 rfl)) (notFace_of_selects (args := #[]) (mvT hZ (ow hw 31 rfl))) (mvT hZ (ow hw 31 rfl)) (mvT hZ (ow hw 30 rfl)) (by decide) (backOf (W := 0) (rm5_1a l Z ar hw [] b19 ((if wh0 = (0 : Int32) then (0 : Int64) else q0) + q4) p5 (if wh0 = (0 : Int32) then (0 : Int64) else q0) dq_22 es_22 ke_22 nw_114 kn_114 q0 p1 T114.heap n0 O114 E114_115 u114_2 u114_1 E114_116 u114_3 u114_4 u114_5 u114_6 u114_7 u114_8 hc126) hZ (ow hw 32 rfl) (ow hw 2 rfl) (by decide) (by decide)) q182a q182c (g := (mkF m 137 #[jv q0, se, iv p1, iv p2, iv p3, jv q4, se, iv p5, iv lk0, iv wh0, iv lk1, iv wh1, jv tm1, se, rv b19, jv (if wh0 = (0 : Int32) then (0 : Int64) else q0), se, jv ((if wh0 = (0 : Int32) then (0 : Int64) else q0) + q4), se, un, un, un] [(.int p5), (.long ((if wh0 = (0 : Int32) then (0 : Int64) else q0) + q4)), (.ref b19)])) rfl (by rw [hml]; rfl) (Steps.refl _) (argsL := [(.long ((if wh0 = (0 : Int32) then (0 : Int64) else q0) + q4)), (.int p5)]) (rest := []) (lenOf pd_11 rfl) rfl (by show 2 * 0 + _ ≤ _; exact Nat.le_of_eq rfl) (hb hby at_137) (fun _ _ => ⟨rfl, rfl, (by decide : 4 + 0 ≤ _), (by decide : 24 + 0 ≤ _)⟩)
     dsimp only [Pt.U, Pt.locs, Pt.cells, Pt.slots] at X182 l182 y182 z182 st182 hQ182
     subst l182 y182 z182
     obtain ⟨rfl, N182q, e182⟩ := hQ182
     have N182 := Fr.app N114 N182q
     obtain ⟨fs, hr, hrun, hended, hW, hsame⟩ := X182.leave (v := some (.int (1 : Int32))) (fun h => by rw [Bd.returns] at h; cases h)
     subst hS0
     refine ⟨_, _, pre125 _ ?_, hrun, hended, _, _, rfl, ?_, ⟨_, rfl⟩, hW, hsame.mono (by decide) (by decide)⟩
     ·
      refine XS.aload X114.here hx rfl (hb hby at_131) rfl rfl ?_
      refine XS.lload X114.here hx rfl (hb hby at_133) rfl ?_
      refine XS.iload X114.here hx rfl (hb hby at_135) rfl ?_
      show AT p e below T114 m 137 #[jv q0, se, iv p1, iv p2, iv p3, jv q4, se, iv p5, iv lk0, iv wh0, iv lk1, iv wh1, jv tm1, se, rv b19, jv (if wh0 = (0 : Int32) then (0 : Int64) else q0), se, jv ((if wh0 = (0 : Int32) then (0 : Int64) else q0) + q4), se, un, un, un] [(.int p5), (.long ((if wh0 = (0 : Int32) then (0 : Int64) else q0) + q4)), (.ref b19)] _
      refine st182.trans ?_
      refine XS.astore X182.here hx rfl (hb hby at_140) rfl rfl (l' := #[jv q0, se, iv p1, iv p2, iv p3, jv q4, se, iv p5, iv lk0, iv wh0, iv lk1, iv wh1, jv tm1, se, rv b19, jv (if wh0 = (0 : Int32) then (0 : Int64) else q0), se, jv ((if wh0 = (0 : Int32) then (0 : Int64) else q0) + q4), se, .val .null, un, un]) rfl ?_
      refine XS.iload X182.here hx rfl (hb hby at_142) rfl ?_
      show AT p e below T182 m 144 #[jv q0, se, iv p1, iv p2, iv p3, jv q4, se, iv p5, iv lk0, iv wh0, iv lk1, iv wh1, jv tm1, se, rv b19, jv (if wh0 = (0 : Int32) then (0 : Int64) else q0), se, jv ((if wh0 = (0 : Int32) then (0 : Int64) else q0) + q4), se, .val .null, un, un] [(.int lk0)] _
      refine XS.ifNo X182.here hx rfl (hb hby at_144) rfl (XT.i0_eq_f (hc29 : ¬ (lk0 = (0 : Int32)))) ?_
      show AT p e below T182 m 147 #[jv q0, se, iv p1, iv p2, iv p3, jv q4, se, iv p5, iv lk0, iv wh0, iv lk1, iv wh1, jv tm1, se, rv b19, jv (if wh0 = (0 : Int32) then (0 : Int64) else q0), se, jv ((if wh0 = (0 : Int32) then (0 : Int64) else q0) + q4), se, .val .null, un, un] [] _
      refine XS.iloadN X182.here hx rfl (hb hby at_147) rfl ?_
      show AT p e below T182 m 148 #[jv q0, se, iv p1, iv p2, iv p3, jv q4, se, iv p5, iv lk0, iv wh0, iv lk1, iv wh1, jv tm1, se, rv b19, jv (if wh0 = (0 : Int32) then (0 : Int64) else q0), se, jv ((if wh0 = (0 : Int32) then (0 : Int64) else q0) + q4), se, .val .null, un, un] [(.int p1)] _
      refine XS.ifNo X182.here hx rfl (hb hby at_148) rfl (XT.i0_le_f (hc113 : (0 : Int32) < p1)) ?_
      refine XS.iconst X182.here hx rfl (hb hby at_151) ?_
      refine XS.istore X182.here hx rfl (hb hby at_152) rfl (l' := #[jv q0, se, iv p1, iv p2, iv p3, jv q4, se, iv p5, iv lk0, iv wh0, iv lk1, iv wh1, jv tm1, se, rv b19, jv (if wh0 = (0 : Int32) then (0 : Int64) else q0), se, jv ((if wh0 = (0 : Int32) then (0 : Int64) else q0) + q4), se, .val .null, iv (1 : Int32), un]) rfl ?_
      show AT p e below T182 m 154 #[jv q0, se, iv p1, iv p2, iv p3, jv q4, se, iv p5, iv lk0, iv wh0, iv lk1, iv wh1, jv tm1, se, rv b19, jv (if wh0 = (0 : Int32) then (0 : Int64) else q0), se, jv ((if wh0 = (0 : Int32) then (0 : Int64) else q0) + q4), se, .val .null, iv (1 : Int32), un] [] _
      refine XS.iloadN X182.here hx rfl (hb hby at_154) rfl ?_
      refine XS.istore X182.here hx rfl (hb hby at_155) rfl (l' := #[jv q0, se, iv p1, iv p2, iv p3, jv q4, se, iv p5, iv lk0, iv wh0, iv lk1, iv wh1, jv tm1, se, rv b19, jv (if wh0 = (0 : Int32) then (0 : Int64) else q0), se, jv ((if wh0 = (0 : Int32) then (0 : Int64) else q0) + q4), se, .val .null, iv (1 : Int32), iv p1]) rfl ?_
      refine XS.goto X182.here hx rfl (pc0 := 157) (pc' := 184) rfl (hb hby at_157) (by decide) (by decide) ?_
      show AT p e below T182 m 184 #[jv q0, se, iv p1, iv p2, iv p3, jv q4, se, iv p5, iv lk0, iv wh0, iv lk1, iv wh1, jv tm1, se, rv b19, jv (if wh0 = (0 : Int32) then (0 : Int64) else q0), se, jv ((if wh0 = (0 : Int32) then (0 : Int64) else q0) + q4), se, .val .null, iv (1 : Int32), iv p1] [] _
      refine XS.iload X182.here hx rfl (hb hby at_184) rfl ?_
      show AT p e below T182 m 186 #[jv q0, se, iv p1, iv p2, iv p3, jv q4, se, iv p5, iv lk0, iv wh0, iv lk1, iv wh1, jv tm1, se, rv b19, jv (if wh0 = (0 : Int32) then (0 : Int64) else q0), se, jv ((if wh0 = (0 : Int32) then (0 : Int64) else q0) + q4), se, .val .null, iv (1 : Int32), iv p1] [(.int (1 : Int32))] _
      refine XS.ifNo X182.here hx rfl (hb hby at_186) rfl (XT.i0_eq_f ((by decide) : ¬ ((1 : Int32) = (0 : Int32)))) ?_
      refine XS.iload X182.here hx rfl (hb hby at_189) rfl ?_
      show AT p e below T182 m 191 #[jv q0, se, iv p1, iv p2, iv p3, jv q4, se, iv p5, iv lk0, iv wh0, iv lk1, iv wh1, jv tm1, se, rv b19, jv (if wh0 = (0 : Int32) then (0 : Int64) else q0), se, jv ((if wh0 = (0 : Int32) then (0 : Int64) else q0) + q4), se, .val .null, iv (1 : Int32), iv p1] [(.int p5)] _
      refine XS.ifYes X182.here hx rfl (pc0 := 191) (pc' := 203) rfl (hb hby at_191) rfl (XT.i0_le_t (hc126 : ¬ ((0 : Int32) < p5))) (by decide) (by decide) ?_
      refine XS.aload X182.here hx rfl (hb hby at_203) rfl rfl ?_
      show AT p e below T182 m 205 #[jv q0, se, iv p1, iv p2, iv p3, jv q4, se, iv p5, iv lk0, iv wh0, iv lk1, iv wh1, jv tm1, se, rv b19, jv (if wh0 = (0 : Int32) then (0 : Int64) else q0), se, jv ((if wh0 = (0 : Int32) then (0 : Int64) else q0) + q4), se, .val .null, iv (1 : Int32), iv p1] [.null] _
      refine XS.ifnonnullNo X182.here hx rfl (hb hby at_205) rfl ?_
      show AT p e below T182 m 208 #[jv q0, se, iv p1, iv p2, iv p3, jv q4, se, iv p5, iv lk0, iv wh0, iv lk1, iv wh1, jv tm1, se, rv b19, jv (if wh0 = (0 : Int32) then (0 : Int64) else q0), se, jv ((if wh0 = (0 : Int32) then (0 : Int64) else q0) + q4), se, .val .null, iv (1 : Int32), iv p1] [] _
      refine XS.iconst X182.here hx rfl (hb hby at_208) ?_
      refine XS.goto X182.here hx rfl (pc0 := 209) (pc' := 213) rfl (hb hby at_209) (by decide) (by decide) ?_
      exact retN X182 hx (t := .boolean) Bd.returns (by simp) (hb hby at_213) hr
     ·
      show Q0 Z q0 p1 p2 p3 q4 p5 h0 n0 _ T182.heap _
      rw [e182]
      exact ⟨rfl, N182⟩
   ·
    have pre183 : ∀ tg, AT p e below T114 m 105 #[jv q0, se, iv p1, iv p2, iv p3, jv q4, se, iv p5, iv lk0, iv wh0, iv lk1, iv wh1, jv tm1, se, rv b19, jv (if wh0 = (0 : Int32) then (0 : Int64) else q0), se, un, un, un, un, un] [] tg → Steps p.tables e below S0 tg := fun tg kg => pre123 tg (by
     refine XS.ifNo X114.here hx rfl (hb hby at_102) rfl (XT.i0_eq_f hc124) ?_
     exact kg)
    rcases Decidable.em ((0 : Int32) < p2) with hc184 | hc184
    ·
     obtain ⟨cq185, kq185, q185a, q185b, q185c⟩ := isOf hZ rfl E114_115
     obtain ⟨_, _, ⟨T185, L185, k185, n185⟩, -, X185, ⟨Lc185, hQ185, l185, y185, z185⟩, st185⟩ := X114.virtualBack hx (y := y7) (z := y7) hown (mvT hZ (ow hw 42 rfl)) (mvT hZ (ow hw 43 rfl)) (notFace_of_selects (args := #[]) (mvT hZ (ow hw 45 rfl))) (mvT hZ (ow hw 45 rfl)) (mvT hZ (ow hw 44 rfl)) (by decide) (backOf (W := 0) (rm7_11 l Z ar hw [] b19 tm1 p2 wh1 (if wh0 = (0 : Int32) then (0 : Int64) else q0) dq_22 es_22 ke_22 nw_114 kn_114 q0 (p1.toInt64) T114.heap n0 O114 HW E114_115 u114_1 u114_2 E114_116 u114_3 u114_4 u114_5 u114_6 u22_8 u114_7 u114_8 gn19 gn24 gn26 u22_11 u22_12 u22_13 (Ne.symm ne118) (Ne.symm ne119) (Ne.symm ne120) hc184) hZ (ow hw 46 rfl) (ow hw 2 rfl) (by decide) (by decide)) q185a q185c (g := (mkF m 112 #[jv q0, se, iv p1, iv p2, iv p3, jv q4, se, iv p5, iv lk0, iv wh0, iv lk1, iv wh1, jv tm1, se, rv b19, jv (if wh0 = (0 : Int32) then (0 : Int64) else q0), se, un, un, un, un, un] [(.int wh1), (.int p2), (.long tm1), (.ref b19)])) rfl (by rw [hml]; rfl) (Steps.refl _) (argsL := [(.long tm1), (.int p2), (.int wh1)]) (rest := []) (lenOf pd_12 rfl) rfl (by show 2 * 0 + _ ≤ _; exact Nat.le_of_eq rfl) (hb hby at_112) (fun _ _ => ⟨rfl, rfl, (by decide : 4 + 2 ≤ _), (by decide : 24 + 6 ≤ _)⟩)
     dsimp only [Pt.U, Pt.locs, Pt.cells, Pt.slots] at X185 l185 y185 z185 st185 hQ185
     subst l185 y185 z185
     obtain ⟨nw_185, kn_185, rfl, N185q, Kq185, u185_0, u185_1, u185_2, u185_3, u185_4, u185_5, u185_6, u185_7, u185_8, u185_9⟩ := hQ185
     have N185 := Fr.app N114 N185q
     have E185_186 := E114_115.keep Kq185
     have E185_187 := E114_116.keep Kq185
     have E185_188 := u114_7.keep Kq185
     have V185_189 := u114_8.keep Kq185 (ninS (Ne.symm ne118) (ninS (Ne.symm ne119) (ninS (Ne.symm ne120) nin0)))
     have K185 := K114.trans Kq185 (allS (Or.inr sz19) (allS (Or.inr sz24) (allS (Or.inr sz26) all0)))
     have O185 := O114.keep Kq185 (allS gn19 (allS gn24 (allS gn26 all0)))
     have sz190 : h0.size ≤ nw_185 := Nat.le_trans K114.1 u185_9
     have gn190 : n0 ≤ nw_185 := Nat.le_trans (Nat.le_trans (Nat.le_of_eq O114.1.symm) O114.2.1) u185_9
     have ne191 : b19 ≠ nw_185 := Nat.ne_of_lt (Nat.lt_of_lt_of_le (E114_115).lt u185_9)
     have ne192 : dq_22 ≠ nw_185 := Nat.ne_of_lt (Nat.lt_of_lt_of_le (E114_116).lt u185_9)
     have ne193 : es_22 ≠ nw_185 := Nat.ne_of_lt (Nat.lt_of_lt_of_le (u114_6).lt u185_9)
     have ne194 : nw_114 ≠ nw_185 := Nat.ne_of_lt (Nat.lt_of_lt_of_le (u114_7).lt u185_9)
     have pre195 : ∀ tg, AT p e below T185 m 117 #[jv q0, se, iv p1, iv p2, iv p3, jv q4, se, iv p5, iv lk0, iv wh0, iv lk1, iv wh1, jv tm1, se, rv b19, jv (if wh0 = (0 : Int32) then (0 : Int64) else q0), se, un, un, un, un, un] [(.int wh1)] tg → Steps p.tables e below S0 tg := fun tg kg => pre183 tg (by
      refine XS.aload X114.here hx rfl (hb hby at_105) rfl rfl ?_
      refine XS.lload X114.here hx rfl (hb hby at_107) rfl ?_
      refine XS.iloadN X114.here hx rfl (hb hby at_109) rfl ?_
      show AT p e below T114 m 110 #[jv q0, se, iv p1, iv p2, iv p3, jv q4, se, iv p5, iv lk0, iv wh0, iv lk1, iv wh1, jv tm1, se, rv b19, jv (if wh0 = (0 : Int32) then (0 : Int64) else q0), se, un, un, un, un, un] [(.int p2), (.long tm1), (.ref b19)] _
      refine XS.iload X114.here hx rfl (hb hby at_110) rfl ?_
      refine st185.trans ?_
      refine XS.iload X185.here hx rfl (hb hby at_115) rfl ?_
      exact kg)
     have pre196 : ∀ tg, AT p e below T185 m 124 #[jv q0, se, iv p1, iv p2, iv p3, jv q4, se, iv p5, iv lk0, iv wh0, iv lk1, iv wh1, jv tm1, se, rv b19, jv (if wh1 = (0 : Int32) then (if wh0 = (0 : Int32) then (0 : Int64) else q0) else tm1), se, un, un, un, un, un] [] tg → Steps p.tables e below S0 tg := by
      intro tg kg
      rcases Decidable.em (wh1 = (0 : Int32)) with hd | hd
      ·
       simp only [if_pos hd] at kg
       exact pre195 tg (by
        refine XS.ifYes X185.here hx rfl (pc0 := 117) (pc' := 124) rfl (hb hby at_117) rfl (XT.i0_eq_t hd) (by decide) (by decide) ?_
        exact kg)
      ·
       simp only [if_neg hd] at kg
       exact pre195 tg (by
        refine XS.ifNo X185.here hx rfl (hb hby at_117) rfl (XT.i0_eq_f hd) ?_
        show AT p e below T185 m 120 #[jv q0, se, iv p1, iv p2, iv p3, jv q4, se, iv p5, iv lk0, iv wh0, iv lk1, iv wh1, jv tm1, se, rv b19, jv (if wh0 = (0 : Int32) then (0 : Int64) else q0), se, un, un, un, un, un] [] _
        refine XS.lload X185.here hx rfl (hb hby at_120) rfl ?_
        refine XS.lstore X185.here hx rfl (hb hby at_122) rfl (l' := #[jv q0, se, iv p1, iv p2, iv p3, jv q4, se, iv p5, iv lk0, iv wh0, iv lk1, iv wh1, jv tm1, se, rv b19, jv tm1, se, un, un, un, un, un]) rfl ?_
        exact kg)
     have pre197 : ∀ tg, AT p e below T185 m 131 #[jv q0, se, iv p1, iv p2, iv p3, jv q4, se, iv p5, iv lk0, iv wh0, iv lk1, iv wh1, jv tm1, se, rv b19, jv (if wh1 = (0 : Int32) then (if wh0 = (0 : Int32) then (0 : Int64) else q0) else tm1), se, jv ((if wh1 = (0 : Int32) then (if wh0 = (0 : Int32) then (0 : Int64) else q0) else tm1) + q4), se, un, un, un] [] tg → Steps p.tables e below S0 tg := fun tg kg => pre196 tg (by
      refine XS.lload X185.here hx rfl (hb hby at_124) rfl ?_
      refine XS.lload X185.here hx rfl (hb hby at_126) rfl ?_
      refine XS.ladd X185.here hx rfl (hb hby at_128) rfl ?_
      show AT p e below T185 m 129 #[jv q0, se, iv p1, iv p2, iv p3, jv q4, se, iv p5, iv lk0, iv wh0, iv lk1, iv wh1, jv tm1, se, rv b19, jv (if wh1 = (0 : Int32) then (if wh0 = (0 : Int32) then (0 : Int64) else q0) else tm1), se, un, un, un, un, un] [(.long ((if wh1 = (0 : Int32) then (if wh0 = (0 : Int32) then (0 : Int64) else q0) else tm1) + q4))] _
      refine XS.lstore X185.here hx rfl (hb hby at_129) rfl (l' := #[jv q0, se, iv p1, iv p2, iv p3, jv q4, se, iv p5, iv lk0, iv wh0, iv lk1, iv wh1, jv tm1, se, rv b19, jv (if wh1 = (0 : Int32) then (if wh0 = (0 : Int32) then (0 : Int64) else q0) else tm1), se, jv ((if wh1 = (0 : Int32) then (if wh0 = (0 : Int32) then (0 : Int64) else q0) else tm1) + q4), se, un, un, un]) rfl ?_
      exact kg)
     rcases Decidable.em ((0 : Int32) < p5) with hc198 | hc198
     ·
      rcases Decidable.em (q4 < (600000000000 : Int64)) with hc199 | hc199
      ·
       rcases Decidable.em (p1 < p5) with hc200 | hc200
       ·
        obtain ⟨cq201, kq201, q201a, q201b, q201c⟩ := isOf hZ rfl E185_186
        obtain ⟨_, _, ⟨T201, L201, k201, n201⟩, -, X201, ⟨Lc201, hQ201, l201, y201, z201⟩, st201⟩ := X185.virtualBack hx (y := y5) (z := y5) hown (mvT hZ (ow hw 28 rfl)) (mvT hZ (ow hw 29 rfl)) (notFace_of_selects (args := #[]) (mvT hZ (ow hw 31 rfl))) (mvT hZ (ow hw 31 rfl)) (mvT hZ (ow hw 30 rfl)) (by decide) (backOf (W := 0) (rm5_2l l Z ar hw [] b19 ((if wh1 = (0 : Int32) then (if wh0 = (0 : Int32) then (0 : Int64) else q0) else tm1) + q4) p5 (if wh1 = (0 : Int32) then (if wh0 = (0 : Int32) then (0 : Int64) else q0) else tm1) dq_22 es_22 ke_22 nw_114 nw_185 kn_114 q0 p1 T185.heap n0 O185 HW E185_186 u185_2 u185_1 E185_187 u185_3 u185_4 u185_5 u185_6 E185_188 V185_189 hc198 (by rw [own_wd]; exact hc199) hc200) hZ (ow hw 32 rfl) (ow hw 2 rfl) (by decide) (by decide)) q201a q201c (g := (mkF m 137 #[jv q0, se, iv p1, iv p2, iv p3, jv q4, se, iv p5, iv lk0, iv wh0, iv lk1, iv wh1, jv tm1, se, rv b19, jv (if wh1 = (0 : Int32) then (if wh0 = (0 : Int32) then (0 : Int64) else q0) else tm1), se, jv ((if wh1 = (0 : Int32) then (if wh0 = (0 : Int32) then (0 : Int64) else q0) else tm1) + q4), se, un, un, un] [(.int p5), (.long ((if wh1 = (0 : Int32) then (if wh0 = (0 : Int32) then (0 : Int64) else q0) else tm1) + q4)), (.ref b19)])) rfl (by rw [hml]; rfl) (Steps.refl _) (argsL := [(.long ((if wh1 = (0 : Int32) then (if wh0 = (0 : Int32) then (0 : Int64) else q0) else tm1) + q4)), (.int p5)]) (rest := []) (lenOf pd_11 rfl) rfl (by show 2 * 0 + _ ≤ _; exact Nat.le_of_eq rfl) (hb hby at_137) (fun _ _ => ⟨rfl, rfl, (by decide : 6 + 1 ≤ _), (by decide : 30 + 2 ≤ _)⟩)
        dsimp only [Pt.U, Pt.locs, Pt.cells, Pt.slots] at X201 l201 y201 z201 st201 hQ201
        subst l201 y201 z201
        obtain ⟨b_201, kb_201, rfl, N201q, Kq201, u201_0, u201_1⟩ := hQ201
        have N201 := Fr.app N185 N201q
        have E201_202 := E185_186.keep Kq201
        have E201_203 := E185_187.keep Kq201
        have E201_204 := E185_188.keep Kq201
        have V201_205 := V185_189.keep Kq201 nin0
        have F201_206 := u185_1.keep Kq201 nin0
        have F201_207 := u185_2.keep Kq201 nin0
        have F201_208 := u185_3.keep Kq201 nin0
        have F201_209 := u185_4.keep Kq201 nin0
        have F201_210 := u185_5.keep Kq201 nin0
        have V201_211 := u185_6.keep Kq201 nin0
        have E201_212 := u185_7.keep Kq201
        have V201_213 := u185_8.keep Kq201 nin0
        have K201 := K185.trans Kq201 all0
        have O201 := O185.keep Kq201 all0
        have sz214 : h0.size ≤ b_201 := Nat.le_trans K185.1 u201_1
        have gn214 : n0 ≤ b_201 := Nat.le_trans (Nat.le_trans (Nat.le_of_eq O185.1.symm) O185.2.1) u201_1
        have ne215 : b19 ≠ b_201 := Nat.ne_of_lt (Nat.lt_of_lt_of_le (E185_186).lt u201_1)
        have ne216 : dq_22 ≠ b_201 := Nat.ne_of_lt (Nat.lt_of_lt_of_le (E185_187).lt u201_1)
        have ne217 : nw_114 ≠ b_201 := Nat.ne_of_lt (Nat.lt_of_lt_of_le (E185_188).lt u201_1)
        have ne218 : es_22 ≠ b_201 := Nat.ne_of_lt (Nat.lt_of_lt_of_le (u185_6).lt u201_1)
        have ne219 : nw_185 ≠ b_201 := Nat.ne_of_lt (Nat.lt_of_lt_of_le (u185_7).lt u201_1)
        obtain ⟨_, _, ⟨T220, L220, k220, n220⟩, -, X220, ⟨Lc220, hQ220, l220, y220, z220⟩, st220⟩ := Jvm.LawKit.callS X201 hx (y := y19) hown (mvT hZ (ow hw 124 rfl)) (mvT hZ (ow hw 125 rfl)) (mvT hZ (ow hw 126 rfl)) (mvT hZ (ow hw 127 rfl)) (by decide) (backOf (W := 0) (rm19_2 l Z ar hw [] b_201 (p1 + (1 : Int32)) p5 (0 : Int32) (0 : Int32) kb_201 (p1 + (1 : Int32)) p5 T201.heap n0 O201 u201_0) hZ (ow hw 127 rfl) (ow hw 126 rfl) (by decide) (by decide)) (g := (mkF m 232 #[jv q0, se, iv p1, iv p2, iv p3, jv q4, se, iv p5, iv lk0, iv wh0, iv lk1, iv wh1, jv tm1, se, rv b19, jv (if wh1 = (0 : Int32) then (if wh0 = (0 : Int32) then (0 : Int64) else q0) else tm1), se, jv ((if wh1 = (0 : Int32) then (if wh0 = (0 : Int32) then (0 : Int64) else q0) else tm1) + q4), se, rv b_201, iv (1 : Int32), iv p1] [(.int (0 : Int32)), (.int (0 : Int32)), (.int p5), (.int (p1 + (1 : Int32))), (.int (2 : Int32)), (.ref b_201)])) rfl (by rw [hml]; rfl) (argsL := [(.ref b_201), (.int (2 : Int32)), (.int (p1 + (1 : Int32))), (.int p5), (.int (0 : Int32)), (.int (0 : Int32))]) (rest := []) (lenOf pd_13 rfl) rfl (by show 2 * 0 + _ ≤ _; exact Nat.le_of_eq rfl) (hb hby at_232) (fun _ _ => ⟨rfl, rfl, (by decide : 7 + 0 ≤ _), (by decide : 32 + 0 ≤ _)⟩)
        dsimp only [Pt.U, Pt.locs, Pt.cells, Pt.slots] at X220 l220 y220 z220 st220 hQ220
        subst l220 y220 z220
        obtain ⟨rfl, N220q, e220⟩ := hQ220
        have N220 := Fr.app N201 N220q
        have r220 : (f19_2 (p1 + (1 : Int32)) p5 (p1 + (1 : Int32)) p5) = (1 : Int32) := by rw [f19_2, if_pos (rfl : (p1 + (1 : Int32)) = (p1 + (1 : Int32))), if_pos (rfl : p5 = p5)] <;> decide
        rw [r220] at st220
        obtain ⟨fs, hr, hrun, hended, hW, hsame⟩ := X220.leave (v := some (.int (1 : Int32))) (fun h => by rw [Bd.returns] at h; cases h)
        subst hS0
        refine ⟨_, _, pre197 _ ?_, hrun, hended, _, _, rfl, ?_, ⟨_, rfl⟩, hW, hsame.mono (by decide) (by decide)⟩
        ·
         refine XS.aload X185.here hx rfl (hb hby at_131) rfl rfl ?_
         refine XS.lload X185.here hx rfl (hb hby at_133) rfl ?_
         refine XS.iload X185.here hx rfl (hb hby at_135) rfl ?_
         show AT p e below T185 m 137 #[jv q0, se, iv p1, iv p2, iv p3, jv q4, se, iv p5, iv lk0, iv wh0, iv lk1, iv wh1, jv tm1, se, rv b19, jv (if wh1 = (0 : Int32) then (if wh0 = (0 : Int32) then (0 : Int64) else q0) else tm1), se, jv ((if wh1 = (0 : Int32) then (if wh0 = (0 : Int32) then (0 : Int64) else q0) else tm1) + q4), se, un, un, un] [(.int p5), (.long ((if wh1 = (0 : Int32) then (if wh0 = (0 : Int32) then (0 : Int64) else q0) else tm1) + q4)), (.ref b19)] _
         refine st201.trans ?_
         refine XS.astore X201.here hx rfl (hb hby at_140) rfl rfl (l' := #[jv q0, se, iv p1, iv p2, iv p3, jv q4, se, iv p5, iv lk0, iv wh0, iv lk1, iv wh1, jv tm1, se, rv b19, jv (if wh1 = (0 : Int32) then (if wh0 = (0 : Int32) then (0 : Int64) else q0) else tm1), se, jv ((if wh1 = (0 : Int32) then (if wh0 = (0 : Int32) then (0 : Int64) else q0) else tm1) + q4), se, rv b_201, un, un]) rfl ?_
         refine XS.iload X201.here hx rfl (hb hby at_142) rfl ?_
         show AT p e below T201 m 144 #[jv q0, se, iv p1, iv p2, iv p3, jv q4, se, iv p5, iv lk0, iv wh0, iv lk1, iv wh1, jv tm1, se, rv b19, jv (if wh1 = (0 : Int32) then (if wh0 = (0 : Int32) then (0 : Int64) else q0) else tm1), se, jv ((if wh1 = (0 : Int32) then (if wh0 = (0 : Int32) then (0 : Int64) else q0) else tm1) + q4), se, rv b_201, un, un] [(.int lk0)] _
         refine XS.ifNo X201.here hx rfl (hb hby at_144) rfl (XT.i0_eq_f (hc29 : ¬ (lk0 = (0 : Int32)))) ?_
         show AT p e below T201 m 147 #[jv q0, se, iv p1, iv p2, iv p3, jv q4, se, iv p5, iv lk0, iv wh0, iv lk1, iv wh1, jv tm1, se, rv b19, jv (if wh1 = (0 : Int32) then (if wh0 = (0 : Int32) then (0 : Int64) else q0) else tm1), se, jv ((if wh1 = (0 : Int32) then (if wh0 = (0 : Int32) then (0 : Int64) else q0) else tm1) + q4), se, rv b_201, un, un] [] _
         refine XS.iloadN X201.here hx rfl (hb hby at_147) rfl ?_
         show AT p e below T201 m 148 #[jv q0, se, iv p1, iv p2, iv p3, jv q4, se, iv p5, iv lk0, iv wh0, iv lk1, iv wh1, jv tm1, se, rv b19, jv (if wh1 = (0 : Int32) then (if wh0 = (0 : Int32) then (0 : Int64) else q0) else tm1), se, jv ((if wh1 = (0 : Int32) then (if wh0 = (0 : Int32) then (0 : Int64) else q0) else tm1) + q4), se, rv b_201, un, un] [(.int p1)] _
         refine XS.ifNo X201.here hx rfl (hb hby at_148) rfl (XT.i0_le_f (hc113 : (0 : Int32) < p1)) ?_
         refine XS.iconst X201.here hx rfl (hb hby at_151) ?_
         refine XS.istore X201.here hx rfl (hb hby at_152) rfl (l' := #[jv q0, se, iv p1, iv p2, iv p3, jv q4, se, iv p5, iv lk0, iv wh0, iv lk1, iv wh1, jv tm1, se, rv b19, jv (if wh1 = (0 : Int32) then (if wh0 = (0 : Int32) then (0 : Int64) else q0) else tm1), se, jv ((if wh1 = (0 : Int32) then (if wh0 = (0 : Int32) then (0 : Int64) else q0) else tm1) + q4), se, rv b_201, iv (1 : Int32), un]) rfl ?_
         show AT p e below T201 m 154 #[jv q0, se, iv p1, iv p2, iv p3, jv q4, se, iv p5, iv lk0, iv wh0, iv lk1, iv wh1, jv tm1, se, rv b19, jv (if wh1 = (0 : Int32) then (if wh0 = (0 : Int32) then (0 : Int64) else q0) else tm1), se, jv ((if wh1 = (0 : Int32) then (if wh0 = (0 : Int32) then (0 : Int64) else q0) else tm1) + q4), se, rv b_201, iv (1 : Int32), un] [] _
         refine XS.iloadN X201.here hx rfl (hb hby at_154) rfl ?_
         refine XS.istore X201.here hx rfl (hb hby at_155) rfl (l' := #[jv q0, se, iv p1, iv p2, iv p3, jv q4, se, iv p5, iv lk0, iv wh0, iv lk1, iv wh1, jv tm1, se, rv b19, jv (if wh1 = (0 : Int32) then (if wh0 = (0 : Int32) then (0 : Int64) else q0) else tm1), se, jv ((if wh1 = (0 : Int32) then (if wh0 = (0 : Int32) then (0 : Int64) else q0) else tm1) + q4), se, rv b_201, iv (1 : Int32), iv p1]) rfl ?_
         refine XS.goto X201.here hx rfl (pc0 := 157) (pc' := 184) rfl (hb hby at_157) (by decide) (by decide) ?_
         show AT p e below T201 m 184 #[jv q0, se, iv p1, iv p2, iv p3, jv q4, se, iv p5, iv lk0, iv wh0, iv lk1, iv wh1, jv tm1, se, rv b19, jv (if wh1 = (0 : Int32) then (if wh0 = (0 : Int32) then (0 : Int64) else q0) else tm1), se, jv ((if wh1 = (0 : Int32) then (if wh0 = (0 : Int32) then (0 : Int64) else q0) else tm1) + q4), se, rv b_201, iv (1 : Int32), iv p1] [] _
         refine XS.iload X201.here hx rfl (hb hby at_184) rfl ?_
         show AT p e below T201 m 186 #[jv q0, se, iv p1, iv p2, iv p3, jv q4, se, iv p5, iv lk0, iv wh0, iv lk1, iv wh1, jv tm1, se, rv b19, jv (if wh1 = (0 : Int32) then (if wh0 = (0 : Int32) then (0 : Int64) else q0) else tm1), se, jv ((if wh1 = (0 : Int32) then (if wh0 = (0 : Int32) then (0 : Int64) else q0) else tm1) + q4), se, rv b_201, iv (1 : Int32), iv p1] [(.int (1 : Int32))] _
         refine XS.ifNo X201.here hx rfl (hb hby at_186) rfl (XT.i0_eq_f ((by decide) : ¬ ((1 : Int32) = (0 : Int32)))) ?_
         refine XS.iload X201.here hx rfl (hb hby at_189) rfl ?_
         show AT p e below T201 m 191 #[jv q0, se, iv p1, iv p2, iv p3, jv q4, se, iv p5, iv lk0, iv wh0, iv lk1, iv wh1, jv tm1, se, rv b19, jv (if wh1 = (0 : Int32) then (if wh0 = (0 : Int32) then (0 : Int64) else q0) else tm1), se, jv ((if wh1 = (0 : Int32) then (if wh0 = (0 : Int32) then (0 : Int64) else q0) else tm1) + q4), se, rv b_201, iv (1 : Int32), iv p1] [(.int p5)] _
         refine XS.ifNo X201.here hx rfl (hb hby at_191) rfl (XT.i0_le_f (hc198 : (0 : Int32) < p5)) ?_
         refine XS.lload X201.here hx rfl (hb hby at_194) rfl ?_
         show AT p e below T201 m 196 #[jv q0, se, iv p1, iv p2, iv p3, jv q4, se, iv p5, iv lk0, iv wh0, iv lk1, iv wh1, jv tm1, se, rv b19, jv (if wh1 = (0 : Int32) then (if wh0 = (0 : Int32) then (0 : Int64) else q0) else tm1), se, jv ((if wh1 = (0 : Int32) then (if wh0 = (0 : Int32) then (0 : Int64) else q0) else tm1) + q4), se, rv b_201, iv (1 : Int32), iv p1] [(.long q4)] _
         refine X201.ldc2Long hx hown (mvT hZ (ow hw 123 rfl)) (g := (mkF m 196 #[jv q0, se, iv p1, iv p2, iv p3, jv q4, se, iv p5, iv lk0, iv wh0, iv lk1, iv wh1, jv tm1, se, rv b19, jv (if wh1 = (0 : Int32) then (if wh0 = (0 : Int32) then (0 : Int64) else q0) else tm1), se, jv ((if wh1 = (0 : Int32) then (if wh0 = (0 : Int32) then (0 : Int64) else q0) else tm1) + q4), se, rv b_201, iv (1 : Int32), iv p1] [(.long q4)])) rfl (hb hby at_196) _ ?_
         refine XS.lcmp X201.here hx rfl (hb hby at_199) rfl ?_
         show AT p e below T201 m 200 #[jv q0, se, iv p1, iv p2, iv p3, jv q4, se, iv p5, iv lk0, iv wh0, iv lk1, iv wh1, jv tm1, se, rv b19, jv (if wh1 = (0 : Int32) then (if wh0 = (0 : Int32) then (0 : Int64) else q0) else tm1), se, jv ((if wh1 = (0 : Int32) then (if wh0 = (0 : Int32) then (0 : Int64) else q0) else tm1) + q4), se, rv b_201, iv (1 : Int32), iv p1] [(.int (XT.cmpL q4 (600000000000 : Int64)))] _
         refine XS.ifYes X201.here hx rfl (pc0 := 200) (pc' := 214) rfl (hb hby at_200) rfl (XT.ll_lt_t (hc199 : q4 < (600000000000 : Int64))) (by decide) (by decide) ?_
         refine XS.iload X201.here hx rfl (hb hby at_214) rfl ?_
         show AT p e below T201 m 216 #[jv q0, se, iv p1, iv p2, iv p3, jv q4, se, iv p5, iv lk0, iv wh0, iv lk1, iv wh1, jv tm1, se, rv b19, jv (if wh1 = (0 : Int32) then (if wh0 = (0 : Int32) then (0 : Int64) else q0) else tm1), se, jv ((if wh1 = (0 : Int32) then (if wh0 = (0 : Int32) then (0 : Int64) else q0) else tm1) + q4), se, rv b_201, iv (1 : Int32), iv p1] [(.int p1)] _
         refine XS.iload X201.here hx rfl (hb hby at_216) rfl ?_
         show AT p e below T201 m 218 #[jv q0, se, iv p1, iv p2, iv p3, jv q4, se, iv p5, iv lk0, iv wh0, iv lk1, iv wh1, jv tm1, se, rv b19, jv (if wh1 = (0 : Int32) then (if wh0 = (0 : Int32) then (0 : Int64) else q0) else tm1), se, jv ((if wh1 = (0 : Int32) then (if wh0 = (0 : Int32) then (0 : Int64) else q0) else tm1) + q4), se, rv b_201, iv (1 : Int32), iv p1] [(.int p5), (.int p1)] _
         refine XS.icmpNo X201.here hx rfl (hb hby at_218) rfl (XT.ii_ge_f (hc200 : p1 < p5)) ?_
         refine XS.aload X201.here hx rfl (hb hby at_221) rfl rfl ?_
         refine XS.iconst X201.here hx rfl (hb hby at_223) ?_
         show AT p e below T201 m 224 #[jv q0, se, iv p1, iv p2, iv p3, jv q4, se, iv p5, iv lk0, iv wh0, iv lk1, iv wh1, jv tm1, se, rv b19, jv (if wh1 = (0 : Int32) then (if wh0 = (0 : Int32) then (0 : Int64) else q0) else tm1), se, jv ((if wh1 = (0 : Int32) then (if wh0 = (0 : Int32) then (0 : Int64) else q0) else tm1) + q4), se, rv b_201, iv (1 : Int32), iv p1] [(.int (2 : Int32)), (.ref b_201)] _
         refine XS.iload X201.here hx rfl (hb hby at_224) rfl ?_
         refine XS.iconst X201.here hx rfl (hb hby at_226) ?_
         refine XS.iadd X201.here hx rfl (hb hby at_227) rfl ?_
         show AT p e below T201 m 228 #[jv q0, se, iv p1, iv p2, iv p3, jv q4, se, iv p5, iv lk0, iv wh0, iv lk1, iv wh1, jv tm1, se, rv b19, jv (if wh1 = (0 : Int32) then (if wh0 = (0 : Int32) then (0 : Int64) else q0) else tm1), se, jv ((if wh1 = (0 : Int32) then (if wh0 = (0 : Int32) then (0 : Int64) else q0) else tm1) + q4), se, rv b_201, iv (1 : Int32), iv p1] [(.int (p1 + (1 : Int32))), (.int (2 : Int32)), (.ref b_201)] _
         refine XS.iload X201.here hx rfl (hb hby at_228) rfl ?_
         refine XS.iconst X201.here hx rfl (hb hby at_230) ?_
         refine XS.iconst X201.here hx rfl (hb hby at_231) ?_
         show AT p e below T201 m 232 #[jv q0, se, iv p1, iv p2, iv p3, jv q4, se, iv p5, iv lk0, iv wh0, iv lk1, iv wh1, jv tm1, se, rv b19, jv (if wh1 = (0 : Int32) then (if wh0 = (0 : Int32) then (0 : Int64) else q0) else tm1), se, jv ((if wh1 = (0 : Int32) then (if wh0 = (0 : Int32) then (0 : Int64) else q0) else tm1) + q4), se, rv b_201, iv (1 : Int32), iv p1] [(.int (0 : Int32)), (.int (0 : Int32)), (.int p5), (.int (p1 + (1 : Int32))), (.int (2 : Int32)), (.ref b_201)] _
         refine st220 _ ?_
         exact retN X220 hx (t := .boolean) Bd.returns (by simp) (hb hby at_235) hr
        ·
         show Q0 Z q0 p1 p2 p3 q4 p5 h0 n0 _ T220.heap _
         rw [e220]
         exact ⟨rfl, N220⟩
       ·
        rcases Decidable.em (p5 < p1) with hc221 | hc221
        ·
         obtain ⟨cq222, kq222, q222a, q222b, q222c⟩ := isOf hZ rfl E185_186
         obtain ⟨_, _, ⟨T222, L222, k222, n222⟩, -, X222, ⟨Lc222, hQ222, l222, y222, z222⟩, st222⟩ := X185.virtualBack hx (y := y5) (z := y5) hown (mvT hZ (ow hw 28 rfl)) (mvT hZ (ow hw 29 rfl)) (notFace_of_selects (args := #[]) (mvT hZ (ow hw 31 rfl))) (mvT hZ (ow hw 31 rfl)) (mvT hZ (ow hw 30 rfl)) (by decide) (backOf (W := 0) (rm5_2g l Z ar hw [] b19 ((if wh1 = (0 : Int32) then (if wh0 = (0 : Int32) then (0 : Int64) else q0) else tm1) + q4) p5 (if wh1 = (0 : Int32) then (if wh0 = (0 : Int32) then (0 : Int64) else q0) else tm1) dq_22 es_22 ke_22 nw_114 nw_185 kn_114 q0 p1 T185.heap n0 O185 HW E185_186 u185_2 u185_1 E185_187 u185_3 u185_4 u185_5 u185_6 E185_188 V185_189 hc198 (by rw [own_wd]; exact hc199) hc200 hc221) hZ (ow hw 32 rfl) (ow hw 2 rfl) (by decide) (by decide)) q222a q222c (g := (mkF m 137 #[jv q0, se, iv p1, iv p2, iv p3, jv q4, se, iv p5, iv lk0, iv wh0, iv lk1, iv wh1, jv tm1, se, rv b19, jv (if wh1 = (0 : Int32) then (if wh0 = (0 : Int32) then (0 : Int64) else q0) else tm1), se, jv ((if wh1 = (0 : Int32) then (if wh0 = (0 : Int32) then (0 : Int64) else q0) else tm1) + q4), se, un, un, un] [(.int p5), (.long ((if wh1 = (0 : Int32) then (if wh0 = (0 : Int32) then (0 : Int64) else q0) else tm1) + q4)), (.ref b19)])) rfl (by rw [hml]; rfl) (Steps.refl _) (argsL := [(.long ((if wh1 = (0 : Int32) then (if wh0 = (0 : Int32) then (0 : Int64) else q0) else tm1) + q4)), (.int p5)]) (rest := []) (lenOf pd_11 rfl) rfl (by show 2 * 0 + _ ≤ _; exact Nat.le_of_eq rfl) (hb hby at_137) (fun _ _ => ⟨rfl, rfl, (by decide : 6 + 1 ≤ _), (by decide : 30 + 4 ≤ _)⟩)
         dsimp only [Pt.U, Pt.locs, Pt.cells, Pt.slots] at X222 l222 y222 z222 st222 hQ222
         subst l222 y222 z222
         obtain ⟨b_222, kb_222, rfl, N222q, Kq222, u222_0, u222_1⟩ := hQ222
         have N222 := Fr.app N185 N222q
         have E222_223 := E185_186.keep Kq222
         have E222_224 := E185_187.keep Kq222
         have E222_225 := E185_188.keep Kq222
         have V222_226 := V185_189.keep Kq222 nin0
         have F222_227 := u185_1.keep Kq222 nin0
         have F222_228 := u185_2.keep Kq222 nin0
         have F222_229 := u185_3.keep Kq222 nin0
         have F222_230 := u185_4.keep Kq222 nin0
         have F222_231 := u185_5.keep Kq222 nin0
         have V222_232 := u185_6.keep Kq222 nin0
         have E222_233 := u185_7.keep Kq222
         have V222_234 := u185_8.keep Kq222 nin0
         have K222 := K185.trans Kq222 all0
         have O222 := O185.keep Kq222 all0
         have sz235 : h0.size ≤ b_222 := Nat.le_trans K185.1 u222_1
         have gn235 : n0 ≤ b_222 := Nat.le_trans (Nat.le_trans (Nat.le_of_eq O185.1.symm) O185.2.1) u222_1
         have ne236 : b19 ≠ b_222 := Nat.ne_of_lt (Nat.lt_of_lt_of_le (E185_186).lt u222_1)
         have ne237 : dq_22 ≠ b_222 := Nat.ne_of_lt (Nat.lt_of_lt_of_le (E185_187).lt u222_1)
         have ne238 : nw_114 ≠ b_222 := Nat.ne_of_lt (Nat.lt_of_lt_of_le (E185_188).lt u222_1)
         have ne239 : es_22 ≠ b_222 := Nat.ne_of_lt (Nat.lt_of_lt_of_le (u185_6).lt u222_1)
         have ne240 : nw_185 ≠ b_222 := Nat.ne_of_lt (Nat.lt_of_lt_of_le (u185_7).lt u222_1)
         obtain ⟨_, _, ⟨T241, L241, k241, n241⟩, -, X241, ⟨Lc241, hQ241, l241, y241, z241⟩, st241⟩ := Jvm.LawKit.callS X222 hx (y := y19) hown (mvT hZ (ow hw 124 rfl)) (mvT hZ (ow hw 125 rfl)) (mvT hZ (ow hw 126 rfl)) (mvT hZ (ow hw 127 rfl)) (by decide) (backOf (W := 0) (rm19_4 l Z ar hw [] b_222 (p1 + (1 : Int32)) (2147483647 : Int32) (1 : Int32) p5 kb_222 (p1 + (1 : Int32)) (2147483647 : Int32) (1 : Int32) p5 T222.heap n0 O222 u222_0) hZ (ow hw 127 rfl) (ow hw 126 rfl) (by decide) (by decide)) (g := (mkF m 255 #[jv q0, se, iv p1, iv p2, iv p3, jv q4, se, iv p5, iv lk0, iv wh0, iv lk1, iv wh1, jv tm1, se, rv b19, jv (if wh1 = (0 : Int32) then (if wh0 = (0 : Int32) then (0 : Int64) else q0) else tm1), se, jv ((if wh1 = (0 : Int32) then (if wh0 = (0 : Int32) then (0 : Int64) else q0) else tm1) + q4), se, rv b_222, iv (1 : Int32), iv p1] [(.int p5), (.int (1 : Int32)), (.int (2147483647 : Int32)), (.int (p1 + (1 : Int32))), (.int (4 : Int32)), (.ref b_222)])) rfl (by rw [hml]; rfl) (argsL := [(.ref b_222), (.int (4 : Int32)), (.int (p1 + (1 : Int32))), (.int (2147483647 : Int32)), (.int (1 : Int32)), (.int p5)]) (rest := []) (lenOf pd_13 rfl) rfl (by show 2 * 0 + _ ≤ _; exact Nat.le_of_eq rfl) (hb hby at_255) (fun _ _ => ⟨rfl, rfl, (by decide : 7 + 0 ≤ _), (by decide : 34 + 0 ≤ _)⟩)
         dsimp only [Pt.U, Pt.locs, Pt.cells, Pt.slots] at X241 l241 y241 z241 st241 hQ241
         subst l241 y241 z241
         obtain ⟨rfl, N241q, e241⟩ := hQ241
         have N241 := Fr.app N222 N241q
         have r241 : (f19_4 (p1 + (1 : Int32)) (2147483647 : Int32) (1 : Int32) p5 (p1 + (1 : Int32)) (2147483647 : Int32) (1 : Int32) p5) = (1 : Int32) := by rw [f19_4, if_pos (rfl : (p1 + (1 : Int32)) = (p1 + (1 : Int32))), if_pos ((by decide) : (2147483647 : Int32) = (2147483647 : Int32)), if_pos ((by decide) : (1 : Int32) = (1 : Int32)), if_pos (rfl : p5 = p5)] <;> decide
         rw [r241] at st241
         obtain ⟨fs, hr, hrun, hended, hW, hsame⟩ := X241.leave (v := some (.int (1 : Int32))) (fun h => by rw [Bd.returns] at h; cases h)
         subst hS0
         refine ⟨_, _, pre197 _ ?_, hrun, hended, _, _, rfl, ?_, ⟨_, rfl⟩, hW, hsame.mono (by decide) (by decide)⟩
         ·
          refine XS.aload X185.here hx rfl (hb hby at_131) rfl rfl ?_
          refine XS.lload X185.here hx rfl (hb hby at_133) rfl ?_
          refine XS.iload X185.here hx rfl (hb hby at_135) rfl ?_
          show AT p e below T185 m 137 #[jv q0, se, iv p1, iv p2, iv p3, jv q4, se, iv p5, iv lk0, iv wh0, iv lk1, iv wh1, jv tm1, se, rv b19, jv (if wh1 = (0 : Int32) then (if wh0 = (0 : Int32) then (0 : Int64) else q0) else tm1), se, jv ((if wh1 = (0 : Int32) then (if wh0 = (0 : Int32) then (0 : Int64) else q0) else tm1) + q4), se, un, un, un] [(.int p5), (.long ((if wh1 = (0 : Int32) then (if wh0 = (0 : Int32) then (0 : Int64) else q0) else tm1) + q4)), (.ref b19)] _
          refine st222.trans ?_
          refine XS.astore X222.here hx rfl (hb hby at_140) rfl rfl (l' := #[jv q0, se, iv p1, iv p2, iv p3, jv q4, se, iv p5, iv lk0, iv wh0, iv lk1, iv wh1, jv tm1, se, rv b19, jv (if wh1 = (0 : Int32) then (if wh0 = (0 : Int32) then (0 : Int64) else q0) else tm1), se, jv ((if wh1 = (0 : Int32) then (if wh0 = (0 : Int32) then (0 : Int64) else q0) else tm1) + q4), se, rv b_222, un, un]) rfl ?_
          refine XS.iload X222.here hx rfl (hb hby at_142) rfl ?_
          show AT p e below T222 m 144 #[jv q0, se, iv p1, iv p2, iv p3, jv q4, se, iv p5, iv lk0, iv wh0, iv lk1, iv wh1, jv tm1, se, rv b19, jv (if wh1 = (0 : Int32) then (if wh0 = (0 : Int32) then (0 : Int64) else q0) else tm1), se, jv ((if wh1 = (0 : Int32) then (if wh0 = (0 : Int32) then (0 : Int64) else q0) else tm1) + q4), se, rv b_222, un, un] [(.int lk0)] _
          refine XS.ifNo X222.here hx rfl (hb hby at_144) rfl (XT.i0_eq_f (hc29 : ¬ (lk0 = (0 : Int32)))) ?_
          show AT p e below T222 m 147 #[jv q0, se, iv p1, iv p2, iv p3, jv q4, se, iv p5, iv lk0, iv wh0, iv lk1, iv wh1, jv tm1, se, rv b19, jv (if wh1 = (0 : Int32) then (if wh0 = (0 : Int32) then (0 : Int64) else q0) else tm1), se, jv ((if wh1 = (0 : Int32) then (if wh0 = (0 : Int32) then (0 : Int64) else q0) else tm1) + q4), se, rv b_222, un, un] [] _
          refine XS.iloadN X222.here hx rfl (hb hby at_147) rfl ?_
          show AT p e below T222 m 148 #[jv q0, se, iv p1, iv p2, iv p3, jv q4, se, iv p5, iv lk0, iv wh0, iv lk1, iv wh1, jv tm1, se, rv b19, jv (if wh1 = (0 : Int32) then (if wh0 = (0 : Int32) then (0 : Int64) else q0) else tm1), se, jv ((if wh1 = (0 : Int32) then (if wh0 = (0 : Int32) then (0 : Int64) else q0) else tm1) + q4), se, rv b_222, un, un] [(.int p1)] _
          refine XS.ifNo X222.here hx rfl (hb hby at_148) rfl (XT.i0_le_f (hc113 : (0 : Int32) < p1)) ?_
          refine XS.iconst X222.here hx rfl (hb hby at_151) ?_
          refine XS.istore X222.here hx rfl (hb hby at_152) rfl (l' := #[jv q0, se, iv p1, iv p2, iv p3, jv q4, se, iv p5, iv lk0, iv wh0, iv lk1, iv wh1, jv tm1, se, rv b19, jv (if wh1 = (0 : Int32) then (if wh0 = (0 : Int32) then (0 : Int64) else q0) else tm1), se, jv ((if wh1 = (0 : Int32) then (if wh0 = (0 : Int32) then (0 : Int64) else q0) else tm1) + q4), se, rv b_222, iv (1 : Int32), un]) rfl ?_
          show AT p e below T222 m 154 #[jv q0, se, iv p1, iv p2, iv p3, jv q4, se, iv p5, iv lk0, iv wh0, iv lk1, iv wh1, jv tm1, se, rv b19, jv (if wh1 = (0 : Int32) then (if wh0 = (0 : Int32) then (0 : Int64) else q0) else tm1), se, jv ((if wh1 = (0 : Int32) then (if wh0 = (0 : Int32) then (0 : Int64) else q0) else tm1) + q4), se, rv b_222, iv (1 : Int32), un] [] _
          refine XS.iloadN X222.here hx rfl (hb hby at_154) rfl ?_
          refine XS.istore X222.here hx rfl (hb hby at_155) rfl (l' := #[jv q0, se, iv p1, iv p2, iv p3, jv q4, se, iv p5, iv lk0, iv wh0, iv lk1, iv wh1, jv tm1, se, rv b19, jv (if wh1 = (0 : Int32) then (if wh0 = (0 : Int32) then (0 : Int64) else q0) else tm1), se, jv ((if wh1 = (0 : Int32) then (if wh0 = (0 : Int32) then (0 : Int64) else q0) else tm1) + q4), se, rv b_222, iv (1 : Int32), iv p1]) rfl ?_
          refine XS.goto X222.here hx rfl (pc0 := 157) (pc' := 184) rfl (hb hby at_157) (by decide) (by decide) ?_
          show AT p e below T222 m 184 #[jv q0, se, iv p1, iv p2, iv p3, jv q4, se, iv p5, iv lk0, iv wh0, iv lk1, iv wh1, jv tm1, se, rv b19, jv (if wh1 = (0 : Int32) then (if wh0 = (0 : Int32) then (0 : Int64) else q0) else tm1), se, jv ((if wh1 = (0 : Int32) then (if wh0 = (0 : Int32) then (0 : Int64) else q0) else tm1) + q4), se, rv b_222, iv (1 : Int32), iv p1] [] _
          refine XS.iload X222.here hx rfl (hb hby at_184) rfl ?_
          show AT p e below T222 m 186 #[jv q0, se, iv p1, iv p2, iv p3, jv q4, se, iv p5, iv lk0, iv wh0, iv lk1, iv wh1, jv tm1, se, rv b19, jv (if wh1 = (0 : Int32) then (if wh0 = (0 : Int32) then (0 : Int64) else q0) else tm1), se, jv ((if wh1 = (0 : Int32) then (if wh0 = (0 : Int32) then (0 : Int64) else q0) else tm1) + q4), se, rv b_222, iv (1 : Int32), iv p1] [(.int (1 : Int32))] _
          refine XS.ifNo X222.here hx rfl (hb hby at_186) rfl (XT.i0_eq_f ((by decide) : ¬ ((1 : Int32) = (0 : Int32)))) ?_
          refine XS.iload X222.here hx rfl (hb hby at_189) rfl ?_
          show AT p e below T222 m 191 #[jv q0, se, iv p1, iv p2, iv p3, jv q4, se, iv p5, iv lk0, iv wh0, iv lk1, iv wh1, jv tm1, se, rv b19, jv (if wh1 = (0 : Int32) then (if wh0 = (0 : Int32) then (0 : Int64) else q0) else tm1), se, jv ((if wh1 = (0 : Int32) then (if wh0 = (0 : Int32) then (0 : Int64) else q0) else tm1) + q4), se, rv b_222, iv (1 : Int32), iv p1] [(.int p5)] _
          refine XS.ifNo X222.here hx rfl (hb hby at_191) rfl (XT.i0_le_f (hc198 : (0 : Int32) < p5)) ?_
          refine XS.lload X222.here hx rfl (hb hby at_194) rfl ?_
          show AT p e below T222 m 196 #[jv q0, se, iv p1, iv p2, iv p3, jv q4, se, iv p5, iv lk0, iv wh0, iv lk1, iv wh1, jv tm1, se, rv b19, jv (if wh1 = (0 : Int32) then (if wh0 = (0 : Int32) then (0 : Int64) else q0) else tm1), se, jv ((if wh1 = (0 : Int32) then (if wh0 = (0 : Int32) then (0 : Int64) else q0) else tm1) + q4), se, rv b_222, iv (1 : Int32), iv p1] [(.long q4)] _
          refine X222.ldc2Long hx hown (mvT hZ (ow hw 123 rfl)) (g := (mkF m 196 #[jv q0, se, iv p1, iv p2, iv p3, jv q4, se, iv p5, iv lk0, iv wh0, iv lk1, iv wh1, jv tm1, se, rv b19, jv (if wh1 = (0 : Int32) then (if wh0 = (0 : Int32) then (0 : Int64) else q0) else tm1), se, jv ((if wh1 = (0 : Int32) then (if wh0 = (0 : Int32) then (0 : Int64) else q0) else tm1) + q4), se, rv b_222, iv (1 : Int32), iv p1] [(.long q4)])) rfl (hb hby at_196) _ ?_
          refine XS.lcmp X222.here hx rfl (hb hby at_199) rfl ?_
          show AT p e below T222 m 200 #[jv q0, se, iv p1, iv p2, iv p3, jv q4, se, iv p5, iv lk0, iv wh0, iv lk1, iv wh1, jv tm1, se, rv b19, jv (if wh1 = (0 : Int32) then (if wh0 = (0 : Int32) then (0 : Int64) else q0) else tm1), se, jv ((if wh1 = (0 : Int32) then (if wh0 = (0 : Int32) then (0 : Int64) else q0) else tm1) + q4), se, rv b_222, iv (1 : Int32), iv p1] [(.int (XT.cmpL q4 (600000000000 : Int64)))] _
          refine XS.ifYes X222.here hx rfl (pc0 := 200) (pc' := 214) rfl (hb hby at_200) rfl (XT.ll_lt_t (hc199 : q4 < (600000000000 : Int64))) (by decide) (by decide) ?_
          refine XS.iload X222.here hx rfl (hb hby at_214) rfl ?_
          show AT p e below T222 m 216 #[jv q0, se, iv p1, iv p2, iv p3, jv q4, se, iv p5, iv lk0, iv wh0, iv lk1, iv wh1, jv tm1, se, rv b19, jv (if wh1 = (0 : Int32) then (if wh0 = (0 : Int32) then (0 : Int64) else q0) else tm1), se, jv ((if wh1 = (0 : Int32) then (if wh0 = (0 : Int32) then (0 : Int64) else q0) else tm1) + q4), se, rv b_222, iv (1 : Int32), iv p1] [(.int p1)] _
          refine XS.iload X222.here hx rfl (hb hby at_216) rfl ?_
          show AT p e below T222 m 218 #[jv q0, se, iv p1, iv p2, iv p3, jv q4, se, iv p5, iv lk0, iv wh0, iv lk1, iv wh1, jv tm1, se, rv b19, jv (if wh1 = (0 : Int32) then (if wh0 = (0 : Int32) then (0 : Int64) else q0) else tm1), se, jv ((if wh1 = (0 : Int32) then (if wh0 = (0 : Int32) then (0 : Int64) else q0) else tm1) + q4), se, rv b_222, iv (1 : Int32), iv p1] [(.int p5), (.int p1)] _
          refine XS.icmpYes X222.here hx rfl (pc0 := 218) (pc' := 236) rfl (hb hby at_218) rfl (XT.ii_ge_t (hc200 : ¬ (p1 < p5))) (by decide) (by decide) ?_
          refine XS.iload X222.here hx rfl (hb hby at_236) rfl ?_
          refine XS.iload X222.here hx rfl (hb hby at_238) rfl ?_
          show AT p e below T222 m 240 #[jv q0, se, iv p1, iv p2, iv p3, jv q4, se, iv p5, iv lk0, iv wh0, iv lk1, iv wh1, jv tm1, se, rv b19, jv (if wh1 = (0 : Int32) then (if wh0 = (0 : Int32) then (0 : Int64) else q0) else tm1), se, jv ((if wh1 = (0 : Int32) then (if wh0 = (0 : Int32) then (0 : Int64) else q0) else tm1) + q4), se, rv b_222, iv (1 : Int32), iv p1] [(.int p5), (.int p1)] _
          refine XS.icmpNo X222.here hx rfl (hb hby at_240) rfl (XT.ii_le_f (hc221 : p5 < p1)) ?_
          show AT p e below T222 m 243 #[jv q0, se, iv p1, iv p2, iv p3, jv q4, se, iv p5, iv lk0, iv wh0, iv lk1, iv wh1, jv tm1, se, rv b19, jv (if wh1 = (0 : Int32) then (if wh0 = (0 : Int32) then (0 : Int64) else q0) else tm1), se, jv ((if wh1 = (0 : Int32) then (if wh0 = (0 : Int32) then (0 : Int64) else q0) else tm1) + q4), se, rv b_222, iv (1 : Int32), iv p1] [] _
          refine XS.aload X222.here hx rfl (hb hby at_243) rfl rfl ?_
          refine XS.iconst X222.here hx rfl (hb hby at_245) ?_
          refine XS.iload X222.here hx rfl (hb hby at_246) rfl ?_
          show AT p e below T222 m 248 #[jv q0, se, iv p1, iv p2, iv p3, jv q4, se, iv p5, iv lk0, iv wh0, iv lk1, iv wh1, jv tm1, se, rv b19, jv (if wh1 = (0 : Int32) then (if wh0 = (0 : Int32) then (0 : Int64) else q0) else tm1), se, jv ((if wh1 = (0 : Int32) then (if wh0 = (0 : Int32) then (0 : Int64) else q0) else tm1) + q4), se, rv b_222, iv (1 : Int32), iv p1] [(.int p1), (.int (4 : Int32)), (.ref b_222)] _
          refine XS.iconst X222.here hx rfl (hb hby at_248) ?_
          refine XS.iadd X222.here hx rfl (hb hby at_249) rfl ?_
          refine X222.ldcInt hx hown (mvT hZ (ow hw 129 rfl)) (g := (mkF m 250 #[jv q0, se, iv p1, iv p2, iv p3, jv q4, se, iv p5, iv lk0, iv wh0, iv lk1, iv wh1, jv tm1, se, rv b19, jv (if wh1 = (0 : Int32) then (if wh0 = (0 : Int32) then (0 : Int64) else q0) else tm1), se, jv ((if wh1 = (0 : Int32) then (if wh0 = (0 : Int32) then (0 : Int64) else q0) else tm1) + q4), se, rv b_222, iv (1 : Int32), iv p1] [(.int (p1 + (1 : Int32))), (.int (4 : Int32)), (.ref b_222)])) rfl (hb hby at_250) _ ?_
          show AT p e below T222 m 252 #[jv q0, se, iv p1, iv p2, iv p3, jv q4, se, iv p5, iv lk0, iv wh0, iv lk1, iv wh1, jv tm1, se, rv b19, jv (if wh1 = (0 : Int32) then (if wh0 = (0 : Int32) then (0 : Int64) else q0) else tm1), se, jv ((if wh1 = (0 : Int32) then (if wh0 = (0 : Int32) then (0 : Int64) else q0) else tm1) + q4), se, rv b_222, iv (1 : Int32), iv p1] [(.int (2147483647 : Int32)), (.int (p1 + (1 : Int32))), (.int (4 : Int32)), (.ref b_222)] _
          refine XS.iconst X222.here hx rfl (hb hby at_252) ?_
          refine XS.iload X222.here hx rfl (hb hby at_253) rfl ?_
          refine st241 _ ?_
          show AT p e below T241 m 258 #[jv q0, se, iv p1, iv p2, iv p3, jv q4, se, iv p5, iv lk0, iv wh0, iv lk1, iv wh1, jv tm1, se, rv b19, jv (if wh1 = (0 : Int32) then (if wh0 = (0 : Int32) then (0 : Int64) else q0) else tm1), se, jv ((if wh1 = (0 : Int32) then (if wh0 = (0 : Int32) then (0 : Int64) else q0) else tm1) + q4), se, rv b_222, iv (1 : Int32), iv p1] [(.int (1 : Int32))] _
          exact retN X241 hx (t := .boolean) Bd.returns (by simp) (hb hby at_258) hr
         ·
          show Q0 Z q0 p1 p2 p3 q4 p5 h0 n0 _ T241.heap _
          rw [e241]
          exact ⟨rfl, N241⟩
        ·
         obtain ⟨cq242, kq242, q242a, q242b, q242c⟩ := isOf hZ rfl E185_186
         obtain ⟨_, _, ⟨T242, L242, k242, n242⟩, -, X242, ⟨Lc242, hQ242, l242, y242, z242⟩, st242⟩ := X185.virtualBack hx (y := y5) (z := y5) hown (mvT hZ (ow hw 28 rfl)) (mvT hZ (ow hw 29 rfl)) (notFace_of_selects (args := #[]) (mvT hZ (ow hw 31 rfl))) (mvT hZ (ow hw 31 rfl)) (mvT hZ (ow hw 30 rfl)) (by decide) (backOf (W := 0) (rm5_2e l Z ar hw [] b19 ((if wh1 = (0 : Int32) then (if wh0 = (0 : Int32) then (0 : Int64) else q0) else tm1) + q4) p5 (if wh1 = (0 : Int32) then (if wh0 = (0 : Int32) then (0 : Int64) else q0) else tm1) dq_22 es_22 ke_22 nw_114 nw_185 kn_114 q0 p1 T185.heap n0 O185 HW E185_186 u185_2 u185_1 E185_187 u185_3 u185_4 u185_5 u185_6 E185_188 V185_189 hc198 (by rw [own_wd]; exact hc199) hc200 hc221) hZ (ow hw 32 rfl) (ow hw 2 rfl) (by decide) (by decide)) q242a q242c (g := (mkF m 137 #[jv q0, se, iv p1, iv p2, iv p3, jv q4, se, iv p5, iv lk0, iv wh0, iv lk1, iv wh1, jv tm1, se, rv b19, jv (if wh1 = (0 : Int32) then (if wh0 = (0 : Int32) then (0 : Int64) else q0) else tm1), se, jv ((if wh1 = (0 : Int32) then (if wh0 = (0 : Int32) then (0 : Int64) else q0) else tm1) + q4), se, un, un, un] [(.int p5), (.long ((if wh1 = (0 : Int32) then (if wh0 = (0 : Int32) then (0 : Int64) else q0) else tm1) + q4)), (.ref b19)])) rfl (by rw [hml]; rfl) (Steps.refl _) (argsL := [(.long ((if wh1 = (0 : Int32) then (if wh0 = (0 : Int32) then (0 : Int64) else q0) else tm1) + q4)), (.int p5)]) (rest := []) (lenOf pd_11 rfl) rfl (by show 2 * 0 + _ ≤ _; exact Nat.le_of_eq rfl) (hb hby at_137) (fun _ _ => ⟨rfl, rfl, (by decide : 6 + 1 ≤ _), (by decide : 30 + 0 ≤ _)⟩)
         dsimp only [Pt.U, Pt.locs, Pt.cells, Pt.slots] at X242 l242 y242 z242 st242 hQ242
         subst l242 y242 z242
         obtain ⟨b_242, kb_242, rfl, N242q, Kq242, u242_0, u242_1⟩ := hQ242
         have N242 := Fr.app N185 N242q
         have E242_243 := E185_186.keep Kq242
         have E242_244 := E185_187.keep Kq242
         have E242_245 := E185_188.keep Kq242
         have V242_246 := V185_189.keep Kq242 nin0
         have F242_247 := u185_1.keep Kq242 nin0
         have F242_248 := u185_2.keep Kq242 nin0
         have F242_249 := u185_3.keep Kq242 nin0
         have F242_250 := u185_4.keep Kq242 nin0
         have F242_251 := u185_5.keep Kq242 nin0
         have V242_252 := u185_6.keep Kq242 nin0
         have E242_253 := u185_7.keep Kq242
         have V242_254 := u185_8.keep Kq242 nin0
         have K242 := K185.trans Kq242 all0
         have O242 := O185.keep Kq242 all0
         have sz255 : h0.size ≤ b_242 := Nat.le_trans K185.1 u242_1
         have gn255 : n0 ≤ b_242 := Nat.le_trans (Nat.le_trans (Nat.le_of_eq O185.1.symm) O185.2.1) u242_1
         have ne256 : b19 ≠ b_242 := Nat.ne_of_lt (Nat.lt_of_lt_of_le (E185_186).lt u242_1)
         have ne257 : dq_22 ≠ b_242 := Nat.ne_of_lt (Nat.lt_of_lt_of_le (E185_187).lt u242_1)
         have ne258 : nw_114 ≠ b_242 := Nat.ne_of_lt (Nat.lt_of_lt_of_le (E185_188).lt u242_1)
         have ne259 : es_22 ≠ b_242 := Nat.ne_of_lt (Nat.lt_of_lt_of_le (u185_6).lt u242_1)
         have ne260 : nw_185 ≠ b_242 := Nat.ne_of_lt (Nat.lt_of_lt_of_le (u185_7).lt u242_1)
         obtain ⟨_, _, ⟨T261, L261, k261, n261⟩, -, X261, ⟨Lc261, hQ261, l261, y261, z261⟩, st261⟩ := Jvm.LawKit.callS X242 hx (y := y19) hown (mvT hZ (ow hw 124 rfl)) (mvT hZ (ow hw 125 rfl)) (mvT hZ (ow hw 126 rfl)) (mvT hZ (ow hw 127 rfl)) (by decide) (backOf (W := 0) (rm19_0 l Z ar hw [] b_242 (0 : Int32) (0 : Int32) (0 : Int32) (0 : Int32) kb_242 T242.heap n0 O242 u242_0) hZ (ow hw 127 rfl) (ow hw 126 rfl) (by decide) (by decide)) (g := (mkF m 266 #[jv q0, se, iv p1, iv p2, iv p3, jv q4, se, iv p5, iv lk0, iv wh0, iv lk1, iv wh1, jv tm1, se, rv b19, jv (if wh1 = (0 : Int32) then (if wh0 = (0 : Int32) then (0 : Int64) else q0) else tm1), se, jv ((if wh1 = (0 : Int32) then (if wh0 = (0 : Int32) then (0 : Int64) else q0) else tm1) + q4), se, rv b_242, iv (1 : Int32), iv p1] [(.int (0 : Int32)), (.int (0 : Int32)), (.int (0 : Int32)), (.int (0 : Int32)), (.int (0 : Int32)), (.ref b_242)])) rfl (by rw [hml]; rfl) (argsL := [(.ref b_242), (.int (0 : Int32)), (.int (0 : Int32)), (.int (0 : Int32)), (.int (0 : Int32)), (.int (0 : Int32))]) (rest := []) (lenOf pd_13 rfl) rfl (by show 2 * 0 + _ ≤ _; exact Nat.le_of_eq rfl) (hb hby at_266) (fun _ _ => ⟨rfl, rfl, (by decide : 7 + 0 ≤ _), (by decide : 30 + 0 ≤ _)⟩)
         dsimp only [Pt.U, Pt.locs, Pt.cells, Pt.slots] at X261 l261 y261 z261 st261 hQ261
         subst l261 y261 z261
         obtain ⟨rfl, N261q, e261⟩ := hQ261
         have N261 := Fr.app N242 N261q
         obtain ⟨fs, hr, hrun, hended, hW, hsame⟩ := X261.leave (v := some (.int (1 : Int32))) (fun h => by rw [Bd.returns] at h; cases h)
         subst hS0
         refine ⟨_, _, pre197 _ ?_, hrun, hended, _, _, rfl, ?_, ⟨_, rfl⟩, hW, hsame.mono (by decide) (by decide)⟩
         ·
          refine XS.aload X185.here hx rfl (hb hby at_131) rfl rfl ?_
          refine XS.lload X185.here hx rfl (hb hby at_133) rfl ?_
          refine XS.iload X185.here hx rfl (hb hby at_135) rfl ?_
          show AT p e below T185 m 137 #[jv q0, se, iv p1, iv p2, iv p3, jv q4, se, iv p5, iv lk0, iv wh0, iv lk1, iv wh1, jv tm1, se, rv b19, jv (if wh1 = (0 : Int32) then (if wh0 = (0 : Int32) then (0 : Int64) else q0) else tm1), se, jv ((if wh1 = (0 : Int32) then (if wh0 = (0 : Int32) then (0 : Int64) else q0) else tm1) + q4), se, un, un, un] [(.int p5), (.long ((if wh1 = (0 : Int32) then (if wh0 = (0 : Int32) then (0 : Int64) else q0) else tm1) + q4)), (.ref b19)] _
          refine st242.trans ?_
          refine XS.astore X242.here hx rfl (hb hby at_140) rfl rfl (l' := #[jv q0, se, iv p1, iv p2, iv p3, jv q4, se, iv p5, iv lk0, iv wh0, iv lk1, iv wh1, jv tm1, se, rv b19, jv (if wh1 = (0 : Int32) then (if wh0 = (0 : Int32) then (0 : Int64) else q0) else tm1), se, jv ((if wh1 = (0 : Int32) then (if wh0 = (0 : Int32) then (0 : Int64) else q0) else tm1) + q4), se, rv b_242, un, un]) rfl ?_
          refine XS.iload X242.here hx rfl (hb hby at_142) rfl ?_
          show AT p e below T242 m 144 #[jv q0, se, iv p1, iv p2, iv p3, jv q4, se, iv p5, iv lk0, iv wh0, iv lk1, iv wh1, jv tm1, se, rv b19, jv (if wh1 = (0 : Int32) then (if wh0 = (0 : Int32) then (0 : Int64) else q0) else tm1), se, jv ((if wh1 = (0 : Int32) then (if wh0 = (0 : Int32) then (0 : Int64) else q0) else tm1) + q4), se, rv b_242, un, un] [(.int lk0)] _
          refine XS.ifNo X242.here hx rfl (hb hby at_144) rfl (XT.i0_eq_f (hc29 : ¬ (lk0 = (0 : Int32)))) ?_
          show AT p e below T242 m 147 #[jv q0, se, iv p1, iv p2, iv p3, jv q4, se, iv p5, iv lk0, iv wh0, iv lk1, iv wh1, jv tm1, se, rv b19, jv (if wh1 = (0 : Int32) then (if wh0 = (0 : Int32) then (0 : Int64) else q0) else tm1), se, jv ((if wh1 = (0 : Int32) then (if wh0 = (0 : Int32) then (0 : Int64) else q0) else tm1) + q4), se, rv b_242, un, un] [] _
          refine XS.iloadN X242.here hx rfl (hb hby at_147) rfl ?_
          show AT p e below T242 m 148 #[jv q0, se, iv p1, iv p2, iv p3, jv q4, se, iv p5, iv lk0, iv wh0, iv lk1, iv wh1, jv tm1, se, rv b19, jv (if wh1 = (0 : Int32) then (if wh0 = (0 : Int32) then (0 : Int64) else q0) else tm1), se, jv ((if wh1 = (0 : Int32) then (if wh0 = (0 : Int32) then (0 : Int64) else q0) else tm1) + q4), se, rv b_242, un, un] [(.int p1)] _
          refine XS.ifNo X242.here hx rfl (hb hby at_148) rfl (XT.i0_le_f (hc113 : (0 : Int32) < p1)) ?_
          refine XS.iconst X242.here hx rfl (hb hby at_151) ?_
          refine XS.istore X242.here hx rfl (hb hby at_152) rfl (l' := #[jv q0, se, iv p1, iv p2, iv p3, jv q4, se, iv p5, iv lk0, iv wh0, iv lk1, iv wh1, jv tm1, se, rv b19, jv (if wh1 = (0 : Int32) then (if wh0 = (0 : Int32) then (0 : Int64) else q0) else tm1), se, jv ((if wh1 = (0 : Int32) then (if wh0 = (0 : Int32) then (0 : Int64) else q0) else tm1) + q4), se, rv b_242, iv (1 : Int32), un]) rfl ?_
          show AT p e below T242 m 154 #[jv q0, se, iv p1, iv p2, iv p3, jv q4, se, iv p5, iv lk0, iv wh0, iv lk1, iv wh1, jv tm1, se, rv b19, jv (if wh1 = (0 : Int32) then (if wh0 = (0 : Int32) then (0 : Int64) else q0) else tm1), se, jv ((if wh1 = (0 : Int32) then (if wh0 = (0 : Int32) then (0 : Int64) else q0) else tm1) + q4), se, rv b_242, iv (1 : Int32), un] [] _
          refine XS.iloadN X242.here hx rfl (hb hby at_154) rfl ?_
          refine XS.istore X242.here hx rfl (hb hby at_155) rfl (l' := #[jv q0, se, iv p1, iv p2, iv p3, jv q4, se, iv p5, iv lk0, iv wh0, iv lk1, iv wh1, jv tm1, se, rv b19, jv (if wh1 = (0 : Int32) then (if wh0 = (0 : Int32) then (0 : Int64) else q0) else tm1), se, jv ((if wh1 = (0 : Int32) then (if wh0 = (0 : Int32) then (0 : Int64) else q0) else tm1) + q4), se, rv b_242, iv (1 : Int32), iv p1]) rfl ?_
          refine XS.goto X242.here hx rfl (pc0 := 157) (pc' := 184) rfl (hb hby at_157) (by decide) (by decide) ?_
          show AT p e below T242 m 184 #[jv q0, se, iv p1, iv p2, iv p3, jv q4, se, iv p5, iv lk0, iv wh0, iv lk1, iv wh1, jv tm1, se, rv b19, jv (if wh1 = (0 : Int32) then (if wh0 = (0 : Int32) then (0 : Int64) else q0) else tm1), se, jv ((if wh1 = (0 : Int32) then (if wh0 = (0 : Int32) then (0 : Int64) else q0) else tm1) + q4), se, rv b_242, iv (1 : Int32), iv p1] [] _
          refine XS.iload X242.here hx rfl (hb hby at_184) rfl ?_
          show AT p e below T242 m 186 #[jv q0, se, iv p1, iv p2, iv p3, jv q4, se, iv p5, iv lk0, iv wh0, iv lk1, iv wh1, jv tm1, se, rv b19, jv (if wh1 = (0 : Int32) then (if wh0 = (0 : Int32) then (0 : Int64) else q0) else tm1), se, jv ((if wh1 = (0 : Int32) then (if wh0 = (0 : Int32) then (0 : Int64) else q0) else tm1) + q4), se, rv b_242, iv (1 : Int32), iv p1] [(.int (1 : Int32))] _
          refine XS.ifNo X242.here hx rfl (hb hby at_186) rfl (XT.i0_eq_f ((by decide) : ¬ ((1 : Int32) = (0 : Int32)))) ?_
          refine XS.iload X242.here hx rfl (hb hby at_189) rfl ?_
          show AT p e below T242 m 191 #[jv q0, se, iv p1, iv p2, iv p3, jv q4, se, iv p5, iv lk0, iv wh0, iv lk1, iv wh1, jv tm1, se, rv b19, jv (if wh1 = (0 : Int32) then (if wh0 = (0 : Int32) then (0 : Int64) else q0) else tm1), se, jv ((if wh1 = (0 : Int32) then (if wh0 = (0 : Int32) then (0 : Int64) else q0) else tm1) + q4), se, rv b_242, iv (1 : Int32), iv p1] [(.int p5)] _
          refine XS.ifNo X242.here hx rfl (hb hby at_191) rfl (XT.i0_le_f (hc198 : (0 : Int32) < p5)) ?_
          refine XS.lload X242.here hx rfl (hb hby at_194) rfl ?_
          show AT p e below T242 m 196 #[jv q0, se, iv p1, iv p2, iv p3, jv q4, se, iv p5, iv lk0, iv wh0, iv lk1, iv wh1, jv tm1, se, rv b19, jv (if wh1 = (0 : Int32) then (if wh0 = (0 : Int32) then (0 : Int64) else q0) else tm1), se, jv ((if wh1 = (0 : Int32) then (if wh0 = (0 : Int32) then (0 : Int64) else q0) else tm1) + q4), se, rv b_242, iv (1 : Int32), iv p1] [(.long q4)] _
          refine X242.ldc2Long hx hown (mvT hZ (ow hw 123 rfl)) (g := (mkF m 196 #[jv q0, se, iv p1, iv p2, iv p3, jv q4, se, iv p5, iv lk0, iv wh0, iv lk1, iv wh1, jv tm1, se, rv b19, jv (if wh1 = (0 : Int32) then (if wh0 = (0 : Int32) then (0 : Int64) else q0) else tm1), se, jv ((if wh1 = (0 : Int32) then (if wh0 = (0 : Int32) then (0 : Int64) else q0) else tm1) + q4), se, rv b_242, iv (1 : Int32), iv p1] [(.long q4)])) rfl (hb hby at_196) _ ?_
          refine XS.lcmp X242.here hx rfl (hb hby at_199) rfl ?_
          show AT p e below T242 m 200 #[jv q0, se, iv p1, iv p2, iv p3, jv q4, se, iv p5, iv lk0, iv wh0, iv lk1, iv wh1, jv tm1, se, rv b19, jv (if wh1 = (0 : Int32) then (if wh0 = (0 : Int32) then (0 : Int64) else q0) else tm1), se, jv ((if wh1 = (0 : Int32) then (if wh0 = (0 : Int32) then (0 : Int64) else q0) else tm1) + q4), se, rv b_242, iv (1 : Int32), iv p1] [(.int (XT.cmpL q4 (600000000000 : Int64)))] _
          refine XS.ifYes X242.here hx rfl (pc0 := 200) (pc' := 214) rfl (hb hby at_200) rfl (XT.ll_lt_t (hc199 : q4 < (600000000000 : Int64))) (by decide) (by decide) ?_
          refine XS.iload X242.here hx rfl (hb hby at_214) rfl ?_
          show AT p e below T242 m 216 #[jv q0, se, iv p1, iv p2, iv p3, jv q4, se, iv p5, iv lk0, iv wh0, iv lk1, iv wh1, jv tm1, se, rv b19, jv (if wh1 = (0 : Int32) then (if wh0 = (0 : Int32) then (0 : Int64) else q0) else tm1), se, jv ((if wh1 = (0 : Int32) then (if wh0 = (0 : Int32) then (0 : Int64) else q0) else tm1) + q4), se, rv b_242, iv (1 : Int32), iv p1] [(.int p1)] _
          refine XS.iload X242.here hx rfl (hb hby at_216) rfl ?_
          show AT p e below T242 m 218 #[jv q0, se, iv p1, iv p2, iv p3, jv q4, se, iv p5, iv lk0, iv wh0, iv lk1, iv wh1, jv tm1, se, rv b19, jv (if wh1 = (0 : Int32) then (if wh0 = (0 : Int32) then (0 : Int64) else q0) else tm1), se, jv ((if wh1 = (0 : Int32) then (if wh0 = (0 : Int32) then (0 : Int64) else q0) else tm1) + q4), se, rv b_242, iv (1 : Int32), iv p1] [(.int p5), (.int p1)] _
          refine XS.icmpYes X242.here hx rfl (pc0 := 218) (pc' := 236) rfl (hb hby at_218) rfl (XT.ii_ge_t (hc200 : ¬ (p1 < p5))) (by decide) (by decide) ?_
          refine XS.iload X242.here hx rfl (hb hby at_236) rfl ?_
          refine XS.iload X242.here hx rfl (hb hby at_238) rfl ?_
          show AT p e below T242 m 240 #[jv q0, se, iv p1, iv p2, iv p3, jv q4, se, iv p5, iv lk0, iv wh0, iv lk1, iv wh1, jv tm1, se, rv b19, jv (if wh1 = (0 : Int32) then (if wh0 = (0 : Int32) then (0 : Int64) else q0) else tm1), se, jv ((if wh1 = (0 : Int32) then (if wh0 = (0 : Int32) then (0 : Int64) else q0) else tm1) + q4), se, rv b_242, iv (1 : Int32), iv p1] [(.int p5), (.int p1)] _
          refine XS.icmpYes X242.here hx rfl (pc0 := 240) (pc' := 259) rfl (hb hby at_240) rfl (XT.ii_le_t (hc221 : ¬ (p5 < p1))) (by decide) (by decide) ?_
          show AT p e below T242 m 259 #[jv q0, se, iv p1, iv p2, iv p3, jv q4, se, iv p5, iv lk0, iv wh0, iv lk1, iv wh1, jv tm1, se, rv b19, jv (if wh1 = (0 : Int32) then (if wh0 = (0 : Int32) then (0 : Int64) else q0) else tm1), se, jv ((if wh1 = (0 : Int32) then (if wh0 = (0 : Int32) then (0 : Int64) else q0) else tm1) + q4), se, rv b_242, iv (1 : Int32), iv p1] [] _
          refine XS.aload X242.here hx rfl (hb hby at_259) rfl rfl ?_
          refine XS.iconst X242.here hx rfl (hb hby at_261) ?_
          refine XS.iconst X242.here hx rfl (hb hby at_262) ?_
          show AT p e below T242 m 263 #[jv q0, se, iv p1, iv p2, iv p3, jv q4, se, iv p5, iv lk0, iv wh0, iv lk1, iv wh1, jv tm1, se, rv b19, jv (if wh1 = (0 : Int32) then (if wh0 = (0 : Int32) then (0 : Int64) else q0) else tm1), se, jv ((if wh1 = (0 : Int32) then (if wh0 = (0 : Int32) then (0 : Int64) else q0) else tm1) + q4), se, rv b_242, iv (1 : Int32), iv p1] [(.int (0 : Int32)), (.int (0 : Int32)), (.ref b_242)] _
          refine XS.iconst X242.here hx rfl (hb hby at_263) ?_
          refine XS.iconst X242.here hx rfl (hb hby at_264) ?_
          refine XS.iconst X242.here hx rfl (hb hby at_265) ?_
          show AT p e below T242 m 266 #[jv q0, se, iv p1, iv p2, iv p3, jv q4, se, iv p5, iv lk0, iv wh0, iv lk1, iv wh1, jv tm1, se, rv b19, jv (if wh1 = (0 : Int32) then (if wh0 = (0 : Int32) then (0 : Int64) else q0) else tm1), se, jv ((if wh1 = (0 : Int32) then (if wh0 = (0 : Int32) then (0 : Int64) else q0) else tm1) + q4), se, rv b_242, iv (1 : Int32), iv p1] [(.int (0 : Int32)), (.int (0 : Int32)), (.int (0 : Int32)), (.int (0 : Int32)), (.int (0 : Int32)), (.ref b_242)] _
          refine st261 _ ?_
          exact retN X261 hx (t := .boolean) Bd.returns (by simp) (hb hby at_269) hr
         ·
          show Q0 Z q0 p1 p2 p3 q4 p5 h0 n0 _ T261.heap _
          rw [e261]
          exact ⟨rfl, N261⟩
      ·
       obtain ⟨cq262, kq262, q262a, q262b, q262c⟩ := isOf hZ rfl E185_186
       obtain ⟨_, _, ⟨T262, L262, k262, n262⟩, -, X262, ⟨Lc262, hQ262, l262, y262, z262⟩, st262⟩ := X185.virtualBack hx (y := y5) (z := y5) hown (mvT hZ (ow hw 28 rfl)) (mvT hZ (ow hw 29 rfl)) (notFace_of_selects (args := #[]) (mvT hZ (ow hw 31 rfl))) (mvT hZ (ow hw 31 rfl)) (mvT hZ (ow hw 30 rfl)) (by decide) (backOf (W := 0) (rm5_2b l Z ar hw [] b19 ((if wh1 = (0 : Int32) then (if wh0 = (0 : Int32) then (0 : Int64) else q0) else tm1) + q4) p5 (if wh1 = (0 : Int32) then (if wh0 = (0 : Int32) then (0 : Int64) else q0) else tm1) dq_22 es_22 ke_22 nw_114 nw_185 kn_114 q0 p1 T185.heap n0 O185 HW E185_186 u185_2 u185_1 E185_187 u185_3 u185_4 u185_5 u185_6 E185_188 V185_189 hc198 (by rw [own_wd]; exact hc199)) hZ (ow hw 32 rfl) (ow hw 2 rfl) (by decide) (by decide)) q262a q262c (g := (mkF m 137 #[jv q0, se, iv p1, iv p2, iv p3, jv q4, se, iv p5, iv lk0, iv wh0, iv lk1, iv wh1, jv tm1, se, rv b19, jv (if wh1 = (0 : Int32) then (if wh0 = (0 : Int32) then (0 : Int64) else q0) else tm1), se, jv ((if wh1 = (0 : Int32) then (if wh0 = (0 : Int32) then (0 : Int64) else q0) else tm1) + q4), se, un, un, un] [(.int p5), (.long ((if wh1 = (0 : Int32) then (if wh0 = (0 : Int32) then (0 : Int64) else q0) else tm1) + q4)), (.ref b19)])) rfl (by rw [hml]; rfl) (Steps.refl _) (argsL := [(.long ((if wh1 = (0 : Int32) then (if wh0 = (0 : Int32) then (0 : Int64) else q0) else tm1) + q4)), (.int p5)]) (rest := []) (lenOf pd_11 rfl) rfl (by show 2 * 0 + _ ≤ _; exact Nat.le_of_eq rfl) (hb hby at_137) (fun _ _ => ⟨rfl, rfl, (by decide : 6 + 0 ≤ _), (by decide : 30 + 0 ≤ _)⟩)
       dsimp only [Pt.U, Pt.locs, Pt.cells, Pt.slots] at X262 l262 y262 z262 st262 hQ262
       subst l262 y262 z262
       obtain ⟨rfl, N262q, e262⟩ := hQ262
       have N262 := Fr.app N185 N262q
       obtain ⟨fs, hr, hrun, hended, hW, hsame⟩ := X262.leave (v := some (.int (1 : Int32))) (fun h => by rw [Bd.returns] at h; cases h)
       subst hS0
       refine ⟨_, _, pre197 _ ?_, hrun, hended, _, _, rfl, ?_, ⟨_, rfl⟩, hW, hsame.mono (by decide) (by decide)⟩
       ·
        refine XS.aload X185.here hx rfl (hb hby at_131) rfl rfl ?_
        refine XS.lload X185.here hx rfl (hb hby at_133) rfl ?_
        refine XS.iload X185.here hx rfl (hb hby at_135) rfl ?_
        show AT p e below T185 m 137 #[jv q0, se, iv p1, iv p2, iv p3, jv q4, se, iv p5, iv lk0, iv wh0, iv lk1, iv wh1, jv tm1, se, rv b19, jv (if wh1 = (0 : Int32) then (if wh0 = (0 : Int32) then (0 : Int64) else q0) else tm1), se, jv ((if wh1 = (0 : Int32) then (if wh0 = (0 : Int32) then (0 : Int64) else q0) else tm1) + q4), se, un, un, un] [(.int p5), (.long ((if wh1 = (0 : Int32) then (if wh0 = (0 : Int32) then (0 : Int64) else q0) else tm1) + q4)), (.ref b19)] _
        refine st262.trans ?_
        refine XS.astore X262.here hx rfl (hb hby at_140) rfl rfl (l' := #[jv q0, se, iv p1, iv p2, iv p3, jv q4, se, iv p5, iv lk0, iv wh0, iv lk1, iv wh1, jv tm1, se, rv b19, jv (if wh1 = (0 : Int32) then (if wh0 = (0 : Int32) then (0 : Int64) else q0) else tm1), se, jv ((if wh1 = (0 : Int32) then (if wh0 = (0 : Int32) then (0 : Int64) else q0) else tm1) + q4), se, .val .null, un, un]) rfl ?_
        refine XS.iload X262.here hx rfl (hb hby at_142) rfl ?_
        show AT p e below T262 m 144 #[jv q0, se, iv p1, iv p2, iv p3, jv q4, se, iv p5, iv lk0, iv wh0, iv lk1, iv wh1, jv tm1, se, rv b19, jv (if wh1 = (0 : Int32) then (if wh0 = (0 : Int32) then (0 : Int64) else q0) else tm1), se, jv ((if wh1 = (0 : Int32) then (if wh0 = (0 : Int32) then (0 : Int64) else q0) else tm1) + q4), se, .val .null, un, un] [(.int lk0)] _
        refine XS.ifNo X262.here hx rfl (hb hby at_144) rfl (XT.i0_eq_f (hc29 : ¬ (lk0 = (0 : Int32)))) ?_
        show AT p e below T262 m 147 #[jv q0, se, iv p1, iv p2, iv p3, jv q4, se, iv p5, iv lk0, iv wh0, iv lk1, iv wh1, jv tm1, se, rv b19, jv (if wh1 = (0 : Int32) then (if wh0 = (0 : Int32) then (0 : Int64) else q0) else tm1), se, jv ((if wh1 = (0 : Int32) then (if wh0 = (0 : Int32) then (0 : Int64) else q0) else tm1) + q4), se, .val .null, un, un] [] _
        refine XS.iloadN X262.here hx rfl (hb hby at_147) rfl ?_
        show AT p e below T262 m 148 #[jv q0, se, iv p1, iv p2, iv p3, jv q4, se, iv p5, iv lk0, iv wh0, iv lk1, iv wh1, jv tm1, se, rv b19, jv (if wh1 = (0 : Int32) then (if wh0 = (0 : Int32) then (0 : Int64) else q0) else tm1), se, jv ((if wh1 = (0 : Int32) then (if wh0 = (0 : Int32) then (0 : Int64) else q0) else tm1) + q4), se, .val .null, un, un] [(.int p1)] _
        refine XS.ifNo X262.here hx rfl (hb hby at_148) rfl (XT.i0_le_f (hc113 : (0 : Int32) < p1)) ?_
        refine XS.iconst X262.here hx rfl (hb hby at_151) ?_
        refine XS.istore X262.here hx rfl (hb hby at_152) rfl (l' := #[jv q0, se, iv p1, iv p2, iv p3, jv q4, se, iv p5, iv lk0, iv wh0, iv lk1, iv wh1, jv tm1, se, rv b19, jv (if wh1 = (0 : Int32) then (if wh0 = (0 : Int32) then (0 : Int64) else q0) else tm1), se, jv ((if wh1 = (0 : Int32) then (if wh0 = (0 : Int32) then (0 : Int64) else q0) else tm1) + q4), se, .val .null, iv (1 : Int32), un]) rfl ?_
        show AT p e below T262 m 154 #[jv q0, se, iv p1, iv p2, iv p3, jv q4, se, iv p5, iv lk0, iv wh0, iv lk1, iv wh1, jv tm1, se, rv b19, jv (if wh1 = (0 : Int32) then (if wh0 = (0 : Int32) then (0 : Int64) else q0) else tm1), se, jv ((if wh1 = (0 : Int32) then (if wh0 = (0 : Int32) then (0 : Int64) else q0) else tm1) + q4), se, .val .null, iv (1 : Int32), un] [] _
        refine XS.iloadN X262.here hx rfl (hb hby at_154) rfl ?_
        refine XS.istore X262.here hx rfl (hb hby at_155) rfl (l' := #[jv q0, se, iv p1, iv p2, iv p3, jv q4, se, iv p5, iv lk0, iv wh0, iv lk1, iv wh1, jv tm1, se, rv b19, jv (if wh1 = (0 : Int32) then (if wh0 = (0 : Int32) then (0 : Int64) else q0) else tm1), se, jv ((if wh1 = (0 : Int32) then (if wh0 = (0 : Int32) then (0 : Int64) else q0) else tm1) + q4), se, .val .null, iv (1 : Int32), iv p1]) rfl ?_
        refine XS.goto X262.here hx rfl (pc0 := 157) (pc' := 184) rfl (hb hby at_157) (by decide) (by decide) ?_
        show AT p e below T262 m 184 #[jv q0, se, iv p1, iv p2, iv p3, jv q4, se, iv p5, iv lk0, iv wh0, iv lk1, iv wh1, jv tm1, se, rv b19, jv (if wh1 = (0 : Int32) then (if wh0 = (0 : Int32) then (0 : Int64) else q0) else tm1), se, jv ((if wh1 = (0 : Int32) then (if wh0 = (0 : Int32) then (0 : Int64) else q0) else tm1) + q4), se, .val .null, iv (1 : Int32), iv p1] [] _
        refine XS.iload X262.here hx rfl (hb hby at_184) rfl ?_
        show AT p e below T262 m 186 #[jv q0, se, iv p1, iv p2, iv p3, jv q4, se, iv p5, iv lk0, iv wh0, iv lk1, iv wh1, jv tm1, se, rv b19, jv (if wh1 = (0 : Int32) then (if wh0 = (0 : Int32) then (0 : Int64) else q0) else tm1), se, jv ((if wh1 = (0 : Int32) then (if wh0 = (0 : Int32) then (0 : Int64) else q0) else tm1) + q4), se, .val .null, iv (1 : Int32), iv p1] [(.int (1 : Int32))] _
        refine XS.ifNo X262.here hx rfl (hb hby at_186) rfl (XT.i0_eq_f ((by decide) : ¬ ((1 : Int32) = (0 : Int32)))) ?_
        refine XS.iload X262.here hx rfl (hb hby at_189) rfl ?_
        show AT p e below T262 m 191 #[jv q0, se, iv p1, iv p2, iv p3, jv q4, se, iv p5, iv lk0, iv wh0, iv lk1, iv wh1, jv tm1, se, rv b19, jv (if wh1 = (0 : Int32) then (if wh0 = (0 : Int32) then (0 : Int64) else q0) else tm1), se, jv ((if wh1 = (0 : Int32) then (if wh0 = (0 : Int32) then (0 : Int64) else q0) else tm1) + q4), se, .val .null, iv (1 : Int32), iv p1] [(.int p5)] _
        refine XS.ifNo X262.here hx rfl (hb hby at_191) rfl (XT.i0_le_f (hc198 : (0 : Int32) < p5)) ?_
        refine XS.lload X262.here hx rfl (hb hby at_194) rfl ?_
        show AT p e below T262 m 196 #[jv q0, se, iv p1, iv p2, iv p3, jv q4, se, iv p5, iv lk0, iv wh0, iv lk1, iv wh1, jv tm1, se, rv b19, jv (if wh1 = (0 : Int32) then (if wh0 = (0 : Int32) then (0 : Int64) else q0) else tm1), se, jv ((if wh1 = (0 : Int32) then (if wh0 = (0 : Int32) then (0 : Int64) else q0) else tm1) + q4), se, .val .null, iv (1 : Int32), iv p1] [(.long q4)] _
        refine X262.ldc2Long hx hown (mvT hZ (ow hw 123 rfl)) (g := (mkF m 196 #[jv q0, se, iv p1, iv p2, iv p3, jv q4, se, iv p5, iv lk0, iv wh0, iv lk1, iv wh1, jv tm1, se, rv b19, jv (if wh1 = (0 : Int32) then (if wh0 = (0 : Int32) then (0 : Int64) else q0) else tm1), se, jv ((if wh1 = (0 : Int32) then (if wh0 = (0 : Int32) then (0 : Int64) else q0) else tm1) + q4), se, .val .null, iv (1 : Int32), iv p1] [(.long q4)])) rfl (hb hby at_196) _ ?_
        refine XS.lcmp X262.here hx rfl (hb hby at_199) rfl ?_
        show AT p e below T262 m 200 #[jv q0, se, iv p1, iv p2, iv p3, jv q4, se, iv p5, iv lk0, iv wh0, iv lk1, iv wh1, jv tm1, se, rv b19, jv (if wh1 = (0 : Int32) then (if wh0 = (0 : Int32) then (0 : Int64) else q0) else tm1), se, jv ((if wh1 = (0 : Int32) then (if wh0 = (0 : Int32) then (0 : Int64) else q0) else tm1) + q4), se, .val .null, iv (1 : Int32), iv p1] [(.int (XT.cmpL q4 (600000000000 : Int64)))] _
        refine XS.ifNo X262.here hx rfl (hb hby at_200) rfl (XT.ll_lt_f (hc199 : ¬ (q4 < (600000000000 : Int64)))) ?_
        refine XS.aload X262.here hx rfl (hb hby at_203) rfl rfl ?_
        show AT p e below T262 m 205 #[jv q0, se, iv p1, iv p2, iv p3, jv q4, se, iv p5, iv lk0, iv wh0, iv lk1, iv wh1, jv tm1, se, rv b19, jv (if wh1 = (0 : Int32) then (if wh0 = (0 : Int32) then (0 : Int64) else q0) else tm1), se, jv ((if wh1 = (0 : Int32) then (if wh0 = (0 : Int32) then (0 : Int64) else q0) else tm1) + q4), se, .val .null, iv (1 : Int32), iv p1] [.null] _
        refine XS.ifnonnullNo X262.here hx rfl (hb hby at_205) rfl ?_
        show AT p e below T262 m 208 #[jv q0, se, iv p1, iv p2, iv p3, jv q4, se, iv p5, iv lk0, iv wh0, iv lk1, iv wh1, jv tm1, se, rv b19, jv (if wh1 = (0 : Int32) then (if wh0 = (0 : Int32) then (0 : Int64) else q0) else tm1), se, jv ((if wh1 = (0 : Int32) then (if wh0 = (0 : Int32) then (0 : Int64) else q0) else tm1) + q4), se, .val .null, iv (1 : Int32), iv p1] [] _
        refine XS.iconst X262.here hx rfl (hb hby at_208) ?_
        refine XS.goto X262.here hx rfl (pc0 := 209) (pc' := 213) rfl (hb hby at_209) (by decide) (by decide) ?_
        exact retN X262 hx (t := .boolean) Bd.returns (by simp) (hb hby at_213) hr
       ·
        show Q0 Z q0 p1 p2 p3 q4 p5 h0 n0 _ T262.heap _
        rw [e262]
        exact ⟨rfl, N262⟩
     ·
      obtain ⟨cq263, kq263, q263a, q263b, q263c⟩ := isOf hZ rfl E185_186
      obtain ⟨_, _, ⟨T263, L263, k263, n263⟩, -, X263, ⟨Lc263, hQ263, l263, y263, z263⟩, st263⟩ := X185.virtualBack hx (y := y5) (z := y5) hown (mvT hZ (ow hw 28 rfl)) (mvT hZ (ow hw 29 rfl)) (notFace_of_selects (args := #[]) (mvT hZ (ow hw 31 rfl))) (mvT hZ (ow hw 31 rfl)) (mvT hZ (ow hw 30 rfl)) (by decide) (backOf (W := 0) (rm5_2a l Z ar hw [] b19 ((if wh1 = (0 : Int32) then (if wh0 = (0 : Int32) then (0 : Int64) else q0) else tm1) + q4) p5 (if wh1 = (0 : Int32) then (if wh0 = (0 : Int32) then (0 : Int64) else q0) else tm1) dq_22 es_22 ke_22 nw_114 nw_185 kn_114 q0 p1 T185.heap n0 O185 E185_186 u185_2 u185_1 E185_187 u185_3 u185_4 u185_5 u185_6 E185_188 V185_189 hc198) hZ (ow hw 32 rfl) (ow hw 2 rfl) (by decide) (by decide)) q263a q263c (g := (mkF m 137 #[jv q0, se, iv p1, iv p2, iv p3, jv q4, se, iv p5, iv lk0, iv wh0, iv lk1, iv wh1, jv tm1, se, rv b19, jv (if wh1 = (0 : Int32) then (if wh0 = (0 : Int32) then (0 : Int64) else q0) else tm1), se, jv ((if wh1 = (0 : Int32) then (if wh0 = (0 : Int32) then (0 : Int64) else q0) else tm1) + q4), se, un, un, un] [(.int p5), (.long ((if wh1 = (0 : Int32) then (if wh0 = (0 : Int32) then (0 : Int64) else q0) else tm1) + q4)), (.ref b19)])) rfl (by rw [hml]; rfl) (Steps.refl _) (argsL := [(.long ((if wh1 = (0 : Int32) then (if wh0 = (0 : Int32) then (0 : Int64) else q0) else tm1) + q4)), (.int p5)]) (rest := []) (lenOf pd_11 rfl) rfl (by show 2 * 0 + _ ≤ _; exact Nat.le_of_eq rfl) (hb hby at_137) (fun _ _ => ⟨rfl, rfl, (by decide : 6 + 0 ≤ _), (by decide : 30 + 0 ≤ _)⟩)
      dsimp only [Pt.U, Pt.locs, Pt.cells, Pt.slots] at X263 l263 y263 z263 st263 hQ263
      subst l263 y263 z263
      obtain ⟨rfl, N263q, e263⟩ := hQ263
      have N263 := Fr.app N185 N263q
      obtain ⟨fs, hr, hrun, hended, hW, hsame⟩ := X263.leave (v := some (.int (1 : Int32))) (fun h => by rw [Bd.returns] at h; cases h)
      subst hS0
      refine ⟨_, _, pre197 _ ?_, hrun, hended, _, _, rfl, ?_, ⟨_, rfl⟩, hW, hsame.mono (by decide) (by decide)⟩
      ·
       refine XS.aload X185.here hx rfl (hb hby at_131) rfl rfl ?_
       refine XS.lload X185.here hx rfl (hb hby at_133) rfl ?_
       refine XS.iload X185.here hx rfl (hb hby at_135) rfl ?_
       show AT p e below T185 m 137 #[jv q0, se, iv p1, iv p2, iv p3, jv q4, se, iv p5, iv lk0, iv wh0, iv lk1, iv wh1, jv tm1, se, rv b19, jv (if wh1 = (0 : Int32) then (if wh0 = (0 : Int32) then (0 : Int64) else q0) else tm1), se, jv ((if wh1 = (0 : Int32) then (if wh0 = (0 : Int32) then (0 : Int64) else q0) else tm1) + q4), se, un, un, un] [(.int p5), (.long ((if wh1 = (0 : Int32) then (if wh0 = (0 : Int32) then (0 : Int64) else q0) else tm1) + q4)), (.ref b19)] _
       refine st263.trans ?_
       refine XS.astore X263.here hx rfl (hb hby at_140) rfl rfl (l' := #[jv q0, se, iv p1, iv p2, iv p3, jv q4, se, iv p5, iv lk0, iv wh0, iv lk1, iv wh1, jv tm1, se, rv b19, jv (if wh1 = (0 : Int32) then (if wh0 = (0 : Int32) then (0 : Int64) else q0) else tm1), se, jv ((if wh1 = (0 : Int32) then (if wh0 = (0 : Int32) then (0 : Int64) else q0) else tm1) + q4), se, .val .null, un, un]) rfl ?_
       refine XS.iload X263.here hx rfl (hb hby at_142) rfl ?_
       show AT p e below T263 m 144 #[jv q0, se, iv p1, iv p2, iv p3, jv q4, se, iv p5, iv lk0, iv wh0, iv lk1, iv wh1, jv tm1, se, rv b19, jv (if wh1 = (0 : Int32) then (if wh0 = (0 : Int32) then (0 : Int64) else q0) else tm1), se, jv ((if wh1 = (0 : Int32) then (if wh0 = (0 : Int32) then (0 : Int64) else q0) else tm1) + q4), se, .val .null, un, un] [(.int lk0)] _
       refine XS.ifNo X263.here hx rfl (hb hby at_144) rfl (XT.i0_eq_f (hc29 : ¬ (lk0 = (0 : Int32)))) ?_
       show AT p e below T263 m 147 #[jv q0, se, iv p1, iv p2, iv p3, jv q4, se, iv p5, iv lk0, iv wh0, iv lk1, iv wh1, jv tm1, se, rv b19, jv (if wh1 = (0 : Int32) then (if wh0 = (0 : Int32) then (0 : Int64) else q0) else tm1), se, jv ((if wh1 = (0 : Int32) then (if wh0 = (0 : Int32) then (0 : Int64) else q0) else tm1) + q4), se, .val .null, un, un] [] _
       refine XS.iloadN X263.here hx rfl (hb hby at_147) rfl ?_
       show AT p e below T263 m 148 #[jv q0, se, iv p1, iv p2, iv p3, jv q4, se, iv p5, iv lk0, iv wh0, iv lk1, iv wh1, jv tm1, se, rv b19, jv (if wh1 = (0 : Int32) then (if wh0 = (0 : Int32) then (0 : Int64) else q0) else tm1), se, jv ((if wh1 = (0 : Int32) then (if wh0 = (0 : Int32) then (0 : Int64) else q0) else tm1) + q4), se, .val .null, un, un] [(.int p1)] _
       refine XS.ifNo X263.here hx rfl (hb hby at_148) rfl (XT.i0_le_f (hc113 : (0 : Int32) < p1)) ?_
       refine XS.iconst X263.here hx rfl (hb hby at_151) ?_
       refine XS.istore X263.here hx rfl (hb hby at_152) rfl (l' := #[jv q0, se, iv p1, iv p2, iv p3, jv q4, se, iv p5, iv lk0, iv wh0, iv lk1, iv wh1, jv tm1, se, rv b19, jv (if wh1 = (0 : Int32) then (if wh0 = (0 : Int32) then (0 : Int64) else q0) else tm1), se, jv ((if wh1 = (0 : Int32) then (if wh0 = (0 : Int32) then (0 : Int64) else q0) else tm1) + q4), se, .val .null, iv (1 : Int32), un]) rfl ?_
       show AT p e below T263 m 154 #[jv q0, se, iv p1, iv p2, iv p3, jv q4, se, iv p5, iv lk0, iv wh0, iv lk1, iv wh1, jv tm1, se, rv b19, jv (if wh1 = (0 : Int32) then (if wh0 = (0 : Int32) then (0 : Int64) else q0) else tm1), se, jv ((if wh1 = (0 : Int32) then (if wh0 = (0 : Int32) then (0 : Int64) else q0) else tm1) + q4), se, .val .null, iv (1 : Int32), un] [] _
       refine XS.iloadN X263.here hx rfl (hb hby at_154) rfl ?_
       refine XS.istore X263.here hx rfl (hb hby at_155) rfl (l' := #[jv q0, se, iv p1, iv p2, iv p3, jv q4, se, iv p5, iv lk0, iv wh0, iv lk1, iv wh1, jv tm1, se, rv b19, jv (if wh1 = (0 : Int32) then (if wh0 = (0 : Int32) then (0 : Int64) else q0) else tm1), se, jv ((if wh1 = (0 : Int32) then (if wh0 = (0 : Int32) then (0 : Int64) else q0) else tm1) + q4), se, .val .null, iv (1 : Int32), iv p1]) rfl ?_
       refine XS.goto X263.here hx rfl (pc0 := 157) (pc' := 184) rfl (hb hby at_157) (by decide) (by decide) ?_
       show AT p e below T263 m 184 #[jv q0, se, iv p1, iv p2, iv p3, jv q4, se, iv p5, iv lk0, iv wh0, iv lk1, iv wh1, jv tm1, se, rv b19, jv (if wh1 = (0 : Int32) then (if wh0 = (0 : Int32) then (0 : Int64) else q0) else tm1), se, jv ((if wh1 = (0 : Int32) then (if wh0 = (0 : Int32) then (0 : Int64) else q0) else tm1) + q4), se, .val .null, iv (1 : Int32), iv p1] [] _
       refine XS.iload X263.here hx rfl (hb hby at_184) rfl ?_
       show AT p e below T263 m 186 #[jv q0, se, iv p1, iv p2, iv p3, jv q4, se, iv p5, iv lk0, iv wh0, iv lk1, iv wh1, jv tm1, se, rv b19, jv (if wh1 = (0 : Int32) then (if wh0 = (0 : Int32) then (0 : Int64) else q0) else tm1), se, jv ((if wh1 = (0 : Int32) then (if wh0 = (0 : Int32) then (0 : Int64) else q0) else tm1) + q4), se, .val .null, iv (1 : Int32), iv p1] [(.int (1 : Int32))] _
       refine XS.ifNo X263.here hx rfl (hb hby at_186) rfl (XT.i0_eq_f ((by decide) : ¬ ((1 : Int32) = (0 : Int32)))) ?_
       refine XS.iload X263.here hx rfl (hb hby at_189) rfl ?_
       show AT p e below T263 m 191 #[jv q0, se, iv p1, iv p2, iv p3, jv q4, se, iv p5, iv lk0, iv wh0, iv lk1, iv wh1, jv tm1, se, rv b19, jv (if wh1 = (0 : Int32) then (if wh0 = (0 : Int32) then (0 : Int64) else q0) else tm1), se, jv ((if wh1 = (0 : Int32) then (if wh0 = (0 : Int32) then (0 : Int64) else q0) else tm1) + q4), se, .val .null, iv (1 : Int32), iv p1] [(.int p5)] _
       refine XS.ifYes X263.here hx rfl (pc0 := 191) (pc' := 203) rfl (hb hby at_191) rfl (XT.i0_le_t (hc198 : ¬ ((0 : Int32) < p5))) (by decide) (by decide) ?_
       refine XS.aload X263.here hx rfl (hb hby at_203) rfl rfl ?_
       show AT p e below T263 m 205 #[jv q0, se, iv p1, iv p2, iv p3, jv q4, se, iv p5, iv lk0, iv wh0, iv lk1, iv wh1, jv tm1, se, rv b19, jv (if wh1 = (0 : Int32) then (if wh0 = (0 : Int32) then (0 : Int64) else q0) else tm1), se, jv ((if wh1 = (0 : Int32) then (if wh0 = (0 : Int32) then (0 : Int64) else q0) else tm1) + q4), se, .val .null, iv (1 : Int32), iv p1] [.null] _
       refine XS.ifnonnullNo X263.here hx rfl (hb hby at_205) rfl ?_
       show AT p e below T263 m 208 #[jv q0, se, iv p1, iv p2, iv p3, jv q4, se, iv p5, iv lk0, iv wh0, iv lk1, iv wh1, jv tm1, se, rv b19, jv (if wh1 = (0 : Int32) then (if wh0 = (0 : Int32) then (0 : Int64) else q0) else tm1), se, jv ((if wh1 = (0 : Int32) then (if wh0 = (0 : Int32) then (0 : Int64) else q0) else tm1) + q4), se, .val .null, iv (1 : Int32), iv p1] [] _
       refine XS.iconst X263.here hx rfl (hb hby at_208) ?_
       refine XS.goto X263.here hx rfl (pc0 := 209) (pc' := 213) rfl (hb hby at_209) (by decide) (by decide) ?_
       exact retN X263 hx (t := .boolean) Bd.returns (by simp) (hb hby at_213) hr
      ·
       show Q0 Z q0 p1 p2 p3 q4 p5 h0 n0 _ T263.heap _
       rw [e263]
       exact ⟨rfl, N263⟩
    ·
     obtain ⟨cq264, kq264, q264a, q264b, q264c⟩ := isOf hZ rfl E114_115
     obtain ⟨_, _, ⟨T264, L264, k264, n264⟩, -, X264, ⟨Lc264, hQ264, l264, y264, z264⟩, st264⟩ := X114.virtualBack hx (y := y7) (z := y7) hown (mvT hZ (ow hw 42 rfl)) (mvT hZ (ow hw 43 rfl)) (notFace_of_selects (args := #[]) (mvT hZ (ow hw 45 rfl))) (mvT hZ (ow hw 45 rfl)) (mvT hZ (ow hw 44 rfl)) (by decide) (backOf (W := 0) (rm7_10 l Z ar hw [] b19 tm1 p2 wh1 (if wh0 = (0 : Int32) then (0 : Int64) else q0) dq_22 es_22 ke_22 nw_114 kn_114 q0 (p1.toInt64) T114.heap n0 O114 E114_115 u114_1 u114_2 E114_116 u114_3 u114_4 u114_5 u114_6 u22_8 u114_7 u114_8 gn19 gn24 gn26 u22_11 u22_12 u22_13 (Ne.symm ne118) (Ne.symm ne119) (Ne.symm ne120) hc184) hZ (ow hw 46 rfl) (ow hw 2 rfl) (by decide) (by decide)) q264a q264c (g := (mkF m 112 #[jv q0, se, iv p1, iv p2, iv p3, jv q4, se, iv p5, iv lk0, iv wh0, iv lk1, iv wh1, jv tm1, se, rv b19, jv (if wh0 = (0 : Int32) then (0 : Int64) else q0), se, un, un, un, un, un] [(.int wh1), (.int p2), (.long tm1), (.ref b19)])) rfl (by rw [hml]; rfl) (Steps.refl _) (argsL := [(.long tm1), (.int p2), (.int wh1)]) (rest := []) (lenOf pd_12 rfl) rfl (by show 2 * 0 + _ ≤ _; exact Nat.le_of_eq rfl) (hb hby at_112) (fun _ _ => ⟨rfl, rfl, (by decide : 4 + 0 ≤ _), (by decide : 24 + 0 ≤ _)⟩)
     dsimp only [Pt.U, Pt.locs, Pt.cells, Pt.slots] at X264 l264 y264 z264 st264 hQ264
     subst l264 y264 z264
     obtain ⟨rfl, N264q, Kq264, u264_0, u264_1, u264_2⟩ := hQ264
     have N264 := Fr.app N114 N264q
     have E264_265 := E114_115.keep Kq264
     have E264_266 := E114_116.keep Kq264
     have F264_267 := u114_3.keep Kq264 (ninS (Ne.symm u22_11) nin0)
     have F264_268 := u114_4.keep Kq264 (ninS (Ne.symm u22_11) nin0)
     have F264_269 := u114_5.keep Kq264 (ninS (Ne.symm u22_11) nin0)
     have V264_270 := u114_6.keep Kq264 (ninS (Ne.symm u22_12) nin0)
     have E264_271 := u114_7.keep Kq264
     have V264_272 := u114_8.keep Kq264 (ninS (Ne.symm ne118) nin0)
     have K264 := K114.trans Kq264 (allS (Or.inr sz19) all0)
     have O264 := O114.keep Kq264 (allS gn19 all0)
     have pre273 : ∀ tg, AT p e below T264 m 117 #[jv q0, se, iv p1, iv p2, iv p3, jv q4, se, iv p5, iv lk0, iv wh0, iv lk1, iv wh1, jv tm1, se, rv b19, jv (if wh0 = (0 : Int32) then (0 : Int64) else q0), se, un, un, un, un, un] [(.int wh1)] tg → Steps p.tables e below S0 tg := fun tg kg => pre183 tg (by
      refine XS.aload X114.here hx rfl (hb hby at_105) rfl rfl ?_
      refine XS.lload X114.here hx rfl (hb hby at_107) rfl ?_
      refine XS.iloadN X114.here hx rfl (hb hby at_109) rfl ?_
      show AT p e below T114 m 110 #[jv q0, se, iv p1, iv p2, iv p3, jv q4, se, iv p5, iv lk0, iv wh0, iv lk1, iv wh1, jv tm1, se, rv b19, jv (if wh0 = (0 : Int32) then (0 : Int64) else q0), se, un, un, un, un, un] [(.int p2), (.long tm1), (.ref b19)] _
      refine XS.iload X114.here hx rfl (hb hby at_110) rfl ?_
      refine st264.trans ?_
      refine XS.iload X264.here hx rfl (hb hby at_115) rfl ?_
      exact kg)
     have pre274 : ∀ tg, AT p e below T264 m 124 #[jv q0, se, iv p1, iv p2, iv p3, jv q4, se, iv p5, iv lk0, iv wh0, iv lk1, iv wh1, jv tm1, se, rv b19, jv (if wh1 = (0 : Int32) then (if wh0 = (0 : Int32) then (0 : Int64) else q0) else tm1), se, un, un, un, un, un] [] tg → Steps p.tables e below S0 tg := by
      intro tg kg
      rcases Decidable.em (wh1 = (0 : Int32)) with hd | hd
      ·
       simp only [if_pos hd] at kg
       exact pre273 tg (by
        refine XS.ifYes X264.here hx rfl (pc0 := 117) (pc' := 124) rfl (hb hby at_117) rfl (XT.i0_eq_t hd) (by decide) (by decide) ?_
        exact kg)
      ·
       simp only [if_neg hd] at kg
       exact pre273 tg (by
        refine XS.ifNo X264.here hx rfl (hb hby at_117) rfl (XT.i0_eq_f hd) ?_
        show AT p e below T264 m 120 #[jv q0, se, iv p1, iv p2, iv p3, jv q4, se, iv p5, iv lk0, iv wh0, iv lk1, iv wh1, jv tm1, se, rv b19, jv (if wh0 = (0 : Int32) then (0 : Int64) else q0), se, un, un, un, un, un] [] _
        refine XS.lload X264.here hx rfl (hb hby at_120) rfl ?_
        refine XS.lstore X264.here hx rfl (hb hby at_122) rfl (l' := #[jv q0, se, iv p1, iv p2, iv p3, jv q4, se, iv p5, iv lk0, iv wh0, iv lk1, iv wh1, jv tm1, se, rv b19, jv tm1, se, un, un, un, un, un]) rfl ?_
        exact kg)
     have pre275 : ∀ tg, AT p e below T264 m 131 #[jv q0, se, iv p1, iv p2, iv p3, jv q4, se, iv p5, iv lk0, iv wh0, iv lk1, iv wh1, jv tm1, se, rv b19, jv (if wh1 = (0 : Int32) then (if wh0 = (0 : Int32) then (0 : Int64) else q0) else tm1), se, jv ((if wh1 = (0 : Int32) then (if wh0 = (0 : Int32) then (0 : Int64) else q0) else tm1) + q4), se, un, un, un] [] tg → Steps p.tables e below S0 tg := fun tg kg => pre274 tg (by
      refine XS.lload X264.here hx rfl (hb hby at_124) rfl ?_
      refine XS.lload X264.here hx rfl (hb hby at_126) rfl ?_
      refine XS.ladd X264.here hx rfl (hb hby at_128) rfl ?_
      show AT p e below T264 m 129 #[jv q0, se, iv p1, iv p2, iv p3, jv q4, se, iv p5, iv lk0, iv wh0, iv lk1, iv wh1, jv tm1, se, rv b19, jv (if wh1 = (0 : Int32) then (if wh0 = (0 : Int32) then (0 : Int64) else q0) else tm1), se, un, un, un, un, un] [(.long ((if wh1 = (0 : Int32) then (if wh0 = (0 : Int32) then (0 : Int64) else q0) else tm1) + q4))] _
      refine XS.lstore X264.here hx rfl (hb hby at_129) rfl (l' := #[jv q0, se, iv p1, iv p2, iv p3, jv q4, se, iv p5, iv lk0, iv wh0, iv lk1, iv wh1, jv tm1, se, rv b19, jv (if wh1 = (0 : Int32) then (if wh0 = (0 : Int32) then (0 : Int64) else q0) else tm1), se, jv ((if wh1 = (0 : Int32) then (if wh0 = (0 : Int32) then (0 : Int64) else q0) else tm1) + q4), se, un, un, un]) rfl ?_
      exact kg)
     rcases Decidable.em ((0 : Int32) < p5) with hc276 | hc276
     ·
      rcases Decidable.em (q4 < (600000000000 : Int64)) with hc277 | hc277
      ·
       rcases Decidable.em (p1 < p5) with hc278 | hc278
       ·
        obtain ⟨cq279, kq279, q279a, q279b, q279c⟩ := isOf hZ rfl E264_265
        obtain ⟨_, _, ⟨T279, L279, k279, n279⟩, -, X279, ⟨Lc279, hQ279, l279, y279, z279⟩, st279⟩ := X264.virtualBack hx (y := y5) (z := y5) hown (mvT hZ (ow hw 28 rfl)) (mvT hZ (ow hw 29 rfl)) (notFace_of_selects (args := #[]) (mvT hZ (ow hw 31 rfl))) (mvT hZ (ow hw 31 rfl)) (mvT hZ (ow hw 30 rfl)) (by decide) (backOf (W := 0) (rm5_1l l Z ar hw [] b19 ((if wh1 = (0 : Int32) then (if wh0 = (0 : Int32) then (0 : Int64) else q0) else tm1) + q4) p5 (if wh1 = (0 : Int32) then (if wh0 = (0 : Int32) then (0 : Int64) else q0) else tm1) dq_22 es_22 ke_22 nw_114 kn_114 q0 p1 T264.heap n0 O264 HW E264_265 u264_2 u264_1 E264_266 F264_267 F264_268 F264_269 V264_270 E264_271 V264_272 hc276 (by rw [own_wd]; exact hc277) hc278) hZ (ow hw 32 rfl) (ow hw 2 rfl) (by decide) (by decide)) q279a q279c (g := (mkF m 137 #[jv q0, se, iv p1, iv p2, iv p3, jv q4, se, iv p5, iv lk0, iv wh0, iv lk1, iv wh1, jv tm1, se, rv b19, jv (if wh1 = (0 : Int32) then (if wh0 = (0 : Int32) then (0 : Int64) else q0) else tm1), se, jv ((if wh1 = (0 : Int32) then (if wh0 = (0 : Int32) then (0 : Int64) else q0) else tm1) + q4), se, un, un, un] [(.int p5), (.long ((if wh1 = (0 : Int32) then (if wh0 = (0 : Int32) then (0 : Int64) else q0) else tm1) + q4)), (.ref b19)])) rfl (by rw [hml]; rfl) (Steps.refl _) (argsL := [(.long ((if wh1 = (0 : Int32) then (if wh0 = (0 : Int32) then (0 : Int64) else q0) else tm1) + q4)), (.int p5)]) (rest := []) (lenOf pd_11 rfl) rfl (by show 2 * 0 + _ ≤ _; exact Nat.le_of_eq rfl) (hb hby at_137) (fun _ _ => ⟨rfl, rfl, (by decide : 4 + 1 ≤ _), (by decide : 24 + 2 ≤ _)⟩)
        dsimp only [Pt.U, Pt.locs, Pt.cells, Pt.slots] at X279 l279 y279 z279 st279 hQ279
        subst l279 y279 z279
        obtain ⟨b_279, kb_279, rfl, N279q, Kq279, u279_0, u279_1⟩ := hQ279
        have N279 := Fr.app N264 N279q
        have E279_280 := E264_265.keep Kq279
        have E279_281 := E264_266.keep Kq279
        have F279_282 := F264_267.keep Kq279 nin0
        have F279_283 := F264_268.keep Kq279 nin0
        have F279_284 := F264_269.keep Kq279 nin0
        have V279_285 := V264_270.keep Kq279 nin0
        have E279_286 := E264_271.keep Kq279
        have V279_287 := V264_272.keep Kq279 nin0
        have F279_288 := u264_1.keep Kq279 nin0
        have F279_289 := u264_2.keep Kq279 nin0
        have K279 := K264.trans Kq279 all0
        have O279 := O264.keep Kq279 all0
        have sz290 : h0.size ≤ b_279 := Nat.le_trans K264.1 u279_1
        have gn290 : n0 ≤ b_279 := Nat.le_trans (Nat.le_trans (Nat.le_of_eq O264.1.symm) O264.2.1) u279_1
        have ne291 : b19 ≠ b_279 := Nat.ne_of_lt (Nat.lt_of_lt_of_le (E264_265).lt u279_1)
        have ne292 : dq_22 ≠ b_279 := Nat.ne_of_lt (Nat.lt_of_lt_of_le (E264_266).lt u279_1)
        have ne293 : es_22 ≠ b_279 := Nat.ne_of_lt (Nat.lt_of_lt_of_le (V264_270).lt u279_1)
        have ne294 : nw_114 ≠ b_279 := Nat.ne_of_lt (Nat.lt_of_lt_of_le (E264_271).lt u279_1)
        obtain ⟨_, _, ⟨T295, L295, k295, n295⟩, -, X295, ⟨Lc295, hQ295, l295, y295, z295⟩, st295⟩ := Jvm.LawKit.callS X279 hx (y := y19) hown (mvT hZ (ow hw 124 rfl)) (mvT hZ (ow hw 125 rfl)) (mvT hZ (ow hw 126 rfl)) (mvT hZ (ow hw 127 rfl)) (by decide) (backOf (W := 0) (rm19_2 l Z ar hw [] b_279 (p1 + (1 : Int32)) p5 (0 : Int32) (0 : Int32) kb_279 (p1 + (1 : Int32)) p5 T279.heap n0 O279 u279_0) hZ (ow hw 127 rfl) (ow hw 126 rfl) (by decide) (by decide)) (g := (mkF m 232 #[jv q0, se, iv p1, iv p2, iv p3, jv q4, se, iv p5, iv lk0, iv wh0, iv lk1, iv wh1, jv tm1, se, rv b19, jv (if wh1 = (0 : Int32) then (if wh0 = (0 : Int32) then (0 : Int64) else q0) else tm1), se, jv ((if wh1 = (0 : Int32) then (if wh0 = (0 : Int32) then (0 : Int64) else q0) else tm1) + q4), se, rv b_279, iv (1 : Int32), iv p1] [(.int (0 : Int32)), (.int (0 : Int32)), (.int p5), (.int (p1 + (1 : Int32))), (.int (2 : Int32)), (.ref b_279)])) rfl (by rw [hml]; rfl) (argsL := [(.ref b_279), (.int (2 : Int32)), (.int (p1 + (1 : Int32))), (.int p5), (.int (0 : Int32)), (.int (0 : Int32))]) (rest := []) (lenOf pd_13 rfl) rfl (by show 2 * 0 + _ ≤ _; exact Nat.le_of_eq rfl) (hb hby at_232) (fun _ _ => ⟨rfl, rfl, (by decide : 5 + 0 ≤ _), (by decide : 26 + 0 ≤ _)⟩)
        dsimp only [Pt.U, Pt.locs, Pt.cells, Pt.slots] at X295 l295 y295 z295 st295 hQ295
        subst l295 y295 z295
        obtain ⟨rfl, N295q, e295⟩ := hQ295
        have N295 := Fr.app N279 N295q
        have r295 : (f19_2 (p1 + (1 : Int32)) p5 (p1 + (1 : Int32)) p5) = (1 : Int32) := by rw [f19_2, if_pos (rfl : (p1 + (1 : Int32)) = (p1 + (1 : Int32))), if_pos (rfl : p5 = p5)] <;> decide
        rw [r295] at st295
        obtain ⟨fs, hr, hrun, hended, hW, hsame⟩ := X295.leave (v := some (.int (1 : Int32))) (fun h => by rw [Bd.returns] at h; cases h)
        subst hS0
        refine ⟨_, _, pre275 _ ?_, hrun, hended, _, _, rfl, ?_, ⟨_, rfl⟩, hW, hsame.mono (by decide) (by decide)⟩
        ·
         refine XS.aload X264.here hx rfl (hb hby at_131) rfl rfl ?_
         refine XS.lload X264.here hx rfl (hb hby at_133) rfl ?_
         refine XS.iload X264.here hx rfl (hb hby at_135) rfl ?_
         show AT p e below T264 m 137 #[jv q0, se, iv p1, iv p2, iv p3, jv q4, se, iv p5, iv lk0, iv wh0, iv lk1, iv wh1, jv tm1, se, rv b19, jv (if wh1 = (0 : Int32) then (if wh0 = (0 : Int32) then (0 : Int64) else q0) else tm1), se, jv ((if wh1 = (0 : Int32) then (if wh0 = (0 : Int32) then (0 : Int64) else q0) else tm1) + q4), se, un, un, un] [(.int p5), (.long ((if wh1 = (0 : Int32) then (if wh0 = (0 : Int32) then (0 : Int64) else q0) else tm1) + q4)), (.ref b19)] _
         refine st279.trans ?_
         refine XS.astore X279.here hx rfl (hb hby at_140) rfl rfl (l' := #[jv q0, se, iv p1, iv p2, iv p3, jv q4, se, iv p5, iv lk0, iv wh0, iv lk1, iv wh1, jv tm1, se, rv b19, jv (if wh1 = (0 : Int32) then (if wh0 = (0 : Int32) then (0 : Int64) else q0) else tm1), se, jv ((if wh1 = (0 : Int32) then (if wh0 = (0 : Int32) then (0 : Int64) else q0) else tm1) + q4), se, rv b_279, un, un]) rfl ?_
         refine XS.iload X279.here hx rfl (hb hby at_142) rfl ?_
         show AT p e below T279 m 144 #[jv q0, se, iv p1, iv p2, iv p3, jv q4, se, iv p5, iv lk0, iv wh0, iv lk1, iv wh1, jv tm1, se, rv b19, jv (if wh1 = (0 : Int32) then (if wh0 = (0 : Int32) then (0 : Int64) else q0) else tm1), se, jv ((if wh1 = (0 : Int32) then (if wh0 = (0 : Int32) then (0 : Int64) else q0) else tm1) + q4), se, rv b_279, un, un] [(.int lk0)] _
         refine XS.ifNo X279.here hx rfl (hb hby at_144) rfl (XT.i0_eq_f (hc29 : ¬ (lk0 = (0 : Int32)))) ?_
         show AT p e below T279 m 147 #[jv q0, se, iv p1, iv p2, iv p3, jv q4, se, iv p5, iv lk0, iv wh0, iv lk1, iv wh1, jv tm1, se, rv b19, jv (if wh1 = (0 : Int32) then (if wh0 = (0 : Int32) then (0 : Int64) else q0) else tm1), se, jv ((if wh1 = (0 : Int32) then (if wh0 = (0 : Int32) then (0 : Int64) else q0) else tm1) + q4), se, rv b_279, un, un] [] _
         refine XS.iloadN X279.here hx rfl (hb hby at_147) rfl ?_
         show AT p e below T279 m 148 #[jv q0, se, iv p1, iv p2, iv p3, jv q4, se, iv p5, iv lk0, iv wh0, iv lk1, iv wh1, jv tm1, se, rv b19, jv (if wh1 = (0 : Int32) then (if wh0 = (0 : Int32) then (0 : Int64) else q0) else tm1), se, jv ((if wh1 = (0 : Int32) then (if wh0 = (0 : Int32) then (0 : Int64) else q0) else tm1) + q4), se, rv b_279, un, un] [(.int p1)] _
         refine XS.ifNo X279.here hx rfl (hb hby at_148) rfl (XT.i0_le_f (hc113 : (0 : Int32) < p1)) ?_
         refine XS.iconst X279.here hx rfl (hb hby at_151) ?_
         refine XS.istore X279.here hx rfl (hb hby at_152) rfl (l' := #[jv q0, se, iv p1, iv p2, iv p3, jv q4, se, iv p5, iv lk0, iv wh0, iv lk1, iv wh1, jv tm1, se, rv b19, jv (if wh1 = (0 : Int32) then (if wh0 = (0 : Int32) then (0 : Int64) else q0) else tm1), se, jv ((if wh1 = (0 : Int32) then (if wh0 = (0 : Int32) then (0 : Int64) else q0) else tm1) + q4), se, rv b_279, iv (1 : Int32), un]) rfl ?_
         show AT p e below T279 m 154 #[jv q0, se, iv p1, iv p2, iv p3, jv q4, se, iv p5, iv lk0, iv wh0, iv lk1, iv wh1, jv tm1, se, rv b19, jv (if wh1 = (0 : Int32) then (if wh0 = (0 : Int32) then (0 : Int64) else q0) else tm1), se, jv ((if wh1 = (0 : Int32) then (if wh0 = (0 : Int32) then (0 : Int64) else q0) else tm1) + q4), se, rv b_279, iv (1 : Int32), un] [] _
         refine XS.iloadN X279.here hx rfl (hb hby at_154) rfl ?_
         refine XS.istore X279.here hx rfl (hb hby at_155) rfl (l' := #[jv q0, se, iv p1, iv p2, iv p3, jv q4, se, iv p5, iv lk0, iv wh0, iv lk1, iv wh1, jv tm1, se, rv b19, jv (if wh1 = (0 : Int32) then (if wh0 = (0 : Int32) then (0 : Int64) else q0) else tm1), se, jv ((if wh1 = (0 : Int32) then (if wh0 = (0 : Int32) then (0 : Int64) else q0) else tm1) + q4), se, rv b_279, iv (1 : Int32), iv p1]) rfl ?_
         refine XS.goto X279.here hx rfl (pc0 := 157) (pc' := 184) rfl (hb hby at_157) (by decide) (by decide) ?_
         show AT p e below T279 m 184 #[jv q0, se, iv p1, iv p2, iv p3, jv q4, se, iv p5, iv lk0, iv wh0, iv lk1, iv wh1, jv tm1, se, rv b19, jv (if wh1 = (0 : Int32) then (if wh0 = (0 : Int32) then (0 : Int64) else q0) else tm1), se, jv ((if wh1 = (0 : Int32) then (if wh0 = (0 : Int32) then (0 : Int64) else q0) else tm1) + q4), se, rv b_279, iv (1 : Int32), iv p1] [] _
         refine XS.iload X279.here hx rfl (hb hby at_184) rfl ?_
         show AT p e below T279 m 186 #[jv q0, se, iv p1, iv p2, iv p3, jv q4, se, iv p5, iv lk0, iv wh0, iv lk1, iv wh1, jv tm1, se, rv b19, jv (if wh1 = (0 : Int32) then (if wh0 = (0 : Int32) then (0 : Int64) else q0) else tm1), se, jv ((if wh1 = (0 : Int32) then (if wh0 = (0 : Int32) then (0 : Int64) else q0) else tm1) + q4), se, rv b_279, iv (1 : Int32), iv p1] [(.int (1 : Int32))] _
         refine XS.ifNo X279.here hx rfl (hb hby at_186) rfl (XT.i0_eq_f ((by decide) : ¬ ((1 : Int32) = (0 : Int32)))) ?_
         refine XS.iload X279.here hx rfl (hb hby at_189) rfl ?_
         show AT p e below T279 m 191 #[jv q0, se, iv p1, iv p2, iv p3, jv q4, se, iv p5, iv lk0, iv wh0, iv lk1, iv wh1, jv tm1, se, rv b19, jv (if wh1 = (0 : Int32) then (if wh0 = (0 : Int32) then (0 : Int64) else q0) else tm1), se, jv ((if wh1 = (0 : Int32) then (if wh0 = (0 : Int32) then (0 : Int64) else q0) else tm1) + q4), se, rv b_279, iv (1 : Int32), iv p1] [(.int p5)] _
         refine XS.ifNo X279.here hx rfl (hb hby at_191) rfl (XT.i0_le_f (hc276 : (0 : Int32) < p5)) ?_
         refine XS.lload X279.here hx rfl (hb hby at_194) rfl ?_
         show AT p e below T279 m 196 #[jv q0, se, iv p1, iv p2, iv p3, jv q4, se, iv p5, iv lk0, iv wh0, iv lk1, iv wh1, jv tm1, se, rv b19, jv (if wh1 = (0 : Int32) then (if wh0 = (0 : Int32) then (0 : Int64) else q0) else tm1), se, jv ((if wh1 = (0 : Int32) then (if wh0 = (0 : Int32) then (0 : Int64) else q0) else tm1) + q4), se, rv b_279, iv (1 : Int32), iv p1] [(.long q4)] _
         refine X279.ldc2Long hx hown (mvT hZ (ow hw 123 rfl)) (g := (mkF m 196 #[jv q0, se, iv p1, iv p2, iv p3, jv q4, se, iv p5, iv lk0, iv wh0, iv lk1, iv wh1, jv tm1, se, rv b19, jv (if wh1 = (0 : Int32) then (if wh0 = (0 : Int32) then (0 : Int64) else q0) else tm1), se, jv ((if wh1 = (0 : Int32) then (if wh0 = (0 : Int32) then (0 : Int64) else q0) else tm1) + q4), se, rv b_279, iv (1 : Int32), iv p1] [(.long q4)])) rfl (hb hby at_196) _ ?_
         refine XS.lcmp X279.here hx rfl (hb hby at_199) rfl ?_
         show AT p e below T279 m 200 #[jv q0, se, iv p1, iv p2, iv p3, jv q4, se, iv p5, iv lk0, iv wh0, iv lk1, iv wh1, jv tm1, se, rv b19, jv (if wh1 = (0 : Int32) then (if wh0 = (0 : Int32) then (0 : Int64) else q0) else tm1), se, jv ((if wh1 = (0 : Int32) then (if wh0 = (0 : Int32) then (0 : Int64) else q0) else tm1) + q4), se, rv b_279, iv (1 : Int32), iv p1] [(.int (XT.cmpL q4 (600000000000 : Int64)))] _
         refine XS.ifYes X279.here hx rfl (pc0 := 200) (pc' := 214) rfl (hb hby at_200) rfl (XT.ll_lt_t (hc277 : q4 < (600000000000 : Int64))) (by decide) (by decide) ?_
         refine XS.iload X279.here hx rfl (hb hby at_214) rfl ?_
         show AT p e below T279 m 216 #[jv q0, se, iv p1, iv p2, iv p3, jv q4, se, iv p5, iv lk0, iv wh0, iv lk1, iv wh1, jv tm1, se, rv b19, jv (if wh1 = (0 : Int32) then (if wh0 = (0 : Int32) then (0 : Int64) else q0) else tm1), se, jv ((if wh1 = (0 : Int32) then (if wh0 = (0 : Int32) then (0 : Int64) else q0) else tm1) + q4), se, rv b_279, iv (1 : Int32), iv p1] [(.int p1)] _
         refine XS.iload X279.here hx rfl (hb hby at_216) rfl ?_
         show AT p e below T279 m 218 #[jv q0, se, iv p1, iv p2, iv p3, jv q4, se, iv p5, iv lk0, iv wh0, iv lk1, iv wh1, jv tm1, se, rv b19, jv (if wh1 = (0 : Int32) then (if wh0 = (0 : Int32) then (0 : Int64) else q0) else tm1), se, jv ((if wh1 = (0 : Int32) then (if wh0 = (0 : Int32) then (0 : Int64) else q0) else tm1) + q4), se, rv b_279, iv (1 : Int32), iv p1] [(.int p5), (.int p1)] _
         refine XS.icmpNo X279.here hx rfl (hb hby at_218) rfl (XT.ii_ge_f (hc278 : p1 < p5)) ?_
         refine XS.aload X279.here hx rfl (hb hby at_221) rfl rfl ?_
         refine XS.iconst X279.here hx rfl (hb hby at_223) ?_
         show AT p e below T279 m 224 #[jv q0, se, iv p1, iv p2, iv p3, jv q4, se, iv p5, iv lk0, iv wh0, iv lk1, iv wh1, jv tm1, se, rv b19, jv (if wh1 = (0 : Int32) then (if wh0 = (0 : Int32) then (0 : Int64) else q0) else tm1), se, jv ((if wh1 = (0 : Int32) then (if wh0 = (0 : Int32) then (0 : Int64) else q0) else tm1) + q4), se, rv b_279, iv (1 : Int32), iv p1] [(.int (2 : Int32)), (.ref b_279)] _
         refine XS.iload X279.here hx rfl (hb hby at_224) rfl ?_
         refine XS.iconst X279.here hx rfl (hb hby at_226) ?_
         refine XS.iadd X279.here hx rfl (hb hby at_227) rfl ?_
         show AT p e below T279 m 228 #[jv q0, se, iv p1, iv p2, iv p3, jv q4, se, iv p5, iv lk0, iv wh0, iv lk1, iv wh1, jv tm1, se, rv b19, jv (if wh1 = (0 : Int32) then (if wh0 = (0 : Int32) then (0 : Int64) else q0) else tm1), se, jv ((if wh1 = (0 : Int32) then (if wh0 = (0 : Int32) then (0 : Int64) else q0) else tm1) + q4), se, rv b_279, iv (1 : Int32), iv p1] [(.int (p1 + (1 : Int32))), (.int (2 : Int32)), (.ref b_279)] _
         refine XS.iload X279.here hx rfl (hb hby at_228) rfl ?_
         refine XS.iconst X279.here hx rfl (hb hby at_230) ?_
         refine XS.iconst X279.here hx rfl (hb hby at_231) ?_
         show AT p e below T279 m 232 #[jv q0, se, iv p1, iv p2, iv p3, jv q4, se, iv p5, iv lk0, iv wh0, iv lk1, iv wh1, jv tm1, se, rv b19, jv (if wh1 = (0 : Int32) then (if wh0 = (0 : Int32) then (0 : Int64) else q0) else tm1), se, jv ((if wh1 = (0 : Int32) then (if wh0 = (0 : Int32) then (0 : Int64) else q0) else tm1) + q4), se, rv b_279, iv (1 : Int32), iv p1] [(.int (0 : Int32)), (.int (0 : Int32)), (.int p5), (.int (p1 + (1 : Int32))), (.int (2 : Int32)), (.ref b_279)] _
         refine st295 _ ?_
         exact retN X295 hx (t := .boolean) Bd.returns (by simp) (hb hby at_235) hr
        ·
         show Q0 Z q0 p1 p2 p3 q4 p5 h0 n0 _ T295.heap _
         rw [e295]
         exact ⟨rfl, N295⟩
       ·
        rcases Decidable.em (p5 < p1) with hc296 | hc296
        ·
         obtain ⟨cq297, kq297, q297a, q297b, q297c⟩ := isOf hZ rfl E264_265
         obtain ⟨_, _, ⟨T297, L297, k297, n297⟩, -, X297, ⟨Lc297, hQ297, l297, y297, z297⟩, st297⟩ := X264.virtualBack hx (y := y5) (z := y5) hown (mvT hZ (ow hw 28 rfl)) (mvT hZ (ow hw 29 rfl)) (notFace_of_selects (args := #[]) (mvT hZ (ow hw 31 rfl))) (mvT hZ (ow hw 31 rfl)) (mvT hZ (ow hw 30 rfl)) (by decide) (backOf (W := 0) (rm5_1g l Z ar hw [] b19 ((if wh1 = (0 : Int32) then (if wh0 = (0 : Int32) then (0 : Int64) else q0) else tm1) + q4) p5 (if wh1 = (0 : Int32) then (if wh0 = (0 : Int32) then (0 : Int64) else q0) else tm1) dq_22 es_22 ke_22 nw_114 kn_114 q0 p1 T264.heap n0 O264 HW E264_265 u264_2 u264_1 E264_266 F264_267 F264_268 F264_269 V264_270 E264_271 V264_272 hc276 (by rw [own_wd]; exact hc277) hc278 hc296) hZ (ow hw 32 rfl) (ow hw 2 rfl) (by decide) (by decide)) q297a q297c (g := (mkF m 137 #[jv q0, se, iv p1, iv p2, iv p3, jv q4, se, iv p5, iv lk0, iv wh0, iv lk1, iv wh1, jv tm1, se, rv b19, jv (if wh1 = (0 : Int32) then (if wh0 = (0 : Int32) then (0 : Int64) else q0) else tm1), se, jv ((if wh1 = (0 : Int32) then (if wh0 = (0 : Int32) then (0 : Int64) else q0) else tm1) + q4), se, un, un, un] [(.int p5), (.long ((if wh1 = (0 : Int32) then (if wh0 = (0 : Int32) then (0 : Int64) else q0) else tm1) + q4)), (.ref b19)])) rfl (by rw [hml]; rfl) (Steps.refl _) (argsL := [(.long ((if wh1 = (0 : Int32) then (if wh0 = (0 : Int32) then (0 : Int64) else q0) else tm1) + q4)), (.int p5)]) (rest := []) (lenOf pd_11 rfl) rfl (by show 2 * 0 + _ ≤ _; exact Nat.le_of_eq rfl) (hb hby at_137) (fun _ _ => ⟨rfl, rfl, (by decide : 4 + 1 ≤ _), (by decide : 24 + 4 ≤ _)⟩)
         dsimp only [Pt.U, Pt.locs, Pt.cells, Pt.slots] at X297 l297 y297 z297 st297 hQ297
         subst l297 y297 z297
         obtain ⟨b_297, kb_297, rfl, N297q, Kq297, u297_0, u297_1⟩ := hQ297
         have N297 := Fr.app N264 N297q
         have E297_298 := E264_265.keep Kq297
         have E297_299 := E264_266.keep Kq297
         have F297_300 := F264_267.keep Kq297 nin0
         have F297_301 := F264_268.keep Kq297 nin0
         have F297_302 := F264_269.keep Kq297 nin0
         have V297_303 := V264_270.keep Kq297 nin0
         have E297_304 := E264_271.keep Kq297
         have V297_305 := V264_272.keep Kq297 nin0
         have F297_306 := u264_1.keep Kq297 nin0
         have F297_307 := u264_2.keep Kq297 nin0
         have K297 := K264.trans Kq297 all0
         have O297 := O264.keep Kq297 all0
         have sz308 : h0.size ≤ b_297 := Nat.le_trans K264.1 u297_1
         have gn308 : n0 ≤ b_297 := Nat.le_trans (Nat.le_trans (Nat.le_of_eq O264.1.symm) O264.2.1) u297_1
         have ne309 : b19 ≠ b_297 := Nat.ne_of_lt (Nat.lt_of_lt_of_le (E264_265).lt u297_1)
         have ne310 : dq_22 ≠ b_297 := Nat.ne_of_lt (Nat.lt_of_lt_of_le (E264_266).lt u297_1)
         have ne311 : es_22 ≠ b_297 := Nat.ne_of_lt (Nat.lt_of_lt_of_le (V264_270).lt u297_1)
         have ne312 : nw_114 ≠ b_297 := Nat.ne_of_lt (Nat.lt_of_lt_of_le (E264_271).lt u297_1)
         obtain ⟨_, _, ⟨T313, L313, k313, n313⟩, -, X313, ⟨Lc313, hQ313, l313, y313, z313⟩, st313⟩ := Jvm.LawKit.callS X297 hx (y := y19) hown (mvT hZ (ow hw 124 rfl)) (mvT hZ (ow hw 125 rfl)) (mvT hZ (ow hw 126 rfl)) (mvT hZ (ow hw 127 rfl)) (by decide) (backOf (W := 0) (rm19_4 l Z ar hw [] b_297 (p1 + (1 : Int32)) (2147483647 : Int32) (1 : Int32) p5 kb_297 (p1 + (1 : Int32)) (2147483647 : Int32) (1 : Int32) p5 T297.heap n0 O297 u297_0) hZ (ow hw 127 rfl) (ow hw 126 rfl) (by decide) (by decide)) (g := (mkF m 255 #[jv q0, se, iv p1, iv p2, iv p3, jv q4, se, iv p5, iv lk0, iv wh0, iv lk1, iv wh1, jv tm1, se, rv b19, jv (if wh1 = (0 : Int32) then (if wh0 = (0 : Int32) then (0 : Int64) else q0) else tm1), se, jv ((if wh1 = (0 : Int32) then (if wh0 = (0 : Int32) then (0 : Int64) else q0) else tm1) + q4), se, rv b_297, iv (1 : Int32), iv p1] [(.int p5), (.int (1 : Int32)), (.int (2147483647 : Int32)), (.int (p1 + (1 : Int32))), (.int (4 : Int32)), (.ref b_297)])) rfl (by rw [hml]; rfl) (argsL := [(.ref b_297), (.int (4 : Int32)), (.int (p1 + (1 : Int32))), (.int (2147483647 : Int32)), (.int (1 : Int32)), (.int p5)]) (rest := []) (lenOf pd_13 rfl) rfl (by show 2 * 0 + _ ≤ _; exact Nat.le_of_eq rfl) (hb hby at_255) (fun _ _ => ⟨rfl, rfl, (by decide : 5 + 0 ≤ _), (by decide : 28 + 0 ≤ _)⟩)
         dsimp only [Pt.U, Pt.locs, Pt.cells, Pt.slots] at X313 l313 y313 z313 st313 hQ313
         subst l313 y313 z313
         obtain ⟨rfl, N313q, e313⟩ := hQ313
         have N313 := Fr.app N297 N313q
         have r313 : (f19_4 (p1 + (1 : Int32)) (2147483647 : Int32) (1 : Int32) p5 (p1 + (1 : Int32)) (2147483647 : Int32) (1 : Int32) p5) = (1 : Int32) := by rw [f19_4, if_pos (rfl : (p1 + (1 : Int32)) = (p1 + (1 : Int32))), if_pos ((by decide) : (2147483647 : Int32) = (2147483647 : Int32)), if_pos ((by decide) : (1 : Int32) = (1 : Int32)), if_pos (rfl : p5 = p5)] <;> decide
         rw [r313] at st313
         obtain ⟨fs, hr, hrun, hended, hW, hsame⟩ := X313.leave (v := some (.int (1 : Int32))) (fun h => by rw [Bd.returns] at h; cases h)
         subst hS0
         refine ⟨_, _, pre275 _ ?_, hrun, hended, _, _, rfl, ?_, ⟨_, rfl⟩, hW, hsame.mono (by decide) (by decide)⟩
         ·
          refine XS.aload X264.here hx rfl (hb hby at_131) rfl rfl ?_
          refine XS.lload X264.here hx rfl (hb hby at_133) rfl ?_
          refine XS.iload X264.here hx rfl (hb hby at_135) rfl ?_
          show AT p e below T264 m 137 #[jv q0, se, iv p1, iv p2, iv p3, jv q4, se, iv p5, iv lk0, iv wh0, iv lk1, iv wh1, jv tm1, se, rv b19, jv (if wh1 = (0 : Int32) then (if wh0 = (0 : Int32) then (0 : Int64) else q0) else tm1), se, jv ((if wh1 = (0 : Int32) then (if wh0 = (0 : Int32) then (0 : Int64) else q0) else tm1) + q4), se, un, un, un] [(.int p5), (.long ((if wh1 = (0 : Int32) then (if wh0 = (0 : Int32) then (0 : Int64) else q0) else tm1) + q4)), (.ref b19)] _
          refine st297.trans ?_
          refine XS.astore X297.here hx rfl (hb hby at_140) rfl rfl (l' := #[jv q0, se, iv p1, iv p2, iv p3, jv q4, se, iv p5, iv lk0, iv wh0, iv lk1, iv wh1, jv tm1, se, rv b19, jv (if wh1 = (0 : Int32) then (if wh0 = (0 : Int32) then (0 : Int64) else q0) else tm1), se, jv ((if wh1 = (0 : Int32) then (if wh0 = (0 : Int32) then (0 : Int64) else q0) else tm1) + q4), se, rv b_297, un, un]) rfl ?_
          refine XS.iload X297.here hx rfl (hb hby at_142) rfl ?_
          show AT p e below T297 m 144 #[jv q0, se, iv p1, iv p2, iv p3, jv q4, se, iv p5, iv lk0, iv wh0, iv lk1, iv wh1, jv tm1, se, rv b19, jv (if wh1 = (0 : Int32) then (if wh0 = (0 : Int32) then (0 : Int64) else q0) else tm1), se, jv ((if wh1 = (0 : Int32) then (if wh0 = (0 : Int32) then (0 : Int64) else q0) else tm1) + q4), se, rv b_297, un, un] [(.int lk0)] _
          refine XS.ifNo X297.here hx rfl (hb hby at_144) rfl (XT.i0_eq_f (hc29 : ¬ (lk0 = (0 : Int32)))) ?_
          show AT p e below T297 m 147 #[jv q0, se, iv p1, iv p2, iv p3, jv q4, se, iv p5, iv lk0, iv wh0, iv lk1, iv wh1, jv tm1, se, rv b19, jv (if wh1 = (0 : Int32) then (if wh0 = (0 : Int32) then (0 : Int64) else q0) else tm1), se, jv ((if wh1 = (0 : Int32) then (if wh0 = (0 : Int32) then (0 : Int64) else q0) else tm1) + q4), se, rv b_297, un, un] [] _
          refine XS.iloadN X297.here hx rfl (hb hby at_147) rfl ?_
          show AT p e below T297 m 148 #[jv q0, se, iv p1, iv p2, iv p3, jv q4, se, iv p5, iv lk0, iv wh0, iv lk1, iv wh1, jv tm1, se, rv b19, jv (if wh1 = (0 : Int32) then (if wh0 = (0 : Int32) then (0 : Int64) else q0) else tm1), se, jv ((if wh1 = (0 : Int32) then (if wh0 = (0 : Int32) then (0 : Int64) else q0) else tm1) + q4), se, rv b_297, un, un] [(.int p1)] _
          refine XS.ifNo X297.here hx rfl (hb hby at_148) rfl (XT.i0_le_f (hc113 : (0 : Int32) < p1)) ?_
          refine XS.iconst X297.here hx rfl (hb hby at_151) ?_
          refine XS.istore X297.here hx rfl (hb hby at_152) rfl (l' := #[jv q0, se, iv p1, iv p2, iv p3, jv q4, se, iv p5, iv lk0, iv wh0, iv lk1, iv wh1, jv tm1, se, rv b19, jv (if wh1 = (0 : Int32) then (if wh0 = (0 : Int32) then (0 : Int64) else q0) else tm1), se, jv ((if wh1 = (0 : Int32) then (if wh0 = (0 : Int32) then (0 : Int64) else q0) else tm1) + q4), se, rv b_297, iv (1 : Int32), un]) rfl ?_
          show AT p e below T297 m 154 #[jv q0, se, iv p1, iv p2, iv p3, jv q4, se, iv p5, iv lk0, iv wh0, iv lk1, iv wh1, jv tm1, se, rv b19, jv (if wh1 = (0 : Int32) then (if wh0 = (0 : Int32) then (0 : Int64) else q0) else tm1), se, jv ((if wh1 = (0 : Int32) then (if wh0 = (0 : Int32) then (0 : Int64) else q0) else tm1) + q4), se, rv b_297, iv (1 : Int32), un] [] _
          refine XS.iloadN X297.here hx rfl (hb hby at_154) rfl ?_
          refine XS.istore X297.here hx rfl (hb hby at_155) rfl (l' := #[jv q0, se, iv p1, iv p2, iv p3, jv q4, se, iv p5, iv lk0, iv wh0, iv lk1, iv wh1, jv tm1, se, rv b19, jv (if wh1 = (0 : Int32) then (if wh0 = (0 : Int32) then (0 : Int64) else q0) else tm1), se, jv ((if wh1 = (0 : Int32) then (if wh0 = (0 : Int32) then (0 : Int64) else q0) else tm1) + q4), se, rv b_297, iv (1 : Int32), iv p1]) rfl ?_
          refine XS.goto X297.here hx rfl (pc0 := 157) (pc' := 184) rfl (hb hby at_157) (by decide) (by decide) ?_
          show AT p e below T297 m 184 #[jv q0, se, iv p1, iv p2, iv p3, jv q4, se, iv p5, iv lk0, iv wh0, iv lk1, iv wh1, jv tm1, se, rv b19, jv (if wh1 = (0 : Int32) then (if wh0 = (0 : Int32) then (0 : Int64) else q0) else tm1), se, jv ((if wh1 = (0 : Int32) then (if wh0 = (0 : Int32) then (0 : Int64) else q0) else tm1) + q4), se, rv b_297, iv (1 : Int32), iv p1] [] _
          refine XS.iload X297.here hx rfl (hb hby at_184) rfl ?_
          show AT p e below T297 m 186 #[jv q0, se, iv p1, iv p2, iv p3, jv q4, se, iv p5, iv lk0, iv wh0, iv lk1, iv wh1, jv tm1, se, rv b19, jv (if wh1 = (0 : Int32) then (if wh0 = (0 : Int32) then (0 : Int64) else q0) else tm1), se, jv ((if wh1 = (0 : Int32) then (if wh0 = (0 : Int32) then (0 : Int64) else q0) else tm1) + q4), se, rv b_297, iv (1 : Int32), iv p1] [(.int (1 : Int32))] _
          refine XS.ifNo X297.here hx rfl (hb hby at_186) rfl (XT.i0_eq_f ((by decide) : ¬ ((1 : Int32) = (0 : Int32)))) ?_
          refine XS.iload X297.here hx rfl (hb hby at_189) rfl ?_
          show AT p e below T297 m 191 #[jv q0, se, iv p1, iv p2, iv p3, jv q4, se, iv p5, iv lk0, iv wh0, iv lk1, iv wh1, jv tm1, se, rv b19, jv (if wh1 = (0 : Int32) then (if wh0 = (0 : Int32) then (0 : Int64) else q0) else tm1), se, jv ((if wh1 = (0 : Int32) then (if wh0 = (0 : Int32) then (0 : Int64) else q0) else tm1) + q4), se, rv b_297, iv (1 : Int32), iv p1] [(.int p5)] _
          refine XS.ifNo X297.here hx rfl (hb hby at_191) rfl (XT.i0_le_f (hc276 : (0 : Int32) < p5)) ?_
          refine XS.lload X297.here hx rfl (hb hby at_194) rfl ?_
          show AT p e below T297 m 196 #[jv q0, se, iv p1, iv p2, iv p3, jv q4, se, iv p5, iv lk0, iv wh0, iv lk1, iv wh1, jv tm1, se, rv b19, jv (if wh1 = (0 : Int32) then (if wh0 = (0 : Int32) then (0 : Int64) else q0) else tm1), se, jv ((if wh1 = (0 : Int32) then (if wh0 = (0 : Int32) then (0 : Int64) else q0) else tm1) + q4), se, rv b_297, iv (1 : Int32), iv p1] [(.long q4)] _
          refine X297.ldc2Long hx hown (mvT hZ (ow hw 123 rfl)) (g := (mkF m 196 #[jv q0, se, iv p1, iv p2, iv p3, jv q4, se, iv p5, iv lk0, iv wh0, iv lk1, iv wh1, jv tm1, se, rv b19, jv (if wh1 = (0 : Int32) then (if wh0 = (0 : Int32) then (0 : Int64) else q0) else tm1), se, jv ((if wh1 = (0 : Int32) then (if wh0 = (0 : Int32) then (0 : Int64) else q0) else tm1) + q4), se, rv b_297, iv (1 : Int32), iv p1] [(.long q4)])) rfl (hb hby at_196) _ ?_
          refine XS.lcmp X297.here hx rfl (hb hby at_199) rfl ?_
          show AT p e below T297 m 200 #[jv q0, se, iv p1, iv p2, iv p3, jv q4, se, iv p5, iv lk0, iv wh0, iv lk1, iv wh1, jv tm1, se, rv b19, jv (if wh1 = (0 : Int32) then (if wh0 = (0 : Int32) then (0 : Int64) else q0) else tm1), se, jv ((if wh1 = (0 : Int32) then (if wh0 = (0 : Int32) then (0 : Int64) else q0) else tm1) + q4), se, rv b_297, iv (1 : Int32), iv p1] [(.int (XT.cmpL q4 (600000000000 : Int64)))] _
          refine XS.ifYes X297.here hx rfl (pc0 := 200) (pc' := 214) rfl (hb hby at_200) rfl (XT.ll_lt_t (hc277 : q4 < (600000000000 : Int64))) (by decide) (by decide) ?_
          refine XS.iload X297.here hx rfl (hb hby at_214) rfl ?_
          show AT p e below T297 m 216 #[jv q0, se, iv p1, iv p2, iv p3, jv q4, se, iv p5, iv lk0, iv wh0, iv lk1, iv wh1, jv tm1, se, rv b19, jv (if wh1 = (0 : Int32) then (if wh0 = (0 : Int32) then (0 : Int64) else q0) else tm1), se, jv ((if wh1 = (0 : Int32) then (if wh0 = (0 : Int32) then (0 : Int64) else q0) else tm1) + q4), se, rv b_297, iv (1 : Int32), iv p1] [(.int p1)] _
          refine XS.iload X297.here hx rfl (hb hby at_216) rfl ?_
          show AT p e below T297 m 218 #[jv q0, se, iv p1, iv p2, iv p3, jv q4, se, iv p5, iv lk0, iv wh0, iv lk1, iv wh1, jv tm1, se, rv b19, jv (if wh1 = (0 : Int32) then (if wh0 = (0 : Int32) then (0 : Int64) else q0) else tm1), se, jv ((if wh1 = (0 : Int32) then (if wh0 = (0 : Int32) then (0 : Int64) else q0) else tm1) + q4), se, rv b_297, iv (1 : Int32), iv p1] [(.int p5), (.int p1)] _
          refine XS.icmpYes X297.here hx rfl (pc0 := 218) (pc' := 236) rfl (hb hby at_218) rfl (XT.ii_ge_t (hc278 : ¬ (p1 < p5))) (by decide) (by decide) ?_
          refine XS.iload X297.here hx rfl (hb hby at_236) rfl ?_
          refine XS.iload X297.here hx rfl (hb hby at_238) rfl ?_
          show AT p e below T297 m 240 #[jv q0, se, iv p1, iv p2, iv p3, jv q4, se, iv p5, iv lk0, iv wh0, iv lk1, iv wh1, jv tm1, se, rv b19, jv (if wh1 = (0 : Int32) then (if wh0 = (0 : Int32) then (0 : Int64) else q0) else tm1), se, jv ((if wh1 = (0 : Int32) then (if wh0 = (0 : Int32) then (0 : Int64) else q0) else tm1) + q4), se, rv b_297, iv (1 : Int32), iv p1] [(.int p5), (.int p1)] _
          refine XS.icmpNo X297.here hx rfl (hb hby at_240) rfl (XT.ii_le_f (hc296 : p5 < p1)) ?_
          show AT p e below T297 m 243 #[jv q0, se, iv p1, iv p2, iv p3, jv q4, se, iv p5, iv lk0, iv wh0, iv lk1, iv wh1, jv tm1, se, rv b19, jv (if wh1 = (0 : Int32) then (if wh0 = (0 : Int32) then (0 : Int64) else q0) else tm1), se, jv ((if wh1 = (0 : Int32) then (if wh0 = (0 : Int32) then (0 : Int64) else q0) else tm1) + q4), se, rv b_297, iv (1 : Int32), iv p1] [] _
          refine XS.aload X297.here hx rfl (hb hby at_243) rfl rfl ?_
          refine XS.iconst X297.here hx rfl (hb hby at_245) ?_
          refine XS.iload X297.here hx rfl (hb hby at_246) rfl ?_
          show AT p e below T297 m 248 #[jv q0, se, iv p1, iv p2, iv p3, jv q4, se, iv p5, iv lk0, iv wh0, iv lk1, iv wh1, jv tm1, se, rv b19, jv (if wh1 = (0 : Int32) then (if wh0 = (0 : Int32) then (0 : Int64) else q0) else tm1), se, jv ((if wh1 = (0 : Int32) then (if wh0 = (0 : Int32) then (0 : Int64) else q0) else tm1) + q4), se, rv b_297, iv (1 : Int32), iv p1] [(.int p1), (.int (4 : Int32)), (.ref b_297)] _
          refine XS.iconst X297.here hx rfl (hb hby at_248) ?_
          refine XS.iadd X297.here hx rfl (hb hby at_249) rfl ?_
          refine X297.ldcInt hx hown (mvT hZ (ow hw 129 rfl)) (g := (mkF m 250 #[jv q0, se, iv p1, iv p2, iv p3, jv q4, se, iv p5, iv lk0, iv wh0, iv lk1, iv wh1, jv tm1, se, rv b19, jv (if wh1 = (0 : Int32) then (if wh0 = (0 : Int32) then (0 : Int64) else q0) else tm1), se, jv ((if wh1 = (0 : Int32) then (if wh0 = (0 : Int32) then (0 : Int64) else q0) else tm1) + q4), se, rv b_297, iv (1 : Int32), iv p1] [(.int (p1 + (1 : Int32))), (.int (4 : Int32)), (.ref b_297)])) rfl (hb hby at_250) _ ?_
          show AT p e below T297 m 252 #[jv q0, se, iv p1, iv p2, iv p3, jv q4, se, iv p5, iv lk0, iv wh0, iv lk1, iv wh1, jv tm1, se, rv b19, jv (if wh1 = (0 : Int32) then (if wh0 = (0 : Int32) then (0 : Int64) else q0) else tm1), se, jv ((if wh1 = (0 : Int32) then (if wh0 = (0 : Int32) then (0 : Int64) else q0) else tm1) + q4), se, rv b_297, iv (1 : Int32), iv p1] [(.int (2147483647 : Int32)), (.int (p1 + (1 : Int32))), (.int (4 : Int32)), (.ref b_297)] _
          refine XS.iconst X297.here hx rfl (hb hby at_252) ?_
          refine XS.iload X297.here hx rfl (hb hby at_253) rfl ?_
          refine st313 _ ?_
          show AT p e below T313 m 258 #[jv q0, se, iv p1, iv p2, iv p3, jv q4, se, iv p5, iv lk0, iv wh0, iv lk1, iv wh1, jv tm1, se, rv b19, jv (if wh1 = (0 : Int32) then (if wh0 = (0 : Int32) then (0 : Int64) else q0) else tm1), se, jv ((if wh1 = (0 : Int32) then (if wh0 = (0 : Int32) then (0 : Int64) else q0) else tm1) + q4), se, rv b_297, iv (1 : Int32), iv p1] [(.int (1 : Int32))] _
          exact retN X313 hx (t := .boolean) Bd.returns (by simp) (hb hby at_258) hr
         ·
          show Q0 Z q0 p1 p2 p3 q4 p5 h0 n0 _ T313.heap _
          rw [e313]
          exact ⟨rfl, N313⟩
        ·
         obtain ⟨cq314, kq314, q314a, q314b, q314c⟩ := isOf hZ rfl E264_265
         obtain ⟨_, _, ⟨T314, L314, k314, n314⟩, -, X314, ⟨Lc314, hQ314, l314, y314, z314⟩, st314⟩ := X264.virtualBack hx (y := y5) (z := y5) hown (mvT hZ (ow hw 28 rfl)) (mvT hZ (ow hw 29 rfl)) (notFace_of_selects (args := #[]) (mvT hZ (ow hw 31 rfl))) (mvT hZ (ow hw 31 rfl)) (mvT hZ (ow hw 30 rfl)) (by decide) (backOf (W := 0) (rm5_1e l Z ar hw [] b19 ((if wh1 = (0 : Int32) then (if wh0 = (0 : Int32) then (0 : Int64) else q0) else tm1) + q4) p5 (if wh1 = (0 : Int32) then (if wh0 = (0 : Int32) then (0 : Int64) else q0) else tm1) dq_22 es_22 ke_22 nw_114 kn_114 q0 p1 T264.heap n0 O264 HW E264_265 u264_2 u264_1 E264_266 F264_267 F264_268 F264_269 V264_270 E264_271 V264_272 hc276 (by rw [own_wd]; exact hc277) hc278 hc296) hZ (ow hw 32 rfl) (ow hw 2 rfl) (by decide) (by decide)) q314a q314c (g := (mkF m 137 #[jv q0, se, iv p1, iv p2, iv p3, jv q4, se, iv p5, iv lk0, iv wh0, iv lk1, iv wh1, jv tm1, se, rv b19, jv (if wh1 = (0 : Int32) then (if wh0 = (0 : Int32) then (0 : Int64) else q0) else tm1), se, jv ((if wh1 = (0 : Int32) then (if wh0 = (0 : Int32) then (0 : Int64) else q0) else tm1) + q4), se, un, un, un] [(.int p5), (.long ((if wh1 = (0 : Int32) then (if wh0 = (0 : Int32) then (0 : Int64) else q0) else tm1) + q4)), (.ref b19)])) rfl (by rw [hml]; rfl) (Steps.refl _) (argsL := [(.long ((if wh1 = (0 : Int32) then (if wh0 = (0 : Int32) then (0 : Int64) else q0) else tm1) + q4)), (.int p5)]) (rest := []) (lenOf pd_11 rfl) rfl (by show 2 * 0 + _ ≤ _; exact Nat.le_of_eq rfl) (hb hby at_137) (fun _ _ => ⟨rfl, rfl, (by decide : 4 + 1 ≤ _), (by decide : 24 + 0 ≤ _)⟩)
         dsimp only [Pt.U, Pt.locs, Pt.cells, Pt.slots] at X314 l314 y314 z314 st314 hQ314
         subst l314 y314 z314
         obtain ⟨b_314, kb_314, rfl, N314q, Kq314, u314_0, u314_1⟩ := hQ314
         have N314 := Fr.app N264 N314q
         have E314_315 := E264_265.keep Kq314
         have E314_316 := E264_266.keep Kq314
         have F314_317 := F264_267.keep Kq314 nin0
         have F314_318 := F264_268.keep Kq314 nin0
         have F314_319 := F264_269.keep Kq314 nin0
         have V314_320 := V264_270.keep Kq314 nin0
         have E314_321 := E264_271.keep Kq314
         have V314_322 := V264_272.keep Kq314 nin0
         have F314_323 := u264_1.keep Kq314 nin0
         have F314_324 := u264_2.keep Kq314 nin0
         have K314 := K264.trans Kq314 all0
         have O314 := O264.keep Kq314 all0
         have sz325 : h0.size ≤ b_314 := Nat.le_trans K264.1 u314_1
         have gn325 : n0 ≤ b_314 := Nat.le_trans (Nat.le_trans (Nat.le_of_eq O264.1.symm) O264.2.1) u314_1
         have ne326 : b19 ≠ b_314 := Nat.ne_of_lt (Nat.lt_of_lt_of_le (E264_265).lt u314_1)
         have ne327 : dq_22 ≠ b_314 := Nat.ne_of_lt (Nat.lt_of_lt_of_le (E264_266).lt u314_1)
         have ne328 : es_22 ≠ b_314 := Nat.ne_of_lt (Nat.lt_of_lt_of_le (V264_270).lt u314_1)
         have ne329 : nw_114 ≠ b_314 := Nat.ne_of_lt (Nat.lt_of_lt_of_le (E264_271).lt u314_1)
         obtain ⟨_, _, ⟨T330, L330, k330, n330⟩, -, X330, ⟨Lc330, hQ330, l330, y330, z330⟩, st330⟩ := Jvm.LawKit.callS X314 hx (y := y19) hown (mvT hZ (ow hw 124 rfl)) (mvT hZ (ow hw 125 rfl)) (mvT hZ (ow hw 126 rfl)) (mvT hZ (ow hw 127 rfl)) (by decide) (backOf (W := 0) (rm19_0 l Z ar hw [] b_314 (0 : Int32) (0 : Int32) (0 : Int32) (0 : Int32) kb_314 T314.heap n0 O314 u314_0) hZ (ow hw 127 rfl) (ow hw 126 rfl) (by decide) (by decide)) (g := (mkF m 266 #[jv q0, se, iv p1, iv p2, iv p3, jv q4, se, iv p5, iv lk0, iv wh0, iv lk1, iv wh1, jv tm1, se, rv b19, jv (if wh1 = (0 : Int32) then (if wh0 = (0 : Int32) then (0 : Int64) else q0) else tm1), se, jv ((if wh1 = (0 : Int32) then (if wh0 = (0 : Int32) then (0 : Int64) else q0) else tm1) + q4), se, rv b_314, iv (1 : Int32), iv p1] [(.int (0 : Int32)), (.int (0 : Int32)), (.int (0 : Int32)), (.int (0 : Int32)), (.int (0 : Int32)), (.ref b_314)])) rfl (by rw [hml]; rfl) (argsL := [(.ref b_314), (.int (0 : Int32)), (.int (0 : Int32)), (.int (0 : Int32)), (.int (0 : Int32)), (.int (0 : Int32))]) (rest := []) (lenOf pd_13 rfl) rfl (by show 2 * 0 + _ ≤ _; exact Nat.le_of_eq rfl) (hb hby at_266) (fun _ _ => ⟨rfl, rfl, (by decide : 5 + 0 ≤ _), (by decide : 24 + 0 ≤ _)⟩)
         dsimp only [Pt.U, Pt.locs, Pt.cells, Pt.slots] at X330 l330 y330 z330 st330 hQ330
         subst l330 y330 z330
         obtain ⟨rfl, N330q, e330⟩ := hQ330
         have N330 := Fr.app N314 N330q
         obtain ⟨fs, hr, hrun, hended, hW, hsame⟩ := X330.leave (v := some (.int (1 : Int32))) (fun h => by rw [Bd.returns] at h; cases h)
         subst hS0
         refine ⟨_, _, pre275 _ ?_, hrun, hended, _, _, rfl, ?_, ⟨_, rfl⟩, hW, hsame.mono (by decide) (by decide)⟩
         ·
          refine XS.aload X264.here hx rfl (hb hby at_131) rfl rfl ?_
          refine XS.lload X264.here hx rfl (hb hby at_133) rfl ?_
          refine XS.iload X264.here hx rfl (hb hby at_135) rfl ?_
          show AT p e below T264 m 137 #[jv q0, se, iv p1, iv p2, iv p3, jv q4, se, iv p5, iv lk0, iv wh0, iv lk1, iv wh1, jv tm1, se, rv b19, jv (if wh1 = (0 : Int32) then (if wh0 = (0 : Int32) then (0 : Int64) else q0) else tm1), se, jv ((if wh1 = (0 : Int32) then (if wh0 = (0 : Int32) then (0 : Int64) else q0) else tm1) + q4), se, un, un, un] [(.int p5), (.long ((if wh1 = (0 : Int32) then (if wh0 = (0 : Int32) then (0 : Int64) else q0) else tm1) + q4)), (.ref b19)] _
          refine st314.trans ?_
          refine XS.astore X314.here hx rfl (hb hby at_140) rfl rfl (l' := #[jv q0, se, iv p1, iv p2, iv p3, jv q4, se, iv p5, iv lk0, iv wh0, iv lk1, iv wh1, jv tm1, se, rv b19, jv (if wh1 = (0 : Int32) then (if wh0 = (0 : Int32) then (0 : Int64) else q0) else tm1), se, jv ((if wh1 = (0 : Int32) then (if wh0 = (0 : Int32) then (0 : Int64) else q0) else tm1) + q4), se, rv b_314, un, un]) rfl ?_
          refine XS.iload X314.here hx rfl (hb hby at_142) rfl ?_
          show AT p e below T314 m 144 #[jv q0, se, iv p1, iv p2, iv p3, jv q4, se, iv p5, iv lk0, iv wh0, iv lk1, iv wh1, jv tm1, se, rv b19, jv (if wh1 = (0 : Int32) then (if wh0 = (0 : Int32) then (0 : Int64) else q0) else tm1), se, jv ((if wh1 = (0 : Int32) then (if wh0 = (0 : Int32) then (0 : Int64) else q0) else tm1) + q4), se, rv b_314, un, un] [(.int lk0)] _
          refine XS.ifNo X314.here hx rfl (hb hby at_144) rfl (XT.i0_eq_f (hc29 : ¬ (lk0 = (0 : Int32)))) ?_
          show AT p e below T314 m 147 #[jv q0, se, iv p1, iv p2, iv p3, jv q4, se, iv p5, iv lk0, iv wh0, iv lk1, iv wh1, jv tm1, se, rv b19, jv (if wh1 = (0 : Int32) then (if wh0 = (0 : Int32) then (0 : Int64) else q0) else tm1), se, jv ((if wh1 = (0 : Int32) then (if wh0 = (0 : Int32) then (0 : Int64) else q0) else tm1) + q4), se, rv b_314, un, un] [] _
          refine XS.iloadN X314.here hx rfl (hb hby at_147) rfl ?_
          show AT p e below T314 m 148 #[jv q0, se, iv p1, iv p2, iv p3, jv q4, se, iv p5, iv lk0, iv wh0, iv lk1, iv wh1, jv tm1, se, rv b19, jv (if wh1 = (0 : Int32) then (if wh0 = (0 : Int32) then (0 : Int64) else q0) else tm1), se, jv ((if wh1 = (0 : Int32) then (if wh0 = (0 : Int32) then (0 : Int64) else q0) else tm1) + q4), se, rv b_314, un, un] [(.int p1)] _
          refine XS.ifNo X314.here hx rfl (hb hby at_148) rfl (XT.i0_le_f (hc113 : (0 : Int32) < p1)) ?_
          refine XS.iconst X314.here hx rfl (hb hby at_151) ?_
          refine XS.istore X314.here hx rfl (hb hby at_152) rfl (l' := #[jv q0, se, iv p1, iv p2, iv p3, jv q4, se, iv p5, iv lk0, iv wh0, iv lk1, iv wh1, jv tm1, se, rv b19, jv (if wh1 = (0 : Int32) then (if wh0 = (0 : Int32) then (0 : Int64) else q0) else tm1), se, jv ((if wh1 = (0 : Int32) then (if wh0 = (0 : Int32) then (0 : Int64) else q0) else tm1) + q4), se, rv b_314, iv (1 : Int32), un]) rfl ?_
          show AT p e below T314 m 154 #[jv q0, se, iv p1, iv p2, iv p3, jv q4, se, iv p5, iv lk0, iv wh0, iv lk1, iv wh1, jv tm1, se, rv b19, jv (if wh1 = (0 : Int32) then (if wh0 = (0 : Int32) then (0 : Int64) else q0) else tm1), se, jv ((if wh1 = (0 : Int32) then (if wh0 = (0 : Int32) then (0 : Int64) else q0) else tm1) + q4), se, rv b_314, iv (1 : Int32), un] [] _
          refine XS.iloadN X314.here hx rfl (hb hby at_154) rfl ?_
          refine XS.istore X314.here hx rfl (hb hby at_155) rfl (l' := #[jv q0, se, iv p1, iv p2, iv p3, jv q4, se, iv p5, iv lk0, iv wh0, iv lk1, iv wh1, jv tm1, se, rv b19, jv (if wh1 = (0 : Int32) then (if wh0 = (0 : Int32) then (0 : Int64) else q0) else tm1), se, jv ((if wh1 = (0 : Int32) then (if wh0 = (0 : Int32) then (0 : Int64) else q0) else tm1) + q4), se, rv b_314, iv (1 : Int32), iv p1]) rfl ?_
          refine XS.goto X314.here hx rfl (pc0 := 157) (pc' := 184) rfl (hb hby at_157) (by decide) (by decide) ?_
          show AT p e below T314 m 184 #[jv q0, se, iv p1, iv p2, iv p3, jv q4, se, iv p5, iv lk0, iv wh0, iv lk1, iv wh1, jv tm1, se, rv b19, jv (if wh1 = (0 : Int32) then (if wh0 = (0 : Int32) then (0 : Int64) else q0) else tm1), se, jv ((if wh1 = (0 : Int32) then (if wh0 = (0 : Int32) then (0 : Int64) else q0) else tm1) + q4), se, rv b_314, iv (1 : Int32), iv p1] [] _
          refine XS.iload X314.here hx rfl (hb hby at_184) rfl ?_
          show AT p e below T314 m 186 #[jv q0, se, iv p1, iv p2, iv p3, jv q4, se, iv p5, iv lk0, iv wh0, iv lk1, iv wh1, jv tm1, se, rv b19, jv (if wh1 = (0 : Int32) then (if wh0 = (0 : Int32) then (0 : Int64) else q0) else tm1), se, jv ((if wh1 = (0 : Int32) then (if wh0 = (0 : Int32) then (0 : Int64) else q0) else tm1) + q4), se, rv b_314, iv (1 : Int32), iv p1] [(.int (1 : Int32))] _
          refine XS.ifNo X314.here hx rfl (hb hby at_186) rfl (XT.i0_eq_f ((by decide) : ¬ ((1 : Int32) = (0 : Int32)))) ?_
          refine XS.iload X314.here hx rfl (hb hby at_189) rfl ?_
          show AT p e below T314 m 191 #[jv q0, se, iv p1, iv p2, iv p3, jv q4, se, iv p5, iv lk0, iv wh0, iv lk1, iv wh1, jv tm1, se, rv b19, jv (if wh1 = (0 : Int32) then (if wh0 = (0 : Int32) then (0 : Int64) else q0) else tm1), se, jv ((if wh1 = (0 : Int32) then (if wh0 = (0 : Int32) then (0 : Int64) else q0) else tm1) + q4), se, rv b_314, iv (1 : Int32), iv p1] [(.int p5)] _
          refine XS.ifNo X314.here hx rfl (hb hby at_191) rfl (XT.i0_le_f (hc276 : (0 : Int32) < p5)) ?_
          refine XS.lload X314.here hx rfl (hb hby at_194) rfl ?_
          show AT p e below T314 m 196 #[jv q0, se, iv p1, iv p2, iv p3, jv q4, se, iv p5, iv lk0, iv wh0, iv lk1, iv wh1, jv tm1, se, rv b19, jv (if wh1 = (0 : Int32) then (if wh0 = (0 : Int32) then (0 : Int64) else q0) else tm1), se, jv ((if wh1 = (0 : Int32) then (if wh0 = (0 : Int32) then (0 : Int64) else q0) else tm1) + q4), se, rv b_314, iv (1 : Int32), iv p1] [(.long q4)] _
          refine X314.ldc2Long hx hown (mvT hZ (ow hw 123 rfl)) (g := (mkF m 196 #[jv q0, se, iv p1, iv p2, iv p3, jv q4, se, iv p5, iv lk0, iv wh0, iv lk1, iv wh1, jv tm1, se, rv b19, jv (if wh1 = (0 : Int32) then (if wh0 = (0 : Int32) then (0 : Int64) else q0) else tm1), se, jv ((if wh1 = (0 : Int32) then (if wh0 = (0 : Int32) then (0 : Int64) else q0) else tm1) + q4), se, rv b_314, iv (1 : Int32), iv p1] [(.long q4)])) rfl (hb hby at_196) _ ?_
          refine XS.lcmp X314.here hx rfl (hb hby at_199) rfl ?_
          show AT p e below T314 m 200 #[jv q0, se, iv p1, iv p2, iv p3, jv q4, se, iv p5, iv lk0, iv wh0, iv lk1, iv wh1, jv tm1, se, rv b19, jv (if wh1 = (0 : Int32) then (if wh0 = (0 : Int32) then (0 : Int64) else q0) else tm1), se, jv ((if wh1 = (0 : Int32) then (if wh0 = (0 : Int32) then (0 : Int64) else q0) else tm1) + q4), se, rv b_314, iv (1 : Int32), iv p1] [(.int (XT.cmpL q4 (600000000000 : Int64)))] _
          refine XS.ifYes X314.here hx rfl (pc0 := 200) (pc' := 214) rfl (hb hby at_200) rfl (XT.ll_lt_t (hc277 : q4 < (600000000000 : Int64))) (by decide) (by decide) ?_
          refine XS.iload X314.here hx rfl (hb hby at_214) rfl ?_
          show AT p e below T314 m 216 #[jv q0, se, iv p1, iv p2, iv p3, jv q4, se, iv p5, iv lk0, iv wh0, iv lk1, iv wh1, jv tm1, se, rv b19, jv (if wh1 = (0 : Int32) then (if wh0 = (0 : Int32) then (0 : Int64) else q0) else tm1), se, jv ((if wh1 = (0 : Int32) then (if wh0 = (0 : Int32) then (0 : Int64) else q0) else tm1) + q4), se, rv b_314, iv (1 : Int32), iv p1] [(.int p1)] _
          refine XS.iload X314.here hx rfl (hb hby at_216) rfl ?_
          show AT p e below T314 m 218 #[jv q0, se, iv p1, iv p2, iv p3, jv q4, se, iv p5, iv lk0, iv wh0, iv lk1, iv wh1, jv tm1, se, rv b19, jv (if wh1 = (0 : Int32) then (if wh0 = (0 : Int32) then (0 : Int64) else q0) else tm1), se, jv ((if wh1 = (0 : Int32) then (if wh0 = (0 : Int32) then (0 : Int64) else q0) else tm1) + q4), se, rv b_314, iv (1 : Int32), iv p1] [(.int p5), (.int p1)] _
          refine XS.icmpYes X314.here hx rfl (pc0 := 218) (pc' := 236) rfl (hb hby at_218) rfl (XT.ii_ge_t (hc278 : ¬ (p1 < p5))) (by decide) (by decide) ?_
          refine XS.iload X314.here hx rfl (hb hby at_236) rfl ?_
          refine XS.iload X314.here hx rfl (hb hby at_238) rfl ?_
          show AT p e below T314 m 240 #[jv q0, se, iv p1, iv p2, iv p3, jv q4, se, iv p5, iv lk0, iv wh0, iv lk1, iv wh1, jv tm1, se, rv b19, jv (if wh1 = (0 : Int32) then (if wh0 = (0 : Int32) then (0 : Int64) else q0) else tm1), se, jv ((if wh1 = (0 : Int32) then (if wh0 = (0 : Int32) then (0 : Int64) else q0) else tm1) + q4), se, rv b_314, iv (1 : Int32), iv p1] [(.int p5), (.int p1)] _
          refine XS.icmpYes X314.here hx rfl (pc0 := 240) (pc' := 259) rfl (hb hby at_240) rfl (XT.ii_le_t (hc296 : ¬ (p5 < p1))) (by decide) (by decide) ?_
          show AT p e below T314 m 259 #[jv q0, se, iv p1, iv p2, iv p3, jv q4, se, iv p5, iv lk0, iv wh0, iv lk1, iv wh1, jv tm1, se, rv b19, jv (if wh1 = (0 : Int32) then (if wh0 = (0 : Int32) then (0 : Int64) else q0) else tm1), se, jv ((if wh1 = (0 : Int32) then (if wh0 = (0 : Int32) then (0 : Int64) else q0) else tm1) + q4), se, rv b_314, iv (1 : Int32), iv p1] [] _
          refine XS.aload X314.here hx rfl (hb hby at_259) rfl rfl ?_
          refine XS.iconst X314.here hx rfl (hb hby at_261) ?_
          refine XS.iconst X314.here hx rfl (hb hby at_262) ?_
          show AT p e below T314 m 263 #[jv q0, se, iv p1, iv p2, iv p3, jv q4, se, iv p5, iv lk0, iv wh0, iv lk1, iv wh1, jv tm1, se, rv b19, jv (if wh1 = (0 : Int32) then (if wh0 = (0 : Int32) then (0 : Int64) else q0) else tm1), se, jv ((if wh1 = (0 : Int32) then (if wh0 = (0 : Int32) then (0 : Int64) else q0) else tm1) + q4), se, rv b_314, iv (1 : Int32), iv p1] [(.int (0 : Int32)), (.int (0 : Int32)), (.ref b_314)] _
          refine XS.iconst X314.here hx rfl (hb hby at_263) ?_
          refine XS.iconst X314.here hx rfl (hb hby at_264) ?_
          refine XS.iconst X314.here hx rfl (hb hby at_265) ?_
          show AT p e below T314 m 266 #[jv q0, se, iv p1, iv p2, iv p3, jv q4, se, iv p5, iv lk0, iv wh0, iv lk1, iv wh1, jv tm1, se, rv b19, jv (if wh1 = (0 : Int32) then (if wh0 = (0 : Int32) then (0 : Int64) else q0) else tm1), se, jv ((if wh1 = (0 : Int32) then (if wh0 = (0 : Int32) then (0 : Int64) else q0) else tm1) + q4), se, rv b_314, iv (1 : Int32), iv p1] [(.int (0 : Int32)), (.int (0 : Int32)), (.int (0 : Int32)), (.int (0 : Int32)), (.int (0 : Int32)), (.ref b_314)] _
          refine st330 _ ?_
          exact retN X330 hx (t := .boolean) Bd.returns (by simp) (hb hby at_269) hr
         ·
          show Q0 Z q0 p1 p2 p3 q4 p5 h0 n0 _ T330.heap _
          rw [e330]
          exact ⟨rfl, N330⟩
      ·
       obtain ⟨cq331, kq331, q331a, q331b, q331c⟩ := isOf hZ rfl E264_265
       obtain ⟨_, _, ⟨T331, L331, k331, n331⟩, -, X331, ⟨Lc331, hQ331, l331, y331, z331⟩, st331⟩ := X264.virtualBack hx (y := y5) (z := y5) hown (mvT hZ (ow hw 28 rfl)) (mvT hZ (ow hw 29 rfl)) (notFace_of_selects (args := #[]) (mvT hZ (ow hw 31 rfl))) (mvT hZ (ow hw 31 rfl)) (mvT hZ (ow hw 30 rfl)) (by decide) (backOf (W := 0) (rm5_1b l Z ar hw [] b19 ((if wh1 = (0 : Int32) then (if wh0 = (0 : Int32) then (0 : Int64) else q0) else tm1) + q4) p5 (if wh1 = (0 : Int32) then (if wh0 = (0 : Int32) then (0 : Int64) else q0) else tm1) dq_22 es_22 ke_22 nw_114 kn_114 q0 p1 T264.heap n0 O264 HW E264_265 u264_2 u264_1 E264_266 F264_267 F264_268 F264_269 V264_270 E264_271 V264_272 hc276 (by rw [own_wd]; exact hc277)) hZ (ow hw 32 rfl) (ow hw 2 rfl) (by decide) (by decide)) q331a q331c (g := (mkF m 137 #[jv q0, se, iv p1, iv p2, iv p3, jv q4, se, iv p5, iv lk0, iv wh0, iv lk1, iv wh1, jv tm1, se, rv b19, jv (if wh1 = (0 : Int32) then (if wh0 = (0 : Int32) then (0 : Int64) else q0) else tm1), se, jv ((if wh1 = (0 : Int32) then (if wh0 = (0 : Int32) then (0 : Int64) else q0) else tm1) + q4), se, un, un, un] [(.int p5), (.long ((if wh1 = (0 : Int32) then (if wh0 = (0 : Int32) then (0 : Int64) else q0) else tm1) + q4)), (.ref b19)])) rfl (by rw [hml]; rfl) (Steps.refl _) (argsL := [(.long ((if wh1 = (0 : Int32) then (if wh0 = (0 : Int32) then (0 : Int64) else q0) else tm1) + q4)), (.int p5)]) (rest := []) (lenOf pd_11 rfl) rfl (by show 2 * 0 + _ ≤ _; exact Nat.le_of_eq rfl) (hb hby at_137) (fun _ _ => ⟨rfl, rfl, (by decide : 4 + 0 ≤ _), (by decide : 24 + 0 ≤ _)⟩)
       dsimp only [Pt.U, Pt.locs, Pt.cells, Pt.slots] at X331 l331 y331 z331 st331 hQ331
       subst l331 y331 z331
       obtain ⟨rfl, N331q, e331⟩ := hQ331
       have N331 := Fr.app N264 N331q
       obtain ⟨fs, hr, hrun, hended, hW, hsame⟩ := X331.leave (v := some (.int (1 : Int32))) (fun h => by rw [Bd.returns] at h; cases h)
       subst hS0
       refine ⟨_, _, pre275 _ ?_, hrun, hended, _, _, rfl, ?_, ⟨_, rfl⟩, hW, hsame.mono (by decide) (by decide)⟩
       ·
        refine XS.aload X264.here hx rfl (hb hby at_131) rfl rfl ?_
        refine XS.lload X264.here hx rfl (hb hby at_133) rfl ?_
        refine XS.iload X264.here hx rfl (hb hby at_135) rfl ?_
        show AT p e below T264 m 137 #[jv q0, se, iv p1, iv p2, iv p3, jv q4, se, iv p5, iv lk0, iv wh0, iv lk1, iv wh1, jv tm1, se, rv b19, jv (if wh1 = (0 : Int32) then (if wh0 = (0 : Int32) then (0 : Int64) else q0) else tm1), se, jv ((if wh1 = (0 : Int32) then (if wh0 = (0 : Int32) then (0 : Int64) else q0) else tm1) + q4), se, un, un, un] [(.int p5), (.long ((if wh1 = (0 : Int32) then (if wh0 = (0 : Int32) then (0 : Int64) else q0) else tm1) + q4)), (.ref b19)] _
        refine st331.trans ?_
        refine XS.astore X331.here hx rfl (hb hby at_140) rfl rfl (l' := #[jv q0, se, iv p1, iv p2, iv p3, jv q4, se, iv p5, iv lk0, iv wh0, iv lk1, iv wh1, jv tm1, se, rv b19, jv (if wh1 = (0 : Int32) then (if wh0 = (0 : Int32) then (0 : Int64) else q0) else tm1), se, jv ((if wh1 = (0 : Int32) then (if wh0 = (0 : Int32) then (0 : Int64) else q0) else tm1) + q4), se, .val .null, un, un]) rfl ?_
        refine XS.iload X331.here hx rfl (hb hby at_142) rfl ?_
        show AT p e below T331 m 144 #[jv q0, se, iv p1, iv p2, iv p3, jv q4, se, iv p5, iv lk0, iv wh0, iv lk1, iv wh1, jv tm1, se, rv b19, jv (if wh1 = (0 : Int32) then (if wh0 = (0 : Int32) then (0 : Int64) else q0) else tm1), se, jv ((if wh1 = (0 : Int32) then (if wh0 = (0 : Int32) then (0 : Int64) else q0) else tm1) + q4), se, .val .null, un, un] [(.int lk0)] _
        refine XS.ifNo X331.here hx rfl (hb hby at_144) rfl (XT.i0_eq_f (hc29 : ¬ (lk0 = (0 : Int32)))) ?_
        show AT p e below T331 m 147 #[jv q0, se, iv p1, iv p2, iv p3, jv q4, se, iv p5, iv lk0, iv wh0, iv lk1, iv wh1, jv tm1, se, rv b19, jv (if wh1 = (0 : Int32) then (if wh0 = (0 : Int32) then (0 : Int64) else q0) else tm1), se, jv ((if wh1 = (0 : Int32) then (if wh0 = (0 : Int32) then (0 : Int64) else q0) else tm1) + q4), se, .val .null, un, un] [] _
        refine XS.iloadN X331.here hx rfl (hb hby at_147) rfl ?_
        show AT p e below T331 m 148 #[jv q0, se, iv p1, iv p2, iv p3, jv q4, se, iv p5, iv lk0, iv wh0, iv lk1, iv wh1, jv tm1, se, rv b19, jv (if wh1 = (0 : Int32) then (if wh0 = (0 : Int32) then (0 : Int64) else q0) else tm1), se, jv ((if wh1 = (0 : Int32) then (if wh0 = (0 : Int32) then (0 : Int64) else q0) else tm1) + q4), se, .val .null, un, un] [(.int p1)] _
        refine XS.ifNo X331.here hx rfl (hb hby at_148) rfl (XT.i0_le_f (hc113 : (0 : Int32) < p1)) ?_
        refine XS.iconst X331.here hx rfl (hb hby at_151) ?_
        refine XS.istore X331.here hx rfl (hb hby at_152) rfl (l' := #[jv q0, se, iv p1, iv p2, iv p3, jv q4, se, iv p5, iv lk0, iv wh0, iv lk1, iv wh1, jv tm1, se, rv b19, jv (if wh1 = (0 : Int32) then (if wh0 = (0 : Int32) then (0 : Int64) else q0) else tm1), se, jv ((if wh1 = (0 : Int32) then (if wh0 = (0 : Int32) then (0 : Int64) else q0) else tm1) + q4), se, .val .null, iv (1 : Int32), un]) rfl ?_
        show AT p e below T331 m 154 #[jv q0, se, iv p1, iv p2, iv p3, jv q4, se, iv p5, iv lk0, iv wh0, iv lk1, iv wh1, jv tm1, se, rv b19, jv (if wh1 = (0 : Int32) then (if wh0 = (0 : Int32) then (0 : Int64) else q0) else tm1), se, jv ((if wh1 = (0 : Int32) then (if wh0 = (0 : Int32) then (0 : Int64) else q0) else tm1) + q4), se, .val .null, iv (1 : Int32), un] [] _
        refine XS.iloadN X331.here hx rfl (hb hby at_154) rfl ?_
        refine XS.istore X331.here hx rfl (hb hby at_155) rfl (l' := #[jv q0, se, iv p1, iv p2, iv p3, jv q4, se, iv p5, iv lk0, iv wh0, iv lk1, iv wh1, jv tm1, se, rv b19, jv (if wh1 = (0 : Int32) then (if wh0 = (0 : Int32) then (0 : Int64) else q0) else tm1), se, jv ((if wh1 = (0 : Int32) then (if wh0 = (0 : Int32) then (0 : Int64) else q0) else tm1) + q4), se, .val .null, iv (1 : Int32), iv p1]) rfl ?_
        refine XS.goto X331.here hx rfl (pc0 := 157) (pc' := 184) rfl (hb hby at_157) (by decide) (by decide) ?_
        show AT p e below T331 m 184 #[jv q0, se, iv p1, iv p2, iv p3, jv q4, se, iv p5, iv lk0, iv wh0, iv lk1, iv wh1, jv tm1, se, rv b19, jv (if wh1 = (0 : Int32) then (if wh0 = (0 : Int32) then (0 : Int64) else q0) else tm1), se, jv ((if wh1 = (0 : Int32) then (if wh0 = (0 : Int32) then (0 : Int64) else q0) else tm1) + q4), se, .val .null, iv (1 : Int32), iv p1] [] _
        refine XS.iload X331.here hx rfl (hb hby at_184) rfl ?_
        show AT p e below T331 m 186 #[jv q0, se, iv p1, iv p2, iv p3, jv q4, se, iv p5, iv lk0, iv wh0, iv lk1, iv wh1, jv tm1, se, rv b19, jv (if wh1 = (0 : Int32) then (if wh0 = (0 : Int32) then (0 : Int64) else q0) else tm1), se, jv ((if wh1 = (0 : Int32) then (if wh0 = (0 : Int32) then (0 : Int64) else q0) else tm1) + q4), se, .val .null, iv (1 : Int32), iv p1] [(.int (1 : Int32))] _
        refine XS.ifNo X331.here hx rfl (hb hby at_186) rfl (XT.i0_eq_f ((by decide) : ¬ ((1 : Int32) = (0 : Int32)))) ?_
        refine XS.iload X331.here hx rfl (hb hby at_189) rfl ?_
        show AT p e below T331 m 191 #[jv q0, se, iv p1, iv p2, iv p3, jv q4, se, iv p5, iv lk0, iv wh0, iv lk1, iv wh1, jv tm1, se, rv b19, jv (if wh1 = (0 : Int32) then (if wh0 = (0 : Int32) then (0 : Int64) else q0) else tm1), se, jv ((if wh1 = (0 : Int32) then (if wh0 = (0 : Int32) then (0 : Int64) else q0) else tm1) + q4), se, .val .null, iv (1 : Int32), iv p1] [(.int p5)] _
        refine XS.ifNo X331.here hx rfl (hb hby at_191) rfl (XT.i0_le_f (hc276 : (0 : Int32) < p5)) ?_
        refine XS.lload X331.here hx rfl (hb hby at_194) rfl ?_
        show AT p e below T331 m 196 #[jv q0, se, iv p1, iv p2, iv p3, jv q4, se, iv p5, iv lk0, iv wh0, iv lk1, iv wh1, jv tm1, se, rv b19, jv (if wh1 = (0 : Int32) then (if wh0 = (0 : Int32) then (0 : Int64) else q0) else tm1), se, jv ((if wh1 = (0 : Int32) then (if wh0 = (0 : Int32) then (0 : Int64) else q0) else tm1) + q4), se, .val .null, iv (1 : Int32), iv p1] [(.long q4)] _
        refine X331.ldc2Long hx hown (mvT hZ (ow hw 123 rfl)) (g := (mkF m 196 #[jv q0, se, iv p1, iv p2, iv p3, jv q4, se, iv p5, iv lk0, iv wh0, iv lk1, iv wh1, jv tm1, se, rv b19, jv (if wh1 = (0 : Int32) then (if wh0 = (0 : Int32) then (0 : Int64) else q0) else tm1), se, jv ((if wh1 = (0 : Int32) then (if wh0 = (0 : Int32) then (0 : Int64) else q0) else tm1) + q4), se, .val .null, iv (1 : Int32), iv p1] [(.long q4)])) rfl (hb hby at_196) _ ?_
        refine XS.lcmp X331.here hx rfl (hb hby at_199) rfl ?_
        show AT p e below T331 m 200 #[jv q0, se, iv p1, iv p2, iv p3, jv q4, se, iv p5, iv lk0, iv wh0, iv lk1, iv wh1, jv tm1, se, rv b19, jv (if wh1 = (0 : Int32) then (if wh0 = (0 : Int32) then (0 : Int64) else q0) else tm1), se, jv ((if wh1 = (0 : Int32) then (if wh0 = (0 : Int32) then (0 : Int64) else q0) else tm1) + q4), se, .val .null, iv (1 : Int32), iv p1] [(.int (XT.cmpL q4 (600000000000 : Int64)))] _
        refine XS.ifNo X331.here hx rfl (hb hby at_200) rfl (XT.ll_lt_f (hc277 : ¬ (q4 < (600000000000 : Int64)))) ?_
        refine XS.aload X331.here hx rfl (hb hby at_203) rfl rfl ?_
        show AT p e below T331 m 205 #[jv q0, se, iv p1, iv p2, iv p3, jv q4, se, iv p5, iv lk0, iv wh0, iv lk1, iv wh1, jv tm1, se, rv b19, jv (if wh1 = (0 : Int32) then (if wh0 = (0 : Int32) then (0 : Int64) else q0) else tm1), se, jv ((if wh1 = (0 : Int32) then (if wh0 = (0 : Int32) then (0 : Int64) else q0) else tm1) + q4), se, .val .null, iv (1 : Int32), iv p1] [.null] _
        refine XS.ifnonnullNo X331.here hx rfl (hb hby at_205) rfl ?_
        show AT p e below T331 m 208 #[jv q0, se, iv p1, iv p2, iv p3, jv q4, se, iv p5, iv lk0, iv wh0, iv lk1, iv wh1, jv tm1, se, rv b19, jv (if wh1 = (0 : Int32) then (if wh0 = (0 : Int32) then (0 : Int64) else q0) else tm1), se, jv ((if wh1 = (0 : Int32) then (if wh0 = (0 : Int32) then (0 : Int64) else q0) else tm1) + q4), se, .val .null, iv (1 : Int32), iv p1] [] _
        refine XS.iconst X331.here hx rfl (hb hby at_208) ?_
        refine XS.goto X331.here hx rfl (pc0 := 209) (pc' := 213) rfl (hb hby at_209) (by decide) (by decide) ?_
        exact retN X331 hx (t := .boolean) Bd.returns (by simp) (hb hby at_213) hr
       ·
        show Q0 Z q0 p1 p2 p3 q4 p5 h0 n0 _ T331.heap _
        rw [e331]
        exact ⟨rfl, N331⟩
     ·
      obtain ⟨cq332, kq332, q332a, q332b, q332c⟩ := isOf hZ rfl E264_265
      obtain ⟨_, _, ⟨T332, L332, k332, n332⟩, -, X332, ⟨Lc332, hQ332, l332, y332, z332⟩, st332⟩ := X264.virtualBack hx (y := y5) (z := y5) hown (mvT hZ (ow hw 28 rfl)) (mvT hZ (ow hw 29 rfl)) (notFace_of_selects (args := #[]) (mvT hZ (ow hw 31 rfl))) (mvT hZ (ow hw 31 rfl)) (mvT hZ (ow hw 30 rfl)) (by decide) (backOf (W := 0) (rm5_1a l Z ar hw [] b19 ((if wh1 = (0 : Int32) then (if wh0 = (0 : Int32) then (0 : Int64) else q0) else tm1) + q4) p5 (if wh1 = (0 : Int32) then (if wh0 = (0 : Int32) then (0 : Int64) else q0) else tm1) dq_22 es_22 ke_22 nw_114 kn_114 q0 p1 T264.heap n0 O264 E264_265 u264_2 u264_1 E264_266 F264_267 F264_268 F264_269 V264_270 E264_271 V264_272 hc276) hZ (ow hw 32 rfl) (ow hw 2 rfl) (by decide) (by decide)) q332a q332c (g := (mkF m 137 #[jv q0, se, iv p1, iv p2, iv p3, jv q4, se, iv p5, iv lk0, iv wh0, iv lk1, iv wh1, jv tm1, se, rv b19, jv (if wh1 = (0 : Int32) then (if wh0 = (0 : Int32) then (0 : Int64) else q0) else tm1), se, jv ((if wh1 = (0 : Int32) then (if wh0 = (0 : Int32) then (0 : Int64) else q0) else tm1) + q4), se, un, un, un] [(.int p5), (.long ((if wh1 = (0 : Int32) then (if wh0 = (0 : Int32) then (0 : Int64) else q0) else tm1) + q4)), (.ref b19)])) rfl (by rw [hml]; rfl) (Steps.refl _) (argsL := [(.long ((if wh1 = (0 : Int32) then (if wh0 = (0 : Int32) then (0 : Int64) else q0) else tm1) + q4)), (.int p5)]) (rest := []) (lenOf pd_11 rfl) rfl (by show 2 * 0 + _ ≤ _; exact Nat.le_of_eq rfl) (hb hby at_137) (fun _ _ => ⟨rfl, rfl, (by decide : 4 + 0 ≤ _), (by decide : 24 + 0 ≤ _)⟩)
      dsimp only [Pt.U, Pt.locs, Pt.cells, Pt.slots] at X332 l332 y332 z332 st332 hQ332
      subst l332 y332 z332
      obtain ⟨rfl, N332q, e332⟩ := hQ332
      have N332 := Fr.app N264 N332q
      obtain ⟨fs, hr, hrun, hended, hW, hsame⟩ := X332.leave (v := some (.int (1 : Int32))) (fun h => by rw [Bd.returns] at h; cases h)
      subst hS0
      refine ⟨_, _, pre275 _ ?_, hrun, hended, _, _, rfl, ?_, ⟨_, rfl⟩, hW, hsame.mono (by decide) (by decide)⟩
      ·
       refine XS.aload X264.here hx rfl (hb hby at_131) rfl rfl ?_
       refine XS.lload X264.here hx rfl (hb hby at_133) rfl ?_
       refine XS.iload X264.here hx rfl (hb hby at_135) rfl ?_
       show AT p e below T264 m 137 #[jv q0, se, iv p1, iv p2, iv p3, jv q4, se, iv p5, iv lk0, iv wh0, iv lk1, iv wh1, jv tm1, se, rv b19, jv (if wh1 = (0 : Int32) then (if wh0 = (0 : Int32) then (0 : Int64) else q0) else tm1), se, jv ((if wh1 = (0 : Int32) then (if wh0 = (0 : Int32) then (0 : Int64) else q0) else tm1) + q4), se, un, un, un] [(.int p5), (.long ((if wh1 = (0 : Int32) then (if wh0 = (0 : Int32) then (0 : Int64) else q0) else tm1) + q4)), (.ref b19)] _
       refine st332.trans ?_
       refine XS.astore X332.here hx rfl (hb hby at_140) rfl rfl (l' := #[jv q0, se, iv p1, iv p2, iv p3, jv q4, se, iv p5, iv lk0, iv wh0, iv lk1, iv wh1, jv tm1, se, rv b19, jv (if wh1 = (0 : Int32) then (if wh0 = (0 : Int32) then (0 : Int64) else q0) else tm1), se, jv ((if wh1 = (0 : Int32) then (if wh0 = (0 : Int32) then (0 : Int64) else q0) else tm1) + q4), se, .val .null, un, un]) rfl ?_
       refine XS.iload X332.here hx rfl (hb hby at_142) rfl ?_
       show AT p e below T332 m 144 #[jv q0, se, iv p1, iv p2, iv p3, jv q4, se, iv p5, iv lk0, iv wh0, iv lk1, iv wh1, jv tm1, se, rv b19, jv (if wh1 = (0 : Int32) then (if wh0 = (0 : Int32) then (0 : Int64) else q0) else tm1), se, jv ((if wh1 = (0 : Int32) then (if wh0 = (0 : Int32) then (0 : Int64) else q0) else tm1) + q4), se, .val .null, un, un] [(.int lk0)] _
       refine XS.ifNo X332.here hx rfl (hb hby at_144) rfl (XT.i0_eq_f (hc29 : ¬ (lk0 = (0 : Int32)))) ?_
       show AT p e below T332 m 147 #[jv q0, se, iv p1, iv p2, iv p3, jv q4, se, iv p5, iv lk0, iv wh0, iv lk1, iv wh1, jv tm1, se, rv b19, jv (if wh1 = (0 : Int32) then (if wh0 = (0 : Int32) then (0 : Int64) else q0) else tm1), se, jv ((if wh1 = (0 : Int32) then (if wh0 = (0 : Int32) then (0 : Int64) else q0) else tm1) + q4), se, .val .null, un, un] [] _
       refine XS.iloadN X332.here hx rfl (hb hby at_147) rfl ?_
       show AT p e below T332 m 148 #[jv q0, se, iv p1, iv p2, iv p3, jv q4, se, iv p5, iv lk0, iv wh0, iv lk1, iv wh1, jv tm1, se, rv b19, jv (if wh1 = (0 : Int32) then (if wh0 = (0 : Int32) then (0 : Int64) else q0) else tm1), se, jv ((if wh1 = (0 : Int32) then (if wh0 = (0 : Int32) then (0 : Int64) else q0) else tm1) + q4), se, .val .null, un, un] [(.int p1)] _
       refine XS.ifNo X332.here hx rfl (hb hby at_148) rfl (XT.i0_le_f (hc113 : (0 : Int32) < p1)) ?_
       refine XS.iconst X332.here hx rfl (hb hby at_151) ?_
       refine XS.istore X332.here hx rfl (hb hby at_152) rfl (l' := #[jv q0, se, iv p1, iv p2, iv p3, jv q4, se, iv p5, iv lk0, iv wh0, iv lk1, iv wh1, jv tm1, se, rv b19, jv (if wh1 = (0 : Int32) then (if wh0 = (0 : Int32) then (0 : Int64) else q0) else tm1), se, jv ((if wh1 = (0 : Int32) then (if wh0 = (0 : Int32) then (0 : Int64) else q0) else tm1) + q4), se, .val .null, iv (1 : Int32), un]) rfl ?_
       show AT p e below T332 m 154 #[jv q0, se, iv p1, iv p2, iv p3, jv q4, se, iv p5, iv lk0, iv wh0, iv lk1, iv wh1, jv tm1, se, rv b19, jv (if wh1 = (0 : Int32) then (if wh0 = (0 : Int32) then (0 : Int64) else q0) else tm1), se, jv ((if wh1 = (0 : Int32) then (if wh0 = (0 : Int32) then (0 : Int64) else q0) else tm1) + q4), se, .val .null, iv (1 : Int32), un] [] _
       refine XS.iloadN X332.here hx rfl (hb hby at_154) rfl ?_
       refine XS.istore X332.here hx rfl (hb hby at_155) rfl (l' := #[jv q0, se, iv p1, iv p2, iv p3, jv q4, se, iv p5, iv lk0, iv wh0, iv lk1, iv wh1, jv tm1, se, rv b19, jv (if wh1 = (0 : Int32) then (if wh0 = (0 : Int32) then (0 : Int64) else q0) else tm1), se, jv ((if wh1 = (0 : Int32) then (if wh0 = (0 : Int32) then (0 : Int64) else q0) else tm1) + q4), se, .val .null, iv (1 : Int32), iv p1]) rfl ?_
       refine XS.goto X332.here hx rfl (pc0 := 157) (pc' := 184) rfl (hb hby at_157) (by decide) (by decide) ?_
       show AT p e below T332 m 184 #[jv q0, se, iv p1, iv p2, iv p3, jv q4, se, iv p5, iv lk0, iv wh0, iv lk1, iv wh1, jv tm1, se, rv b19, jv (if wh1 = (0 : Int32) then (if wh0 = (0 : Int32) then (0 : Int64) else q0) else tm1), se, jv ((if wh1 = (0 : Int32) then (if wh0 = (0 : Int32) then (0 : Int64) else q0) else tm1) + q4), se, .val .null, iv (1 : Int32), iv p1] [] _
       refine XS.iload X332.here hx rfl (hb hby at_184) rfl ?_
       show AT p e below T332 m 186 #[jv q0, se, iv p1, iv p2, iv p3, jv q4, se, iv p5, iv lk0, iv wh0, iv lk1, iv wh1, jv tm1, se, rv b19, jv (if wh1 = (0 : Int32) then (if wh0 = (0 : Int32) then (0 : Int64) else q0) else tm1), se, jv ((if wh1 = (0 : Int32) then (if wh0 = (0 : Int32) then (0 : Int64) else q0) else tm1) + q4), se, .val .null, iv (1 : Int32), iv p1] [(.int (1 : Int32))] _
       refine XS.ifNo X332.here hx rfl (hb hby at_186) rfl (XT.i0_eq_f ((by decide) : ¬ ((1 : Int32) = (0 : Int32)))) ?_
       refine XS.iload X332.here hx rfl (hb hby at_189) rfl ?_
       show AT p e below T332 m 191 #[jv q0, se, iv p1, iv p2, iv p3, jv q4, se, iv p5, iv lk0, iv wh0, iv lk1, iv wh1, jv tm1, se, rv b19, jv (if wh1 = (0 : Int32) then (if wh0 = (0 : Int32) then (0 : Int64) else q0) else tm1), se, jv ((if wh1 = (0 : Int32) then (if wh0 = (0 : Int32) then (0 : Int64) else q0) else tm1) + q4), se, .val .null, iv (1 : Int32), iv p1] [(.int p5)] _
       refine XS.ifYes X332.here hx rfl (pc0 := 191) (pc' := 203) rfl (hb hby at_191) rfl (XT.i0_le_t (hc276 : ¬ ((0 : Int32) < p5))) (by decide) (by decide) ?_
       refine XS.aload X332.here hx rfl (hb hby at_203) rfl rfl ?_
       show AT p e below T332 m 205 #[jv q0, se, iv p1, iv p2, iv p3, jv q4, se, iv p5, iv lk0, iv wh0, iv lk1, iv wh1, jv tm1, se, rv b19, jv (if wh1 = (0 : Int32) then (if wh0 = (0 : Int32) then (0 : Int64) else q0) else tm1), se, jv ((if wh1 = (0 : Int32) then (if wh0 = (0 : Int32) then (0 : Int64) else q0) else tm1) + q4), se, .val .null, iv (1 : Int32), iv p1] [.null] _
       refine XS.ifnonnullNo X332.here hx rfl (hb hby at_205) rfl ?_
       show AT p e below T332 m 208 #[jv q0, se, iv p1, iv p2, iv p3, jv q4, se, iv p5, iv lk0, iv wh0, iv lk1, iv wh1, jv tm1, se, rv b19, jv (if wh1 = (0 : Int32) then (if wh0 = (0 : Int32) then (0 : Int64) else q0) else tm1), se, jv ((if wh1 = (0 : Int32) then (if wh0 = (0 : Int32) then (0 : Int64) else q0) else tm1) + q4), se, .val .null, iv (1 : Int32), iv p1] [] _
       refine XS.iconst X332.here hx rfl (hb hby at_208) ?_
       refine XS.goto X332.here hx rfl (pc0 := 209) (pc' := 213) rfl (hb hby at_209) (by decide) (by decide) ?_
       exact retN X332 hx (t := .boolean) Bd.returns (by simp) (hb hby at_213) hr
      ·
       show Q0 Z q0 p1 p2 p3 q4 p5 h0 n0 _ T332.heap _
       rw [e332]
       exact ⟨rfl, N332⟩
  ·
   obtain ⟨cq333, kq333, q333a, q333b, q333c⟩ := isOf hZ rfl E22_23
   obtain ⟨_, _, ⟨T333, L333, k333, n333⟩, -, X333, ⟨Lc333, hQ333, l333, y333, z333⟩, st333⟩ := X22.virtualBack hx (y := y7) (z := y7) hown (mvT hZ (ow hw 42 rfl)) (mvT hZ (ow hw 43 rfl)) (notFace_of_selects (args := #[]) (mvT hZ (ow hw 45 rfl))) (mvT hZ (ow hw 45 rfl)) (mvT hZ (ow hw 44 rfl)) (by decide) (backOf (W := 0) (rm7_00 l Z ar hw [] b19 q0 p1 wh0 (0 : Int64) dq_22 es_22 ke_22 T22.heap n0 O22 E22_23 u22_2 u22_1 u22_3 u22_4 u22_5 u22_6 u22_7 u22_8 gn19 gn24 gn26 u22_11 u22_12 u22_13 hc113) hZ (ow hw 46 rfl) (ow hw 2 rfl) (by decide) (by decide)) q333a q333c (g := (mkF m 89 #[jv q0, se, iv p1, iv p2, iv p3, jv q4, se, iv p5, iv lk0, iv wh0, iv lk1, iv wh1, jv tm1, se, rv b19, jv (0 : Int64), se, un, un, un, un, un] [(.int wh0), (.int p1), (.long q0), (.ref b19)])) rfl (by rw [hml]; rfl) (Steps.refl _) (argsL := [(.long q0), (.int p1), (.int wh0)]) (rest := []) (lenOf pd_12 rfl) rfl (by show 2 * 0 + _ ≤ _; exact Nat.le_of_eq rfl) (hb hby at_89) (fun _ _ => ⟨rfl, rfl, (by decide : 3 + 0 ≤ _), (by decide : 22 + 0 ≤ _)⟩)
   dsimp only [Pt.U, Pt.locs, Pt.cells, Pt.slots] at X333 l333 y333 z333 st333 hQ333
   subst l333 y333 z333
   obtain ⟨rfl, N333q, Kq333, u333_0, u333_1, u333_2⟩ := hQ333
   have N333 := Fr.app N22 N333q
   have E333_334 := E22_23.keep Kq333
   have E333_335 := u22_3.keep Kq333
   have F333_336 := u22_4.keep Kq333 (ninS (Ne.symm u22_11) nin0)
   have F333_337 := u22_5.keep Kq333 (ninS (Ne.symm u22_11) nin0)
   have F333_338 := u22_6.keep Kq333 (ninS (Ne.symm u22_11) nin0)
   have V333_339 := u22_7.keep Kq333 (ninS (Ne.symm u22_12) nin0)
   have K333 := K22.trans Kq333 (allS (Or.inr sz19) all0)
   have O333 := O22.keep Kq333 (allS gn19 all0)
   have pre340 : ∀ tg, AT p e below T333 m 94 #[jv q0, se, iv p1, iv p2, iv p3, jv q4, se, iv p5, iv lk0, iv wh0, iv lk1, iv wh1, jv tm1, se, rv b19, jv (0 : Int64), se, un, un, un, un, un] [(.int wh0)] tg → Steps p.tables e below S0 tg := fun tg kg => pre112 tg (by
    refine XS.aload X22.here hx rfl (hb hby at_83) rfl rfl ?_
    refine XS.lloadN X22.here hx rfl (hb hby at_85) rfl ?_
    refine XS.iloadN X22.here hx rfl (hb hby at_86) rfl ?_
    show AT p e below T22 m 87 #[jv q0, se, iv p1, iv p2, iv p3, jv q4, se, iv p5, iv lk0, iv wh0, iv lk1, iv wh1, jv tm1, se, rv b19, jv (0 : Int64), se, un, un, un, un, un] [(.int p1), (.long q0), (.ref b19)] _
    refine XS.iload X22.here hx rfl (hb hby at_87) rfl ?_
    refine st333.trans ?_
    refine XS.iload X333.here hx rfl (hb hby at_92) rfl ?_
    exact kg)
   have pre341 : ∀ tg, AT p e below T333 m 100 #[jv q0, se, iv p1, iv p2, iv p3, jv q4, se, iv p5, iv lk0, iv wh0, iv lk1, iv wh1, jv tm1, se, rv b19, jv (if wh0 = (0 : Int32) then (0 : Int64) else q0), se, un, un, un, un, un] [] tg → Steps p.tables e below S0 tg := by
    intro tg kg
    rcases Decidable.em (wh0 = (0 : Int32)) with hd | hd
    ·
     simp only [if_pos hd] at kg
     exact pre340 tg (by
      refine XS.ifYes X333.here hx rfl (pc0 := 94) (pc' := 100) rfl (hb hby at_94) rfl (XT.i0_eq_t hd) (by decide) (by decide) ?_
      exact kg)
    ·
     simp only [if_neg hd] at kg
     exact pre340 tg (by
      refine XS.ifNo X333.here hx rfl (hb hby at_94) rfl (XT.i0_eq_f hd) ?_
      show AT p e below T333 m 97 #[jv q0, se, iv p1, iv p2, iv p3, jv q4, se, iv p5, iv lk0, iv wh0, iv lk1, iv wh1, jv tm1, se, rv b19, jv (0 : Int64), se, un, un, un, un, un] [] _
      refine XS.lloadN X333.here hx rfl (hb hby at_97) rfl ?_
      refine XS.lstore X333.here hx rfl (hb hby at_98) rfl (l' := #[jv q0, se, iv p1, iv p2, iv p3, jv q4, se, iv p5, iv lk0, iv wh0, iv lk1, iv wh1, jv tm1, se, rv b19, jv q0, se, un, un, un, un, un]) rfl ?_
      exact kg)
   have pre342 : ∀ tg, AT p e below T333 m 102 #[jv q0, se, iv p1, iv p2, iv p3, jv q4, se, iv p5, iv lk0, iv wh0, iv lk1, iv wh1, jv tm1, se, rv b19, jv (if wh0 = (0 : Int32) then (0 : Int64) else q0), se, un, un, un, un, un] [(.int lk1)] tg → Steps p.tables e below S0 tg := fun tg kg => pre341 tg (by
    refine XS.iload X333.here hx rfl (hb hby at_100) rfl ?_
    exact kg)
   rcases Decidable.em (lk1 = (0 : Int32)) with hc343 | hc343
   ·
    obtain ⟨cq344, kq344, q344a, q344b, q344c⟩ := isOf hZ rfl E333_334
    obtain ⟨_, _, ⟨T344, L344, k344, n344⟩, -, X344, ⟨Lc344, hQ344, l344, y344, z344⟩, st344⟩ := X333.virtualBack hx (y := y5) (z := y5) hown (mvT hZ (ow hw 28 rfl)) (mvT hZ (ow hw 29 rfl)) (notFace_of_selects (args := #[]) (mvT hZ (ow hw 31 rfl))) (mvT hZ (ow hw 31 rfl)) (mvT hZ (ow hw 30 rfl)) (by decide) (backOf (W := 0) (rm5_0n l Z ar hw [] b19 ((if wh0 = (0 : Int32) then (0 : Int64) else q0) + q4) p5 (if wh0 = (0 : Int32) then (0 : Int64) else q0) dq_22 es_22 ke_22 T333.heap n0 O333 E333_334 u333_2 u333_1 E333_335 F333_336 F333_337 F333_338 V333_339) hZ (ow hw 32 rfl) (ow hw 2 rfl) (by decide) (by decide)) q344a q344c (g := (mkF m 137 #[jv q0, se, iv p1, iv p2, iv p3, jv q4, se, iv p5, iv lk0, iv wh0, iv lk1, iv wh1, jv tm1, se, rv b19, jv (if wh0 = (0 : Int32) then (0 : Int64) else q0), se, jv ((if wh0 = (0 : Int32) then (0 : Int64) else q0) + q4), se, un, un, un] [(.int p5), (.long ((if wh0 = (0 : Int32) then (0 : Int64) else q0) + q4)), (.ref b19)])) rfl (by rw [hml]; rfl) (Steps.refl _) (argsL := [(.long ((if wh0 = (0 : Int32) then (0 : Int64) else q0) + q4)), (.int p5)]) (rest := []) (lenOf pd_11 rfl) rfl (by show 2 * 0 + _ ≤ _; exact Nat.le_of_eq rfl) (hb hby at_137) (fun _ _ => ⟨rfl, rfl, (by decide : 3 + 0 ≤ _), (by decide : 22 + 0 ≤ _)⟩)
    dsimp only [Pt.U, Pt.locs, Pt.cells, Pt.slots] at X344 l344 y344 z344 st344 hQ344
    subst l344 y344 z344
    obtain ⟨rfl, N344q, e344⟩ := hQ344
    have N344 := Fr.app N333 N344q
    obtain ⟨fs, hr, hrun, hended, hW, hsame⟩ := X344.leave (v := some (.int (1 : Int32))) (fun h => by rw [Bd.returns] at h; cases h)
    subst hS0
    refine ⟨_, _, pre342 _ ?_, hrun, hended, _, _, rfl, ?_, ⟨_, rfl⟩, hW, hsame.mono (by decide) (by decide)⟩
    ·
     refine XS.ifYes X333.here hx rfl (pc0 := 102) (pc' := 124) rfl (hb hby at_102) rfl (XT.i0_eq_t hc343) (by decide) (by decide) ?_
     refine XS.lload X333.here hx rfl (hb hby at_124) rfl ?_
     refine XS.lload X333.here hx rfl (hb hby at_126) rfl ?_
     show AT p e below T333 m 128 #[jv q0, se, iv p1, iv p2, iv p3, jv q4, se, iv p5, iv lk0, iv wh0, iv lk1, iv wh1, jv tm1, se, rv b19, jv (if wh0 = (0 : Int32) then (0 : Int64) else q0), se, un, un, un, un, un] [(.long q4), (.long (if wh0 = (0 : Int32) then (0 : Int64) else q0))] _
     refine XS.ladd X333.here hx rfl (hb hby at_128) rfl ?_
     refine XS.lstore X333.here hx rfl (hb hby at_129) rfl (l' := #[jv q0, se, iv p1, iv p2, iv p3, jv q4, se, iv p5, iv lk0, iv wh0, iv lk1, iv wh1, jv tm1, se, rv b19, jv (if wh0 = (0 : Int32) then (0 : Int64) else q0), se, jv ((if wh0 = (0 : Int32) then (0 : Int64) else q0) + q4), se, un, un, un]) rfl ?_
     refine XS.aload X333.here hx rfl (hb hby at_131) rfl rfl ?_
     show AT p e below T333 m 133 #[jv q0, se, iv p1, iv p2, iv p3, jv q4, se, iv p5, iv lk0, iv wh0, iv lk1, iv wh1, jv tm1, se, rv b19, jv (if wh0 = (0 : Int32) then (0 : Int64) else q0), se, jv ((if wh0 = (0 : Int32) then (0 : Int64) else q0) + q4), se, un, un, un] [(.ref b19)] _
     refine XS.lload X333.here hx rfl (hb hby at_133) rfl ?_
     refine XS.iload X333.here hx rfl (hb hby at_135) rfl ?_
     refine st344.trans ?_
     show AT p e below T344 m 140 #[jv q0, se, iv p1, iv p2, iv p3, jv q4, se, iv p5, iv lk0, iv wh0, iv lk1, iv wh1, jv tm1, se, rv b19, jv (if wh0 = (0 : Int32) then (0 : Int64) else q0), se, jv ((if wh0 = (0 : Int32) then (0 : Int64) else q0) + q4), se, un, un, un] [.null] _
     refine XS.astore X344.here hx rfl (hb hby at_140) rfl rfl (l' := #[jv q0, se, iv p1, iv p2, iv p3, jv q4, se, iv p5, iv lk0, iv wh0, iv lk1, iv wh1, jv tm1, se, rv b19, jv (if wh0 = (0 : Int32) then (0 : Int64) else q0), se, jv ((if wh0 = (0 : Int32) then (0 : Int64) else q0) + q4), se, .val .null, un, un]) rfl ?_
     refine XS.iload X344.here hx rfl (hb hby at_142) rfl ?_
     show AT p e below T344 m 144 #[jv q0, se, iv p1, iv p2, iv p3, jv q4, se, iv p5, iv lk0, iv wh0, iv lk1, iv wh1, jv tm1, se, rv b19, jv (if wh0 = (0 : Int32) then (0 : Int64) else q0), se, jv ((if wh0 = (0 : Int32) then (0 : Int64) else q0) + q4), se, .val .null, un, un] [(.int lk0)] _
     refine XS.ifNo X344.here hx rfl (hb hby at_144) rfl (XT.i0_eq_f (hc29 : ¬ (lk0 = (0 : Int32)))) ?_
     refine XS.iloadN X344.here hx rfl (hb hby at_147) rfl ?_
     show AT p e below T344 m 148 #[jv q0, se, iv p1, iv p2, iv p3, jv q4, se, iv p5, iv lk0, iv wh0, iv lk1, iv wh1, jv tm1, se, rv b19, jv (if wh0 = (0 : Int32) then (0 : Int64) else q0), se, jv ((if wh0 = (0 : Int32) then (0 : Int64) else q0) + q4), se, .val .null, un, un] [(.int p1)] _
     refine XS.ifYes X344.here hx rfl (pc0 := 148) (pc' := 160) rfl (hb hby at_148) rfl (XT.i0_le_t (hc113 : ¬ ((0 : Int32) < p1))) (by decide) (by decide) ?_
     show AT p e below T344 m 160 #[jv q0, se, iv p1, iv p2, iv p3, jv q4, se, iv p5, iv lk0, iv wh0, iv lk1, iv wh1, jv tm1, se, rv b19, jv (if wh0 = (0 : Int32) then (0 : Int64) else q0), se, jv ((if wh0 = (0 : Int32) then (0 : Int64) else q0) + q4), se, .val .null, un, un] [] _
     refine XS.iload X344.here hx rfl (hb hby at_160) rfl ?_
     show AT p e below T344 m 162 #[jv q0, se, iv p1, iv p2, iv p3, jv q4, se, iv p5, iv lk0, iv wh0, iv lk1, iv wh1, jv tm1, se, rv b19, jv (if wh0 = (0 : Int32) then (0 : Int64) else q0), se, jv ((if wh0 = (0 : Int32) then (0 : Int64) else q0) + q4), se, .val .null, un, un] [(.int lk1)] _
     refine XS.ifYes X344.here hx rfl (pc0 := 162) (pc' := 178) rfl (hb hby at_162) rfl (XT.i0_eq_t (hc343 : lk1 = (0 : Int32))) (by decide) (by decide) ?_
     refine XS.iconst X344.here hx rfl (hb hby at_178) ?_
     refine XS.istore X344.here hx rfl (hb hby at_179) rfl (l' := #[jv q0, se, iv p1, iv p2, iv p3, jv q4, se, iv p5, iv lk0, iv wh0, iv lk1, iv wh1, jv tm1, se, rv b19, jv (if wh0 = (0 : Int32) then (0 : Int64) else q0), se, jv ((if wh0 = (0 : Int32) then (0 : Int64) else q0) + q4), se, .val .null, iv (0 : Int32), un]) rfl ?_
     show AT p e below T344 m 181 #[jv q0, se, iv p1, iv p2, iv p3, jv q4, se, iv p5, iv lk0, iv wh0, iv lk1, iv wh1, jv tm1, se, rv b19, jv (if wh0 = (0 : Int32) then (0 : Int64) else q0), se, jv ((if wh0 = (0 : Int32) then (0 : Int64) else q0) + q4), se, .val .null, iv (0 : Int32), un] [] _
     refine XS.iconst X344.here hx rfl (hb hby at_181) ?_
     refine XS.istore X344.here hx rfl (hb hby at_182) rfl (l' := #[jv q0, se, iv p1, iv p2, iv p3, jv q4, se, iv p5, iv lk0, iv wh0, iv lk1, iv wh1, jv tm1, se, rv b19, jv (if wh0 = (0 : Int32) then (0 : Int64) else q0), se, jv ((if wh0 = (0 : Int32) then (0 : Int64) else q0) + q4), se, .val .null, iv (0 : Int32), iv (0 : Int32)]) rfl ?_
     refine XS.iload X344.here hx rfl (hb hby at_184) rfl ?_
     show AT p e below T344 m 186 #[jv q0, se, iv p1, iv p2, iv p3, jv q4, se, iv p5, iv lk0, iv wh0, iv lk1, iv wh1, jv tm1, se, rv b19, jv (if wh0 = (0 : Int32) then (0 : Int64) else q0), se, jv ((if wh0 = (0 : Int32) then (0 : Int64) else q0) + q4), se, .val .null, iv (0 : Int32), iv (0 : Int32)] [(.int (0 : Int32))] _
     refine XS.ifYes X344.here hx rfl (pc0 := 186) (pc' := 203) rfl (hb hby at_186) rfl (XT.i0_eq_t ((by decide) : (0 : Int32) = (0 : Int32))) (by decide) (by decide) ?_
     show AT p e below T344 m 203 #[jv q0, se, iv p1, iv p2, iv p3, jv q4, se, iv p5, iv lk0, iv wh0, iv lk1, iv wh1, jv tm1, se, rv b19, jv (if wh0 = (0 : Int32) then (0 : Int64) else q0), se, jv ((if wh0 = (0 : Int32) then (0 : Int64) else q0) + q4), se, .val .null, iv (0 : Int32), iv (0 : Int32)] [] _
     refine XS.aload X344.here hx rfl (hb hby at_203) rfl rfl ?_
     show AT p e below T344 m 205 #[jv q0, se, iv p1, iv p2, iv p3, jv q4, se, iv p5, iv lk0, iv wh0, iv lk1, iv wh1, jv tm1, se, rv b19, jv (if wh0 = (0 : Int32) then (0 : Int64) else q0), se, jv ((if wh0 = (0 : Int32) then (0 : Int64) else q0) + q4), se, .val .null, iv (0 : Int32), iv (0 : Int32)] [.null] _
     refine XS.ifnonnullNo X344.here hx rfl (hb hby at_205) rfl ?_
     refine XS.iconst X344.here hx rfl (hb hby at_208) ?_
     refine XS.goto X344.here hx rfl (pc0 := 209) (pc' := 213) rfl (hb hby at_209) (by decide) (by decide) ?_
     show AT p e below T344 m 213 #[jv q0, se, iv p1, iv p2, iv p3, jv q4, se, iv p5, iv lk0, iv wh0, iv lk1, iv wh1, jv tm1, se, rv b19, jv (if wh0 = (0 : Int32) then (0 : Int64) else q0), se, jv ((if wh0 = (0 : Int32) then (0 : Int64) else q0) + q4), se, .val .null, iv (0 : Int32), iv (0 : Int32)] [(.int (1 : Int32))] _
     exact retN X344 hx (t := .boolean) Bd.returns (by simp) (hb hby at_213) hr
    ·
     show Q0 Z q0 p1 p2 p3 q4 p5 h0 n0 _ T344.heap _
     rw [e344]
     exact ⟨rfl, N344⟩
   ·
    have pre345 : ∀ tg, AT p e below T333 m 105 #[jv q0, se, iv p1, iv p2, iv p3, jv q4, se, iv p5, iv lk0, iv wh0, iv lk1, iv wh1, jv tm1, se, rv b19, jv (if wh0 = (0 : Int32) then (0 : Int64) else q0), se, un, un, un, un, un] [] tg → Steps p.tables e below S0 tg := fun tg kg => pre342 tg (by
     refine XS.ifNo X333.here hx rfl (hb hby at_102) rfl (XT.i0_eq_f hc343) ?_
     exact kg)
    rcases Decidable.em ((0 : Int32) < p2) with hc346 | hc346
    ·
     obtain ⟨cq347, kq347, q347a, q347b, q347c⟩ := isOf hZ rfl E333_334
     obtain ⟨_, _, ⟨T347, L347, k347, n347⟩, -, X347, ⟨Lc347, hQ347, l347, y347, z347⟩, st347⟩ := X333.virtualBack hx (y := y7) (z := y7) hown (mvT hZ (ow hw 42 rfl)) (mvT hZ (ow hw 43 rfl)) (notFace_of_selects (args := #[]) (mvT hZ (ow hw 45 rfl))) (mvT hZ (ow hw 45 rfl)) (mvT hZ (ow hw 44 rfl)) (by decide) (backOf (W := 0) (rm7_01 l Z ar hw [] b19 tm1 p2 wh1 (if wh0 = (0 : Int32) then (0 : Int64) else q0) dq_22 es_22 ke_22 T333.heap n0 O333 E333_334 u333_1 u333_2 E333_335 F333_336 F333_337 F333_338 V333_339 u22_8 gn19 gn24 gn26 u22_11 u22_12 u22_13 hc346) hZ (ow hw 46 rfl) (ow hw 2 rfl) (by decide) (by decide)) q347a q347c (g := (mkF m 112 #[jv q0, se, iv p1, iv p2, iv p3, jv q4, se, iv p5, iv lk0, iv wh0, iv lk1, iv wh1, jv tm1, se, rv b19, jv (if wh0 = (0 : Int32) then (0 : Int64) else q0), se, un, un, un, un, un] [(.int wh1), (.int p2), (.long tm1), (.ref b19)])) rfl (by rw [hml]; rfl) (Steps.refl _) (argsL := [(.long tm1), (.int p2), (.int wh1)]) (rest := []) (lenOf pd_12 rfl) rfl (by show 2 * 0 + _ ≤ _; exact Nat.le_of_eq rfl) (hb hby at_112) (fun _ _ => ⟨rfl, rfl, (by decide : 3 + 1 ≤ _), (by decide : 22 + 2 ≤ _)⟩)
     dsimp only [Pt.U, Pt.locs, Pt.cells, Pt.slots] at X347 l347 y347 z347 st347 hQ347
     subst l347 y347 z347
     obtain ⟨nw_347, kn_347, rfl, N347q, Kq347, u347_0, u347_1, u347_2, u347_3, u347_4, u347_5, u347_6, u347_7, u347_8, u347_9⟩ := hQ347
     have N347 := Fr.app N333 N347q
     have E347_348 := E333_334.keep Kq347
     have E347_349 := E333_335.keep Kq347
     have K347 := K333.trans Kq347 (allS (Or.inr sz19) (allS (Or.inr sz24) (allS (Or.inr sz26) all0)))
     have O347 := O333.keep Kq347 (allS gn19 (allS gn24 (allS gn26 all0)))
     have sz350 : h0.size ≤ nw_347 := Nat.le_trans K333.1 u347_9
     have gn350 : n0 ≤ nw_347 := Nat.le_trans (Nat.le_trans (Nat.le_of_eq O333.1.symm) O333.2.1) u347_9
     have ne351 : b19 ≠ nw_347 := Nat.ne_of_lt (Nat.lt_of_lt_of_le (E333_334).lt u347_9)
     have ne352 : dq_22 ≠ nw_347 := Nat.ne_of_lt (Nat.lt_of_lt_of_le (E333_335).lt u347_9)
     have ne353 : es_22 ≠ nw_347 := Nat.ne_of_lt (Nat.lt_of_lt_of_le (V333_339).lt u347_9)
     have pre354 : ∀ tg, AT p e below T347 m 117 #[jv q0, se, iv p1, iv p2, iv p3, jv q4, se, iv p5, iv lk0, iv wh0, iv lk1, iv wh1, jv tm1, se, rv b19, jv (if wh0 = (0 : Int32) then (0 : Int64) else q0), se, un, un, un, un, un] [(.int wh1)] tg → Steps p.tables e below S0 tg := fun tg kg => pre345 tg (by
      refine XS.aload X333.here hx rfl (hb hby at_105) rfl rfl ?_
      refine XS.lload X333.here hx rfl (hb hby at_107) rfl ?_
      refine XS.iloadN X333.here hx rfl (hb hby at_109) rfl ?_
      show AT p e below T333 m 110 #[jv q0, se, iv p1, iv p2, iv p3, jv q4, se, iv p5, iv lk0, iv wh0, iv lk1, iv wh1, jv tm1, se, rv b19, jv (if wh0 = (0 : Int32) then (0 : Int64) else q0), se, un, un, un, un, un] [(.int p2), (.long tm1), (.ref b19)] _
      refine XS.iload X333.here hx rfl (hb hby at_110) rfl ?_
      refine st347.trans ?_
      refine XS.iload X347.here hx rfl (hb hby at_115) rfl ?_
      exact kg)
     have pre355 : ∀ tg, AT p e below T347 m 124 #[jv q0, se, iv p1, iv p2, iv p3, jv q4, se, iv p5, iv lk0, iv wh0, iv lk1, iv wh1, jv tm1, se, rv b19, jv (if wh1 = (0 : Int32) then (if wh0 = (0 : Int32) then (0 : Int64) else q0) else tm1), se, un, un, un, un, un] [] tg → Steps p.tables e below S0 tg := by
      intro tg kg
      rcases Decidable.em (wh1 = (0 : Int32)) with hd | hd
      ·
       simp only [if_pos hd] at kg
       exact pre354 tg (by
        refine XS.ifYes X347.here hx rfl (pc0 := 117) (pc' := 124) rfl (hb hby at_117) rfl (XT.i0_eq_t hd) (by decide) (by decide) ?_
        exact kg)
      ·
       simp only [if_neg hd] at kg
       exact pre354 tg (by
        refine XS.ifNo X347.here hx rfl (hb hby at_117) rfl (XT.i0_eq_f hd) ?_
        show AT p e below T347 m 120 #[jv q0, se, iv p1, iv p2, iv p3, jv q4, se, iv p5, iv lk0, iv wh0, iv lk1, iv wh1, jv tm1, se, rv b19, jv (if wh0 = (0 : Int32) then (0 : Int64) else q0), se, un, un, un, un, un] [] _
        refine XS.lload X347.here hx rfl (hb hby at_120) rfl ?_
        refine XS.lstore X347.here hx rfl (hb hby at_122) rfl (l' := #[jv q0, se, iv p1, iv p2, iv p3, jv q4, se, iv p5, iv lk0, iv wh0, iv lk1, iv wh1, jv tm1, se, rv b19, jv tm1, se, un, un, un, un, un]) rfl ?_
        exact kg)
     have pre356 : ∀ tg, AT p e below T347 m 131 #[jv q0, se, iv p1, iv p2, iv p3, jv q4, se, iv p5, iv lk0, iv wh0, iv lk1, iv wh1, jv tm1, se, rv b19, jv (if wh1 = (0 : Int32) then (if wh0 = (0 : Int32) then (0 : Int64) else q0) else tm1), se, jv ((if wh1 = (0 : Int32) then (if wh0 = (0 : Int32) then (0 : Int64) else q0) else tm1) + q4), se, un, un, un] [] tg → Steps p.tables e below S0 tg := fun tg kg => pre355 tg (by
      refine XS.lload X347.here hx rfl (hb hby at_124) rfl ?_
      refine XS.lload X347.here hx rfl (hb hby at_126) rfl ?_
      refine XS.ladd X347.here hx rfl (hb hby at_128) rfl ?_
      show AT p e below T347 m 129 #[jv q0, se, iv p1, iv p2, iv p3, jv q4, se, iv p5, iv lk0, iv wh0, iv lk1, iv wh1, jv tm1, se, rv b19, jv (if wh1 = (0 : Int32) then (if wh0 = (0 : Int32) then (0 : Int64) else q0) else tm1), se, un, un, un, un, un] [(.long ((if wh1 = (0 : Int32) then (if wh0 = (0 : Int32) then (0 : Int64) else q0) else tm1) + q4))] _
      refine XS.lstore X347.here hx rfl (hb hby at_129) rfl (l' := #[jv q0, se, iv p1, iv p2, iv p3, jv q4, se, iv p5, iv lk0, iv wh0, iv lk1, iv wh1, jv tm1, se, rv b19, jv (if wh1 = (0 : Int32) then (if wh0 = (0 : Int32) then (0 : Int64) else q0) else tm1), se, jv ((if wh1 = (0 : Int32) then (if wh0 = (0 : Int32) then (0 : Int64) else q0) else tm1) + q4), se, un, un, un]) rfl ?_
      exact kg)
     rcases Decidable.em ((0 : Int32) < p5) with hc357 | hc357
     ·
      rcases Decidable.em (q4 < (600000000000 : Int64)) with hc358 | hc358
      ·
       rcases Decidable.em (p2 < p5) with hc359 | hc359
       ·
        obtain ⟨cq360, kq360, q360a, q360b, q360c⟩ := isOf hZ rfl E347_348
        obtain ⟨_, _, ⟨T360, L360, k360, n360⟩, -, X360, ⟨Lc360, hQ360, l360, y360, z360⟩, st360⟩ := X347.virtualBack hx (y := y5) (z := y5) hown (mvT hZ (ow hw 28 rfl)) (mvT hZ (ow hw 29 rfl)) (notFace_of_selects (args := #[]) (mvT hZ (ow hw 31 rfl))) (mvT hZ (ow hw 31 rfl)) (mvT hZ (ow hw 30 rfl)) (by decide) (backOf (W := 0) (rm5_1l l Z ar hw [] b19 ((if wh1 = (0 : Int32) then (if wh0 = (0 : Int32) then (0 : Int64) else q0) else tm1) + q4) p5 (if wh1 = (0 : Int32) then (if wh0 = (0 : Int32) then (0 : Int64) else q0) else tm1) dq_22 es_22 ke_22 nw_347 kn_347 tm1 p2 T347.heap n0 O347 HW E347_348 u347_2 u347_1 E347_349 u347_3 u347_4 u347_5 u347_6 u347_7 u347_8 hc357 (by rw [own_wd]; exact hc358) hc359) hZ (ow hw 32 rfl) (ow hw 2 rfl) (by decide) (by decide)) q360a q360c (g := (mkF m 137 #[jv q0, se, iv p1, iv p2, iv p3, jv q4, se, iv p5, iv lk0, iv wh0, iv lk1, iv wh1, jv tm1, se, rv b19, jv (if wh1 = (0 : Int32) then (if wh0 = (0 : Int32) then (0 : Int64) else q0) else tm1), se, jv ((if wh1 = (0 : Int32) then (if wh0 = (0 : Int32) then (0 : Int64) else q0) else tm1) + q4), se, un, un, un] [(.int p5), (.long ((if wh1 = (0 : Int32) then (if wh0 = (0 : Int32) then (0 : Int64) else q0) else tm1) + q4)), (.ref b19)])) rfl (by rw [hml]; rfl) (Steps.refl _) (argsL := [(.long ((if wh1 = (0 : Int32) then (if wh0 = (0 : Int32) then (0 : Int64) else q0) else tm1) + q4)), (.int p5)]) (rest := []) (lenOf pd_11 rfl) rfl (by show 2 * 0 + _ ≤ _; exact Nat.le_of_eq rfl) (hb hby at_137) (fun _ _ => ⟨rfl, rfl, (by decide : 4 + 1 ≤ _), (by decide : 24 + 2 ≤ _)⟩)
        dsimp only [Pt.U, Pt.locs, Pt.cells, Pt.slots] at X360 l360 y360 z360 st360 hQ360
        subst l360 y360 z360
        obtain ⟨b_360, kb_360, rfl, N360q, Kq360, u360_0, u360_1⟩ := hQ360
        have N360 := Fr.app N347 N360q
        have E360_361 := E347_348.keep Kq360
        have E360_362 := E347_349.keep Kq360
        have F360_363 := u347_1.keep Kq360 nin0
        have F360_364 := u347_2.keep Kq360 nin0
        have F360_365 := u347_3.keep Kq360 nin0
        have F360_366 := u347_4.keep Kq360 nin0
        have F360_367 := u347_5.keep Kq360 nin0
        have V360_368 := u347_6.keep Kq360 nin0
        have E360_369 := u347_7.keep Kq360
        have V360_370 := u347_8.keep Kq360 nin0
        have K360 := K347.trans Kq360 all0
        have O360 := O347.keep Kq360 all0
        have sz371 : h0.size ≤ b_360 := Nat.le_trans K347.1 u360_1
        have gn371 : n0 ≤ b_360 := Nat.le_trans (Nat.le_trans (Nat.le_of_eq O347.1.symm) O347.2.1) u360_1
        have ne372 : b19 ≠ b_360 := Nat.ne_of_lt (Nat.lt_of_lt_of_le (E347_348).lt u360_1)
        have ne373 : dq_22 ≠ b_360 := Nat.ne_of_lt (Nat.lt_of_lt_of_le (E347_349).lt u360_1)
        have ne374 : es_22 ≠ b_360 := Nat.ne_of_lt (Nat.lt_of_lt_of_le (u347_6).lt u360_1)
        have ne375 : nw_347 ≠ b_360 := Nat.ne_of_lt (Nat.lt_of_lt_of_le (u347_7).lt u360_1)
        obtain ⟨_, _, ⟨T376, L376, k376, n376⟩, -, X376, ⟨Lc376, hQ376, l376, y376, z376⟩, st376⟩ := Jvm.LawKit.callS X360 hx (y := y19) hown (mvT hZ (ow hw 124 rfl)) (mvT hZ (ow hw 125 rfl)) (mvT hZ (ow hw 126 rfl)) (mvT hZ (ow hw 127 rfl)) (by decide) (backOf (W := 0) (rm19_2 l Z ar hw [] b_360 (p2 + (1 : Int32)) p5 (0 : Int32) (0 : Int32) kb_360 (p2 + (1 : Int32)) p5 T360.heap n0 O360 u360_0) hZ (ow hw 127 rfl) (ow hw 126 rfl) (by decide) (by decide)) (g := (mkF m 232 #[jv q0, se, iv p1, iv p2, iv p3, jv q4, se, iv p5, iv lk0, iv wh0, iv lk1, iv wh1, jv tm1, se, rv b19, jv (if wh1 = (0 : Int32) then (if wh0 = (0 : Int32) then (0 : Int64) else q0) else tm1), se, jv ((if wh1 = (0 : Int32) then (if wh0 = (0 : Int32) then (0 : Int64) else q0) else tm1) + q4), se, rv b_360, iv (1 : Int32), iv p2] [(.int (0 : Int32)), (.int (0 : Int32)), (.int p5), (.int (p2 + (1 : Int32))), (.int (2 : Int32)), (.ref b_360)])) rfl (by rw [hml]; rfl) (argsL := [(.ref b_360), (.int (2 : Int32)), (.int (p2 + (1 : Int32))), (.int p5), (.int (0 : Int32)), (.int (0 : Int32))]) (rest := []) (lenOf pd_13 rfl) rfl (by show 2 * 0 + _ ≤ _; exact Nat.le_of_eq rfl) (hb hby at_232) (fun _ _ => ⟨rfl, rfl, (by decide : 5 + 0 ≤ _), (by decide : 26 + 0 ≤ _)⟩)
        dsimp only [Pt.U, Pt.locs, Pt.cells, Pt.slots] at X376 l376 y376 z376 st376 hQ376
        subst l376 y376 z376
        obtain ⟨rfl, N376q, e376⟩ := hQ376
        have N376 := Fr.app N360 N376q
        have r376 : (f19_2 (p2 + (1 : Int32)) p5 (p2 + (1 : Int32)) p5) = (1 : Int32) := by rw [f19_2, if_pos (rfl : (p2 + (1 : Int32)) = (p2 + (1 : Int32))), if_pos (rfl : p5 = p5)] <;> decide
        rw [r376] at st376
        obtain ⟨fs, hr, hrun, hended, hW, hsame⟩ := X376.leave (v := some (.int (1 : Int32))) (fun h => by rw [Bd.returns] at h; cases h)
        subst hS0
        refine ⟨_, _, pre356 _ ?_, hrun, hended, _, _, rfl, ?_, ⟨_, rfl⟩, hW, hsame.mono (by decide) (by decide)⟩
        ·
         refine XS.aload X347.here hx rfl (hb hby at_131) rfl rfl ?_
         refine XS.lload X347.here hx rfl (hb hby at_133) rfl ?_
         refine XS.iload X347.here hx rfl (hb hby at_135) rfl ?_
         show AT p e below T347 m 137 #[jv q0, se, iv p1, iv p2, iv p3, jv q4, se, iv p5, iv lk0, iv wh0, iv lk1, iv wh1, jv tm1, se, rv b19, jv (if wh1 = (0 : Int32) then (if wh0 = (0 : Int32) then (0 : Int64) else q0) else tm1), se, jv ((if wh1 = (0 : Int32) then (if wh0 = (0 : Int32) then (0 : Int64) else q0) else tm1) + q4), se, un, un, un] [(.int p5), (.long ((if wh1 = (0 : Int32) then (if wh0 = (0 : Int32) then (0 : Int64) else q0) else tm1) + q4)), (.ref b19)] _
         refine st360.trans ?_
         refine XS.astore X360.here hx rfl (hb hby at_140) rfl rfl (l' := #[jv q0, se, iv p1, iv p2, iv p3, jv q4, se, iv p5, iv lk0, iv wh0, iv lk1, iv wh1, jv tm1, se, rv b19, jv (if wh1 = (0 : Int32) then (if wh0 = (0 : Int32) then (0 : Int64) else q0) else tm1), se, jv ((if wh1 = (0 : Int32) then (if wh0 = (0 : Int32) then (0 : Int64) else q0) else tm1) + q4), se, rv b_360, un, un]) rfl ?_
         refine XS.iload X360.here hx rfl (hb hby at_142) rfl ?_
         show AT p e below T360 m 144 #[jv q0, se, iv p1, iv p2, iv p3, jv q4, se, iv p5, iv lk0, iv wh0, iv lk1, iv wh1, jv tm1, se, rv b19, jv (if wh1 = (0 : Int32) then (if wh0 = (0 : Int32) then (0 : Int64) else q0) else tm1), se, jv ((if wh1 = (0 : Int32) then (if wh0 = (0 : Int32) then (0 : Int64) else q0) else tm1) + q4), se, rv b_360, un, un] [(.int lk0)] _
         refine XS.ifNo X360.here hx rfl (hb hby at_144) rfl (XT.i0_eq_f (hc29 : ¬ (lk0 = (0 : Int32)))) ?_
         show AT p e below T360 m 147 #[jv q0, se, iv p1, iv p2, iv p3, jv q4, se, iv p5, iv lk0, iv wh0, iv lk1, iv wh1, jv tm1, se, rv b19, jv (if wh1 = (0 : Int32) then (if wh0 = (0 : Int32) then (0 : Int64) else q0) else tm1), se, jv ((if wh1 = (0 : Int32) then (if wh0 = (0 : Int32) then (0 : Int64) else q0) else tm1) + q4), se, rv b_360, un, un] [] _
         refine XS.iloadN X360.here hx rfl (hb hby at_147) rfl ?_
         show AT p e below T360 m 148 #[jv q0, se, iv p1, iv p2, iv p3, jv q4, se, iv p5, iv lk0, iv wh0, iv lk1, iv wh1, jv tm1, se, rv b19, jv (if wh1 = (0 : Int32) then (if wh0 = (0 : Int32) then (0 : Int64) else q0) else tm1), se, jv ((if wh1 = (0 : Int32) then (if wh0 = (0 : Int32) then (0 : Int64) else q0) else tm1) + q4), se, rv b_360, un, un] [(.int p1)] _
         refine XS.ifYes X360.here hx rfl (pc0 := 148) (pc' := 160) rfl (hb hby at_148) rfl (XT.i0_le_t (hc113 : ¬ ((0 : Int32) < p1))) (by decide) (by decide) ?_
         refine XS.iload X360.here hx rfl (hb hby at_160) rfl ?_
         show AT p e below T360 m 162 #[jv q0, se, iv p1, iv p2, iv p3, jv q4, se, iv p5, iv lk0, iv wh0, iv lk1, iv wh1, jv tm1, se, rv b19, jv (if wh1 = (0 : Int32) then (if wh0 = (0 : Int32) then (0 : Int64) else q0) else tm1), se, jv ((if wh1 = (0 : Int32) then (if wh0 = (0 : Int32) then (0 : Int64) else q0) else tm1) + q4), se, rv b_360, un, un] [(.int lk1)] _
         refine XS.ifNo X360.here hx rfl (hb hby at_162) rfl (XT.i0_eq_f (hc343 : ¬ (lk1 = (0 : Int32)))) ?_
         refine XS.iloadN X360.here hx rfl (hb hby at_165) rfl ?_
         show AT p e below T360 m 166 #[jv q0, se, iv p1, iv p2, iv p3, jv q4, se, iv p5, iv lk0, iv wh0, iv lk1, iv wh1, jv tm1, se, rv b19, jv (if wh1 = (0 : Int32) then (if wh0 = (0 : Int32) then (0 : Int64) else q0) else tm1), se, jv ((if wh1 = (0 : Int32) then (if wh0 = (0 : Int32) then (0 : Int64) else q0) else tm1) + q4), se, rv b_360, un, un] [(.int p2)] _
         refine XS.ifNo X360.here hx rfl (hb hby at_166) rfl (XT.i0_le_f (hc346 : (0 : Int32) < p2)) ?_
         show AT p e below T360 m 169 #[jv q0, se, iv p1, iv p2, iv p3, jv q4, se, iv p5, iv lk0, iv wh0, iv lk1, iv wh1, jv tm1, se, rv b19, jv (if wh1 = (0 : Int32) then (if wh0 = (0 : Int32) then (0 : Int64) else q0) else tm1), se, jv ((if wh1 = (0 : Int32) then (if wh0 = (0 : Int32) then (0 : Int64) else q0) else tm1) + q4), se, rv b_360, un, un] [] _
         refine XS.iconst X360.here hx rfl (hb hby at_169) ?_
         refine XS.istore X360.here hx rfl (hb hby at_170) rfl (l' := #[jv q0, se, iv p1, iv p2, iv p3, jv q4, se, iv p5, iv lk0, iv wh0, iv lk1, iv wh1, jv tm1, se, rv b19, jv (if wh1 = (0 : Int32) then (if wh0 = (0 : Int32) then (0 : Int64) else q0) else tm1), se, jv ((if wh1 = (0 : Int32) then (if wh0 = (0 : Int32) then (0 : Int64) else q0) else tm1) + q4), se, rv b_360, iv (1 : Int32), un]) rfl ?_
         refine XS.iloadN X360.here hx rfl (hb hby at_172) rfl ?_
         show AT p e below T360 m 173 #[jv q0, se, iv p1, iv p2, iv p3, jv q4, se, iv p5, iv lk0, iv wh0, iv lk1, iv wh1, jv tm1, se, rv b19, jv (if wh1 = (0 : Int32) then (if wh0 = (0 : Int32) then (0 : Int64) else q0) else tm1), se, jv ((if wh1 = (0 : Int32) then (if wh0 = (0 : Int32) then (0 : Int64) else q0) else tm1) + q4), se, rv b_360, iv (1 : Int32), un] [(.int p2)] _
         refine XS.istore X360.here hx rfl (hb hby at_173) rfl (l' := #[jv q0, se, iv p1, iv p2, iv p3, jv q4, se, iv p5, iv lk0, iv wh0, iv lk1, iv wh1, jv tm1, se, rv b19, jv (if wh1 = (0 : Int32) then (if wh0 = (0 : Int32) then (0 : Int64) else q0) else tm1), se, jv ((if wh1 = (0 : Int32) then (if wh0 = (0 : Int32) then (0 : Int64) else q0) else tm1) + q4), se, rv b_360, iv (1 : Int32), iv p2]) rfl ?_
         refine XS.goto X360.here hx rfl (pc0 := 175) (pc' := 184) rfl (hb hby at_175) (by decide) (by decide) ?_
         refine XS.iload X360.here hx rfl (hb hby at_184) rfl ?_
         show AT p e below T360 m 186 #[jv q0, se, iv p1, iv p2, iv p3, jv q4, se, iv p5, iv lk0, iv wh0, iv lk1, iv wh1, jv tm1, se, rv b19, jv (if wh1 = (0 : Int32) then (if wh0 = (0 : Int32) then (0 : Int64) else q0) else tm1), se, jv ((if wh1 = (0 : Int32) then (if wh0 = (0 : Int32) then (0 : Int64) else q0) else tm1) + q4), se, rv b_360, iv (1 : Int32), iv p2] [(.int (1 : Int32))] _
         refine XS.ifNo X360.here hx rfl (hb hby at_186) rfl (XT.i0_eq_f ((by decide) : ¬ ((1 : Int32) = (0 : Int32)))) ?_
         show AT p e below T360 m 189 #[jv q0, se, iv p1, iv p2, iv p3, jv q4, se, iv p5, iv lk0, iv wh0, iv lk1, iv wh1, jv tm1, se, rv b19, jv (if wh1 = (0 : Int32) then (if wh0 = (0 : Int32) then (0 : Int64) else q0) else tm1), se, jv ((if wh1 = (0 : Int32) then (if wh0 = (0 : Int32) then (0 : Int64) else q0) else tm1) + q4), se, rv b_360, iv (1 : Int32), iv p2] [] _
         refine XS.iload X360.here hx rfl (hb hby at_189) rfl ?_
         show AT p e below T360 m 191 #[jv q0, se, iv p1, iv p2, iv p3, jv q4, se, iv p5, iv lk0, iv wh0, iv lk1, iv wh1, jv tm1, se, rv b19, jv (if wh1 = (0 : Int32) then (if wh0 = (0 : Int32) then (0 : Int64) else q0) else tm1), se, jv ((if wh1 = (0 : Int32) then (if wh0 = (0 : Int32) then (0 : Int64) else q0) else tm1) + q4), se, rv b_360, iv (1 : Int32), iv p2] [(.int p5)] _
         refine XS.ifNo X360.here hx rfl (hb hby at_191) rfl (XT.i0_le_f (hc357 : (0 : Int32) < p5)) ?_
         refine XS.lload X360.here hx rfl (hb hby at_194) rfl ?_
         refine X360.ldc2Long hx hown (mvT hZ (ow hw 123 rfl)) (g := (mkF m 196 #[jv q0, se, iv p1, iv p2, iv p3, jv q4, se, iv p5, iv lk0, iv wh0, iv lk1, iv wh1, jv tm1, se, rv b19, jv (if wh1 = (0 : Int32) then (if wh0 = (0 : Int32) then (0 : Int64) else q0) else tm1), se, jv ((if wh1 = (0 : Int32) then (if wh0 = (0 : Int32) then (0 : Int64) else q0) else tm1) + q4), se, rv b_360, iv (1 : Int32), iv p2] [(.long q4)])) rfl (hb hby at_196) _ ?_
         show AT p e below T360 m 199 #[jv q0, se, iv p1, iv p2, iv p3, jv q4, se, iv p5, iv lk0, iv wh0, iv lk1, iv wh1, jv tm1, se, rv b19, jv (if wh1 = (0 : Int32) then (if wh0 = (0 : Int32) then (0 : Int64) else q0) else tm1), se, jv ((if wh1 = (0 : Int32) then (if wh0 = (0 : Int32) then (0 : Int64) else q0) else tm1) + q4), se, rv b_360, iv (1 : Int32), iv p2] [(.long (600000000000 : Int64)), (.long q4)] _
         refine XS.lcmp X360.here hx rfl (hb hby at_199) rfl ?_
         show AT p e below T360 m 200 #[jv q0, se, iv p1, iv p2, iv p3, jv q4, se, iv p5, iv lk0, iv wh0, iv lk1, iv wh1, jv tm1, se, rv b19, jv (if wh1 = (0 : Int32) then (if wh0 = (0 : Int32) then (0 : Int64) else q0) else tm1), se, jv ((if wh1 = (0 : Int32) then (if wh0 = (0 : Int32) then (0 : Int64) else q0) else tm1) + q4), se, rv b_360, iv (1 : Int32), iv p2] [(.int (XT.cmpL q4 (600000000000 : Int64)))] _
         refine XS.ifYes X360.here hx rfl (pc0 := 200) (pc' := 214) rfl (hb hby at_200) rfl (XT.ll_lt_t (hc358 : q4 < (600000000000 : Int64))) (by decide) (by decide) ?_
         refine XS.iload X360.here hx rfl (hb hby at_214) rfl ?_
         refine XS.iload X360.here hx rfl (hb hby at_216) rfl ?_
         show AT p e below T360 m 218 #[jv q0, se, iv p1, iv p2, iv p3, jv q4, se, iv p5, iv lk0, iv wh0, iv lk1, iv wh1, jv tm1, se, rv b19, jv (if wh1 = (0 : Int32) then (if wh0 = (0 : Int32) then (0 : Int64) else q0) else tm1), se, jv ((if wh1 = (0 : Int32) then (if wh0 = (0 : Int32) then (0 : Int64) else q0) else tm1) + q4), se, rv b_360, iv (1 : Int32), iv p2] [(.int p5), (.int p2)] _
         refine XS.icmpNo X360.here hx rfl (hb hby at_218) rfl (XT.ii_ge_f (hc359 : p2 < p5)) ?_
         show AT p e below T360 m 221 #[jv q0, se, iv p1, iv p2, iv p3, jv q4, se, iv p5, iv lk0, iv wh0, iv lk1, iv wh1, jv tm1, se, rv b19, jv (if wh1 = (0 : Int32) then (if wh0 = (0 : Int32) then (0 : Int64) else q0) else tm1), se, jv ((if wh1 = (0 : Int32) then (if wh0 = (0 : Int32) then (0 : Int64) else q0) else tm1) + q4), se, rv b_360, iv (1 : Int32), iv p2] [] _
         refine XS.aload X360.here hx rfl (hb hby at_221) rfl rfl ?_
         refine XS.iconst X360.here hx rfl (hb hby at_223) ?_
         refine XS.iload X360.here hx rfl (hb hby at_224) rfl ?_
         show AT p e below T360 m 226 #[jv q0, se, iv p1, iv p2, iv p3, jv q4, se, iv p5, iv lk0, iv wh0, iv lk1, iv wh1, jv tm1, se, rv b19, jv (if wh1 = (0 : Int32) then (if wh0 = (0 : Int32) then (0 : Int64) else q0) else tm1), se, jv ((if wh1 = (0 : Int32) then (if wh0 = (0 : Int32) then (0 : Int64) else q0) else tm1) + q4), se, rv b_360, iv (1 : Int32), iv p2] [(.int p2), (.int (2 : Int32)), (.ref b_360)] _
         refine XS.iconst X360.here hx rfl (hb hby at_226) ?_
         refine XS.iadd X360.here hx rfl (hb hby at_227) rfl ?_
         refine XS.iload X360.here hx rfl (hb hby at_228) rfl ?_
         show AT p e below T360 m 230 #[jv q0, se, iv p1, iv p2, iv p3, jv q4, se, iv p5, iv lk0, iv wh0, iv lk1, iv wh1, jv tm1, se, rv b19, jv (if wh1 = (0 : Int32) then (if wh0 = (0 : Int32) then (0 : Int64) else q0) else tm1), se, jv ((if wh1 = (0 : Int32) then (if wh0 = (0 : Int32) then (0 : Int64) else q0) else tm1) + q4), se, rv b_360, iv (1 : Int32), iv p2] [(.int p5), (.int (p2 + (1 : Int32))), (.int (2 : Int32)), (.ref b_360)] _
         refine XS.iconst X360.here hx rfl (hb hby at_230) ?_
         refine XS.iconst X360.here hx rfl (hb hby at_231) ?_
         refine st376 _ ?_
         show AT p e below T376 m 235 #[jv q0, se, iv p1, iv p2, iv p3, jv q4, se, iv p5, iv lk0, iv wh0, iv lk1, iv wh1, jv tm1, se, rv b19, jv (if wh1 = (0 : Int32) then (if wh0 = (0 : Int32) then (0 : Int64) else q0) else tm1), se, jv ((if wh1 = (0 : Int32) then (if wh0 = (0 : Int32) then (0 : Int64) else q0) else tm1) + q4), se, rv b_360, iv (1 : Int32), iv p2] [(.int (1 : Int32))] _
         exact retN X376 hx (t := .boolean) Bd.returns (by simp) (hb hby at_235) hr
        ·
         show Q0 Z q0 p1 p2 p3 q4 p5 h0 n0 _ T376.heap _
         rw [e376]
         exact ⟨rfl, N376⟩
       ·
        rcases Decidable.em (p5 < p2) with hc377 | hc377
        ·
         obtain ⟨cq378, kq378, q378a, q378b, q378c⟩ := isOf hZ rfl E347_348
         obtain ⟨_, _, ⟨T378, L378, k378, n378⟩, -, X378, ⟨Lc378, hQ378, l378, y378, z378⟩, st378⟩ := X347.virtualBack hx (y := y5) (z := y5) hown (mvT hZ (ow hw 28 rfl)) (mvT hZ (ow hw 29 rfl)) (notFace_of_selects (args := #[]) (mvT hZ (ow hw 31 rfl))) (mvT hZ (ow hw 31 rfl)) (mvT hZ (ow hw 30 rfl)) (by decide) (backOf (W := 0) (rm5_1g l Z ar hw [] b19 ((if wh1 = (0 : Int32) then (if wh0 = (0 : Int32) then (0 : Int64) else q0) else tm1) + q4) p5 (if wh1 = (0 : Int32) then (if wh0 = (0 : Int32) then (0 : Int64) else q0) else tm1) dq_22 es_22 ke_22 nw_347 kn_347 tm1 p2 T347.heap n0 O347 HW E347_348 u347_2 u347_1 E347_349 u347_3 u347_4 u347_5 u347_6 u347_7 u347_8 hc357 (by rw [own_wd]; exact hc358) hc359 hc377) hZ (ow hw 32 rfl) (ow hw 2 rfl) (by decide) (by decide)) q378a q378c (g := (mkF m 137 #[jv q0, se, iv p1, iv p2, iv p3, jv q4, se, iv p5, iv lk0, iv wh0, iv lk1, iv wh1, jv tm1, se, rv b19, jv (if wh1 = (0 : Int32) then (if wh0 = (0 : Int32) then (0 : Int64) else q0) else tm1), se, jv ((if wh1 = (0 : Int32) then (if wh0 = (0 : Int32) then (0 : Int64) else q0) else tm1) + q4), se, un, un, un] [(.int p5), (.long ((if wh1 = (0 : Int32) then (if wh0 = (0 : Int32) then (0 : Int64) else q0) else tm1) + q4)), (.ref b19)])) rfl (by rw [hml]; rfl) (Steps.refl _) (argsL := [(.long ((if wh1 = (0 : Int32) then (if wh0 = (0 : Int32) then (0 : Int64) else q0) else tm1) + q4)), (.int p5)]) (rest := []) (lenOf pd_11 rfl) rfl (by show 2 * 0 + _ ≤ _; exact Nat.le_of_eq rfl) (hb hby at_137) (fun _ _ => ⟨rfl, rfl, (by decide : 4 + 1 ≤ _), (by decide : 24 + 4 ≤ _)⟩)
         dsimp only [Pt.U, Pt.locs, Pt.cells, Pt.slots] at X378 l378 y378 z378 st378 hQ378
         subst l378 y378 z378
         obtain ⟨b_378, kb_378, rfl, N378q, Kq378, u378_0, u378_1⟩ := hQ378
         have N378 := Fr.app N347 N378q
         have E378_379 := E347_348.keep Kq378
         have E378_380 := E347_349.keep Kq378
         have F378_381 := u347_1.keep Kq378 nin0
         have F378_382 := u347_2.keep Kq378 nin0
         have F378_383 := u347_3.keep Kq378 nin0
         have F378_384 := u347_4.keep Kq378 nin0
         have F378_385 := u347_5.keep Kq378 nin0
         have V378_386 := u347_6.keep Kq378 nin0
         have E378_387 := u347_7.keep Kq378
         have V378_388 := u347_8.keep Kq378 nin0
         have K378 := K347.trans Kq378 all0
         have O378 := O347.keep Kq378 all0
         have sz389 : h0.size ≤ b_378 := Nat.le_trans K347.1 u378_1
         have gn389 : n0 ≤ b_378 := Nat.le_trans (Nat.le_trans (Nat.le_of_eq O347.1.symm) O347.2.1) u378_1
         have ne390 : b19 ≠ b_378 := Nat.ne_of_lt (Nat.lt_of_lt_of_le (E347_348).lt u378_1)
         have ne391 : dq_22 ≠ b_378 := Nat.ne_of_lt (Nat.lt_of_lt_of_le (E347_349).lt u378_1)
         have ne392 : es_22 ≠ b_378 := Nat.ne_of_lt (Nat.lt_of_lt_of_le (u347_6).lt u378_1)
         have ne393 : nw_347 ≠ b_378 := Nat.ne_of_lt (Nat.lt_of_lt_of_le (u347_7).lt u378_1)
         obtain ⟨_, _, ⟨T394, L394, k394, n394⟩, -, X394, ⟨Lc394, hQ394, l394, y394, z394⟩, st394⟩ := Jvm.LawKit.callS X378 hx (y := y19) hown (mvT hZ (ow hw 124 rfl)) (mvT hZ (ow hw 125 rfl)) (mvT hZ (ow hw 126 rfl)) (mvT hZ (ow hw 127 rfl)) (by decide) (backOf (W := 0) (rm19_4 l Z ar hw [] b_378 (p2 + (1 : Int32)) (2147483647 : Int32) (1 : Int32) p5 kb_378 (p2 + (1 : Int32)) (2147483647 : Int32) (1 : Int32) p5 T378.heap n0 O378 u378_0) hZ (ow hw 127 rfl) (ow hw 126 rfl) (by decide) (by decide)) (g := (mkF m 255 #[jv q0, se, iv p1, iv p2, iv p3, jv q4, se, iv p5, iv lk0, iv wh0, iv lk1, iv wh1, jv tm1, se, rv b19, jv (if wh1 = (0 : Int32) then (if wh0 = (0 : Int32) then (0 : Int64) else q0) else tm1), se, jv ((if wh1 = (0 : Int32) then (if wh0 = (0 : Int32) then (0 : Int64) else q0) else tm1) + q4), se, rv b_378, iv (1 : Int32), iv p2] [(.int p5), (.int (1 : Int32)), (.int (2147483647 : Int32)), (.int (p2 + (1 : Int32))), (.int (4 : Int32)), (.ref b_378)])) rfl (by rw [hml]; rfl) (argsL := [(.ref b_378), (.int (4 : Int32)), (.int (p2 + (1 : Int32))), (.int (2147483647 : Int32)), (.int (1 : Int32)), (.int p5)]) (rest := []) (lenOf pd_13 rfl) rfl (by show 2 * 0 + _ ≤ _; exact Nat.le_of_eq rfl) (hb hby at_255) (fun _ _ => ⟨rfl, rfl, (by decide : 5 + 0 ≤ _), (by decide : 28 + 0 ≤ _)⟩)
         dsimp only [Pt.U, Pt.locs, Pt.cells, Pt.slots] at X394 l394 y394 z394 st394 hQ394
         subst l394 y394 z394
         obtain ⟨rfl, N394q, e394⟩ := hQ394
         have N394 := Fr.app N378 N394q
         have r394 : (f19_4 (p2 + (1 : Int32)) (2147483647 : Int32) (1 : Int32) p5 (p2 + (1 : Int32)) (2147483647 : Int32) (1 : Int32) p5) = (1 : Int32) := by rw [f19_4, if_pos (rfl : (p2 + (1 : Int32)) = (p2 + (1 : Int32))), if_pos ((by decide) : (2147483647 : Int32) = (2147483647 : Int32)), if_pos ((by decide) : (1 : Int32) = (1 : Int32)), if_pos (rfl : p5 = p5)] <;> decide
         rw [r394] at st394
         obtain ⟨fs, hr, hrun, hended, hW, hsame⟩ := X394.leave (v := some (.int (1 : Int32))) (fun h => by rw [Bd.returns] at h; cases h)
         subst hS0
         refine ⟨_, _, pre356 _ ?_, hrun, hended, _, _, rfl, ?_, ⟨_, rfl⟩, hW, hsame.mono (by decide) (by decide)⟩
         ·
          refine XS.aload X347.here hx rfl (hb hby at_131) rfl rfl ?_
          refine XS.lload X347.here hx rfl (hb hby at_133) rfl ?_
          refine XS.iload X347.here hx rfl (hb hby at_135) rfl ?_
          show AT p e below T347 m 137 #[jv q0, se, iv p1, iv p2, iv p3, jv q4, se, iv p5, iv lk0, iv wh0, iv lk1, iv wh1, jv tm1, se, rv b19, jv (if wh1 = (0 : Int32) then (if wh0 = (0 : Int32) then (0 : Int64) else q0) else tm1), se, jv ((if wh1 = (0 : Int32) then (if wh0 = (0 : Int32) then (0 : Int64) else q0) else tm1) + q4), se, un, un, un] [(.int p5), (.long ((if wh1 = (0 : Int32) then (if wh0 = (0 : Int32) then (0 : Int64) else q0) else tm1) + q4)), (.ref b19)] _
          refine st378.trans ?_
          refine XS.astore X378.here hx rfl (hb hby at_140) rfl rfl (l' := #[jv q0, se, iv p1, iv p2, iv p3, jv q4, se, iv p5, iv lk0, iv wh0, iv lk1, iv wh1, jv tm1, se, rv b19, jv (if wh1 = (0 : Int32) then (if wh0 = (0 : Int32) then (0 : Int64) else q0) else tm1), se, jv ((if wh1 = (0 : Int32) then (if wh0 = (0 : Int32) then (0 : Int64) else q0) else tm1) + q4), se, rv b_378, un, un]) rfl ?_
          refine XS.iload X378.here hx rfl (hb hby at_142) rfl ?_
          show AT p e below T378 m 144 #[jv q0, se, iv p1, iv p2, iv p3, jv q4, se, iv p5, iv lk0, iv wh0, iv lk1, iv wh1, jv tm1, se, rv b19, jv (if wh1 = (0 : Int32) then (if wh0 = (0 : Int32) then (0 : Int64) else q0) else tm1), se, jv ((if wh1 = (0 : Int32) then (if wh0 = (0 : Int32) then (0 : Int64) else q0) else tm1) + q4), se, rv b_378, un, un] [(.int lk0)] _
          refine XS.ifNo X378.here hx rfl (hb hby at_144) rfl (XT.i0_eq_f (hc29 : ¬ (lk0 = (0 : Int32)))) ?_
          show AT p e below T378 m 147 #[jv q0, se, iv p1, iv p2, iv p3, jv q4, se, iv p5, iv lk0, iv wh0, iv lk1, iv wh1, jv tm1, se, rv b19, jv (if wh1 = (0 : Int32) then (if wh0 = (0 : Int32) then (0 : Int64) else q0) else tm1), se, jv ((if wh1 = (0 : Int32) then (if wh0 = (0 : Int32) then (0 : Int64) else q0) else tm1) + q4), se, rv b_378, un, un] [] _
          refine XS.iloadN X378.here hx rfl (hb hby at_147) rfl ?_
          show AT p e below T378 m 148 #[jv q0, se, iv p1, iv p2, iv p3, jv q4, se, iv p5, iv lk0, iv wh0, iv lk1, iv wh1, jv tm1, se, rv b19, jv (if wh1 = (0 : Int32) then (if wh0 = (0 : Int32) then (0 : Int64) else q0) else tm1), se, jv ((if wh1 = (0 : Int32) then (if wh0 = (0 : Int32) then (0 : Int64) else q0) else tm1) + q4), se, rv b_378, un, un] [(.int p1)] _
          refine XS.ifYes X378.here hx rfl (pc0 := 148) (pc' := 160) rfl (hb hby at_148) rfl (XT.i0_le_t (hc113 : ¬ ((0 : Int32) < p1))) (by decide) (by decide) ?_
          refine XS.iload X378.here hx rfl (hb hby at_160) rfl ?_
          show AT p e below T378 m 162 #[jv q0, se, iv p1, iv p2, iv p3, jv q4, se, iv p5, iv lk0, iv wh0, iv lk1, iv wh1, jv tm1, se, rv b19, jv (if wh1 = (0 : Int32) then (if wh0 = (0 : Int32) then (0 : Int64) else q0) else tm1), se, jv ((if wh1 = (0 : Int32) then (if wh0 = (0 : Int32) then (0 : Int64) else q0) else tm1) + q4), se, rv b_378, un, un] [(.int lk1)] _
          refine XS.ifNo X378.here hx rfl (hb hby at_162) rfl (XT.i0_eq_f (hc343 : ¬ (lk1 = (0 : Int32)))) ?_
          refine XS.iloadN X378.here hx rfl (hb hby at_165) rfl ?_
          show AT p e below T378 m 166 #[jv q0, se, iv p1, iv p2, iv p3, jv q4, se, iv p5, iv lk0, iv wh0, iv lk1, iv wh1, jv tm1, se, rv b19, jv (if wh1 = (0 : Int32) then (if wh0 = (0 : Int32) then (0 : Int64) else q0) else tm1), se, jv ((if wh1 = (0 : Int32) then (if wh0 = (0 : Int32) then (0 : Int64) else q0) else tm1) + q4), se, rv b_378, un, un] [(.int p2)] _
          refine XS.ifNo X378.here hx rfl (hb hby at_166) rfl (XT.i0_le_f (hc346 : (0 : Int32) < p2)) ?_
          show AT p e below T378 m 169 #[jv q0, se, iv p1, iv p2, iv p3, jv q4, se, iv p5, iv lk0, iv wh0, iv lk1, iv wh1, jv tm1, se, rv b19, jv (if wh1 = (0 : Int32) then (if wh0 = (0 : Int32) then (0 : Int64) else q0) else tm1), se, jv ((if wh1 = (0 : Int32) then (if wh0 = (0 : Int32) then (0 : Int64) else q0) else tm1) + q4), se, rv b_378, un, un] [] _
          refine XS.iconst X378.here hx rfl (hb hby at_169) ?_
          refine XS.istore X378.here hx rfl (hb hby at_170) rfl (l' := #[jv q0, se, iv p1, iv p2, iv p3, jv q4, se, iv p5, iv lk0, iv wh0, iv lk1, iv wh1, jv tm1, se, rv b19, jv (if wh1 = (0 : Int32) then (if wh0 = (0 : Int32) then (0 : Int64) else q0) else tm1), se, jv ((if wh1 = (0 : Int32) then (if wh0 = (0 : Int32) then (0 : Int64) else q0) else tm1) + q4), se, rv b_378, iv (1 : Int32), un]) rfl ?_
          refine XS.iloadN X378.here hx rfl (hb hby at_172) rfl ?_
          show AT p e below T378 m 173 #[jv q0, se, iv p1, iv p2, iv p3, jv q4, se, iv p5, iv lk0, iv wh0, iv lk1, iv wh1, jv tm1, se, rv b19, jv (if wh1 = (0 : Int32) then (if wh0 = (0 : Int32) then (0 : Int64) else q0) else tm1), se, jv ((if wh1 = (0 : Int32) then (if wh0 = (0 : Int32) then (0 : Int64) else q0) else tm1) + q4), se, rv b_378, iv (1 : Int32), un] [(.int p2)] _
          refine XS.istore X378.here hx rfl (hb hby at_173) rfl (l' := #[jv q0, se, iv p1, iv p2, iv p3, jv q4, se, iv p5, iv lk0, iv wh0, iv lk1, iv wh1, jv tm1, se, rv b19, jv (if wh1 = (0 : Int32) then (if wh0 = (0 : Int32) then (0 : Int64) else q0) else tm1), se, jv ((if wh1 = (0 : Int32) then (if wh0 = (0 : Int32) then (0 : Int64) else q0) else tm1) + q4), se, rv b_378, iv (1 : Int32), iv p2]) rfl ?_
          refine XS.goto X378.here hx rfl (pc0 := 175) (pc' := 184) rfl (hb hby at_175) (by decide) (by decide) ?_
          refine XS.iload X378.here hx rfl (hb hby at_184) rfl ?_
          show AT p e below T378 m 186 #[jv q0, se, iv p1, iv p2, iv p3, jv q4, se, iv p5, iv lk0, iv wh0, iv lk1, iv wh1, jv tm1, se, rv b19, jv (if wh1 = (0 : Int32) then (if wh0 = (0 : Int32) then (0 : Int64) else q0) else tm1), se, jv ((if wh1 = (0 : Int32) then (if wh0 = (0 : Int32) then (0 : Int64) else q0) else tm1) + q4), se, rv b_378, iv (1 : Int32), iv p2] [(.int (1 : Int32))] _
          refine XS.ifNo X378.here hx rfl (hb hby at_186) rfl (XT.i0_eq_f ((by decide) : ¬ ((1 : Int32) = (0 : Int32)))) ?_
          show AT p e below T378 m 189 #[jv q0, se, iv p1, iv p2, iv p3, jv q4, se, iv p5, iv lk0, iv wh0, iv lk1, iv wh1, jv tm1, se, rv b19, jv (if wh1 = (0 : Int32) then (if wh0 = (0 : Int32) then (0 : Int64) else q0) else tm1), se, jv ((if wh1 = (0 : Int32) then (if wh0 = (0 : Int32) then (0 : Int64) else q0) else tm1) + q4), se, rv b_378, iv (1 : Int32), iv p2] [] _
          refine XS.iload X378.here hx rfl (hb hby at_189) rfl ?_
          show AT p e below T378 m 191 #[jv q0, se, iv p1, iv p2, iv p3, jv q4, se, iv p5, iv lk0, iv wh0, iv lk1, iv wh1, jv tm1, se, rv b19, jv (if wh1 = (0 : Int32) then (if wh0 = (0 : Int32) then (0 : Int64) else q0) else tm1), se, jv ((if wh1 = (0 : Int32) then (if wh0 = (0 : Int32) then (0 : Int64) else q0) else tm1) + q4), se, rv b_378, iv (1 : Int32), iv p2] [(.int p5)] _
          refine XS.ifNo X378.here hx rfl (hb hby at_191) rfl (XT.i0_le_f (hc357 : (0 : Int32) < p5)) ?_
          refine XS.lload X378.here hx rfl (hb hby at_194) rfl ?_
          refine X378.ldc2Long hx hown (mvT hZ (ow hw 123 rfl)) (g := (mkF m 196 #[jv q0, se, iv p1, iv p2, iv p3, jv q4, se, iv p5, iv lk0, iv wh0, iv lk1, iv wh1, jv tm1, se, rv b19, jv (if wh1 = (0 : Int32) then (if wh0 = (0 : Int32) then (0 : Int64) else q0) else tm1), se, jv ((if wh1 = (0 : Int32) then (if wh0 = (0 : Int32) then (0 : Int64) else q0) else tm1) + q4), se, rv b_378, iv (1 : Int32), iv p2] [(.long q4)])) rfl (hb hby at_196) _ ?_
          show AT p e below T378 m 199 #[jv q0, se, iv p1, iv p2, iv p3, jv q4, se, iv p5, iv lk0, iv wh0, iv lk1, iv wh1, jv tm1, se, rv b19, jv (if wh1 = (0 : Int32) then (if wh0 = (0 : Int32) then (0 : Int64) else q0) else tm1), se, jv ((if wh1 = (0 : Int32) then (if wh0 = (0 : Int32) then (0 : Int64) else q0) else tm1) + q4), se, rv b_378, iv (1 : Int32), iv p2] [(.long (600000000000 : Int64)), (.long q4)] _
          refine XS.lcmp X378.here hx rfl (hb hby at_199) rfl ?_
          show AT p e below T378 m 200 #[jv q0, se, iv p1, iv p2, iv p3, jv q4, se, iv p5, iv lk0, iv wh0, iv lk1, iv wh1, jv tm1, se, rv b19, jv (if wh1 = (0 : Int32) then (if wh0 = (0 : Int32) then (0 : Int64) else q0) else tm1), se, jv ((if wh1 = (0 : Int32) then (if wh0 = (0 : Int32) then (0 : Int64) else q0) else tm1) + q4), se, rv b_378, iv (1 : Int32), iv p2] [(.int (XT.cmpL q4 (600000000000 : Int64)))] _
          refine XS.ifYes X378.here hx rfl (pc0 := 200) (pc' := 214) rfl (hb hby at_200) rfl (XT.ll_lt_t (hc358 : q4 < (600000000000 : Int64))) (by decide) (by decide) ?_
          refine XS.iload X378.here hx rfl (hb hby at_214) rfl ?_
          refine XS.iload X378.here hx rfl (hb hby at_216) rfl ?_
          show AT p e below T378 m 218 #[jv q0, se, iv p1, iv p2, iv p3, jv q4, se, iv p5, iv lk0, iv wh0, iv lk1, iv wh1, jv tm1, se, rv b19, jv (if wh1 = (0 : Int32) then (if wh0 = (0 : Int32) then (0 : Int64) else q0) else tm1), se, jv ((if wh1 = (0 : Int32) then (if wh0 = (0 : Int32) then (0 : Int64) else q0) else tm1) + q4), se, rv b_378, iv (1 : Int32), iv p2] [(.int p5), (.int p2)] _
          refine XS.icmpYes X378.here hx rfl (pc0 := 218) (pc' := 236) rfl (hb hby at_218) rfl (XT.ii_ge_t (hc359 : ¬ (p2 < p5))) (by decide) (by decide) ?_
          show AT p e below T378 m 236 #[jv q0, se, iv p1, iv p2, iv p3, jv q4, se, iv p5, iv lk0, iv wh0, iv lk1, iv wh1, jv tm1, se, rv b19, jv (if wh1 = (0 : Int32) then (if wh0 = (0 : Int32) then (0 : Int64) else q0) else tm1), se, jv ((if wh1 = (0 : Int32) then (if wh0 = (0 : Int32) then (0 : Int64) else q0) else tm1) + q4), se, rv b_378, iv (1 : Int32), iv p2] [] _
          refine XS.iload X378.here hx rfl (hb hby at_236) rfl ?_
          refine XS.iload X378.here hx rfl (hb hby at_238) rfl ?_
          show AT p e below T378 m 240 #[jv q0, se, iv p1, iv p2, iv p3, jv q4, se, iv p5, iv lk0, iv wh0, iv lk1, iv wh1, jv tm1, se, rv b19, jv (if wh1 = (0 : Int32) then (if wh0 = (0 : Int32) then (0 : Int64) else q0) else tm1), se, jv ((if wh1 = (0 : Int32) then (if wh0 = (0 : Int32) then (0 : Int64) else q0) else tm1) + q4), se, rv b_378, iv (1 : Int32), iv p2] [(.int p5), (.int p2)] _
          refine XS.icmpNo X378.here hx rfl (hb hby at_240) rfl (XT.ii_le_f (hc377 : p5 < p2)) ?_
          refine XS.aload X378.here hx rfl (hb hby at_243) rfl rfl ?_
          show AT p e below T378 m 245 #[jv q0, se, iv p1, iv p2, iv p3, jv q4, se, iv p5, iv lk0, iv wh0, iv lk1, iv wh1, jv tm1, se, rv b19, jv (if wh1 = (0 : Int32) then (if wh0 = (0 : Int32) then (0 : Int64) else q0) else tm1), se, jv ((if wh1 = (0 : Int32) then (if wh0 = (0 : Int32) then (0 : Int64) else q0) else tm1) + q4), se, rv b_378, iv (1 : Int32), iv p2] [(.ref b_378)] _
          refine XS.iconst X378.here hx rfl (hb hby at_245) ?_
          refine XS.iload X378.here hx rfl (hb hby at_246) rfl ?_
          refine XS.iconst X378.here hx rfl (hb hby at_248) ?_
          show AT p e below T378 m 249 #[jv q0, se, iv p1, iv p2, iv p3, jv q4, se, iv p5, iv lk0, iv wh0, iv lk1, iv wh1, jv tm1, se, rv b19, jv (if wh1 = (0 : Int32) then (if wh0 = (0 : Int32) then (0 : Int64) else q0) else tm1), se, jv ((if wh1 = (0 : Int32) then (if wh0 = (0 : Int32) then (0 : Int64) else q0) else tm1) + q4), se, rv b_378, iv (1 : Int32), iv p2] [(.int (1 : Int32)), (.int p2), (.int (4 : Int32)), (.ref b_378)] _
          refine XS.iadd X378.here hx rfl (hb hby at_249) rfl ?_
          refine X378.ldcInt hx hown (mvT hZ (ow hw 129 rfl)) (g := (mkF m 250 #[jv q0, se, iv p1, iv p2, iv p3, jv q4, se, iv p5, iv lk0, iv wh0, iv lk1, iv wh1, jv tm1, se, rv b19, jv (if wh1 = (0 : Int32) then (if wh0 = (0 : Int32) then (0 : Int64) else q0) else tm1), se, jv ((if wh1 = (0 : Int32) then (if wh0 = (0 : Int32) then (0 : Int64) else q0) else tm1) + q4), se, rv b_378, iv (1 : Int32), iv p2] [(.int (p2 + (1 : Int32))), (.int (4 : Int32)), (.ref b_378)])) rfl (hb hby at_250) _ ?_
          refine XS.iconst X378.here hx rfl (hb hby at_252) ?_
          show AT p e below T378 m 253 #[jv q0, se, iv p1, iv p2, iv p3, jv q4, se, iv p5, iv lk0, iv wh0, iv lk1, iv wh1, jv tm1, se, rv b19, jv (if wh1 = (0 : Int32) then (if wh0 = (0 : Int32) then (0 : Int64) else q0) else tm1), se, jv ((if wh1 = (0 : Int32) then (if wh0 = (0 : Int32) then (0 : Int64) else q0) else tm1) + q4), se, rv b_378, iv (1 : Int32), iv p2] [(.int (1 : Int32)), (.int (2147483647 : Int32)), (.int (p2 + (1 : Int32))), (.int (4 : Int32)), (.ref b_378)] _
          refine XS.iload X378.here hx rfl (hb hby at_253) rfl ?_
          refine st394 _ ?_
          exact retN X394 hx (t := .boolean) Bd.returns (by simp) (hb hby at_258) hr
         ·
          show Q0 Z q0 p1 p2 p3 q4 p5 h0 n0 _ T394.heap _
          rw [e394]
          exact ⟨rfl, N394⟩
        ·
         obtain ⟨cq395, kq395, q395a, q395b, q395c⟩ := isOf hZ rfl E347_348
         obtain ⟨_, _, ⟨T395, L395, k395, n395⟩, -, X395, ⟨Lc395, hQ395, l395, y395, z395⟩, st395⟩ := X347.virtualBack hx (y := y5) (z := y5) hown (mvT hZ (ow hw 28 rfl)) (mvT hZ (ow hw 29 rfl)) (notFace_of_selects (args := #[]) (mvT hZ (ow hw 31 rfl))) (mvT hZ (ow hw 31 rfl)) (mvT hZ (ow hw 30 rfl)) (by decide) (backOf (W := 0) (rm5_1e l Z ar hw [] b19 ((if wh1 = (0 : Int32) then (if wh0 = (0 : Int32) then (0 : Int64) else q0) else tm1) + q4) p5 (if wh1 = (0 : Int32) then (if wh0 = (0 : Int32) then (0 : Int64) else q0) else tm1) dq_22 es_22 ke_22 nw_347 kn_347 tm1 p2 T347.heap n0 O347 HW E347_348 u347_2 u347_1 E347_349 u347_3 u347_4 u347_5 u347_6 u347_7 u347_8 hc357 (by rw [own_wd]; exact hc358) hc359 hc377) hZ (ow hw 32 rfl) (ow hw 2 rfl) (by decide) (by decide)) q395a q395c (g := (mkF m 137 #[jv q0, se, iv p1, iv p2, iv p3, jv q4, se, iv p5, iv lk0, iv wh0, iv lk1, iv wh1, jv tm1, se, rv b19, jv (if wh1 = (0 : Int32) then (if wh0 = (0 : Int32) then (0 : Int64) else q0) else tm1), se, jv ((if wh1 = (0 : Int32) then (if wh0 = (0 : Int32) then (0 : Int64) else q0) else tm1) + q4), se, un, un, un] [(.int p5), (.long ((if wh1 = (0 : Int32) then (if wh0 = (0 : Int32) then (0 : Int64) else q0) else tm1) + q4)), (.ref b19)])) rfl (by rw [hml]; rfl) (Steps.refl _) (argsL := [(.long ((if wh1 = (0 : Int32) then (if wh0 = (0 : Int32) then (0 : Int64) else q0) else tm1) + q4)), (.int p5)]) (rest := []) (lenOf pd_11 rfl) rfl (by show 2 * 0 + _ ≤ _; exact Nat.le_of_eq rfl) (hb hby at_137) (fun _ _ => ⟨rfl, rfl, (by decide : 4 + 1 ≤ _), (by decide : 24 + 0 ≤ _)⟩)
         dsimp only [Pt.U, Pt.locs, Pt.cells, Pt.slots] at X395 l395 y395 z395 st395 hQ395
         subst l395 y395 z395
         obtain ⟨b_395, kb_395, rfl, N395q, Kq395, u395_0, u395_1⟩ := hQ395
         have N395 := Fr.app N347 N395q
         have E395_396 := E347_348.keep Kq395
         have E395_397 := E347_349.keep Kq395
         have F395_398 := u347_1.keep Kq395 nin0
         have F395_399 := u347_2.keep Kq395 nin0
         have F395_400 := u347_3.keep Kq395 nin0
         have F395_401 := u347_4.keep Kq395 nin0
         have F395_402 := u347_5.keep Kq395 nin0
         have V395_403 := u347_6.keep Kq395 nin0
         have E395_404 := u347_7.keep Kq395
         have V395_405 := u347_8.keep Kq395 nin0
         have K395 := K347.trans Kq395 all0
         have O395 := O347.keep Kq395 all0
         have sz406 : h0.size ≤ b_395 := Nat.le_trans K347.1 u395_1
         have gn406 : n0 ≤ b_395 := Nat.le_trans (Nat.le_trans (Nat.le_of_eq O347.1.symm) O347.2.1) u395_1
         have ne407 : b19 ≠ b_395 := Nat.ne_of_lt (Nat.lt_of_lt_of_le (E347_348).lt u395_1)
         have ne408 : dq_22 ≠ b_395 := Nat.ne_of_lt (Nat.lt_of_lt_of_le (E347_349).lt u395_1)
         have ne409 : es_22 ≠ b_395 := Nat.ne_of_lt (Nat.lt_of_lt_of_le (u347_6).lt u395_1)
         have ne410 : nw_347 ≠ b_395 := Nat.ne_of_lt (Nat.lt_of_lt_of_le (u347_7).lt u395_1)
         obtain ⟨_, _, ⟨T411, L411, k411, n411⟩, -, X411, ⟨Lc411, hQ411, l411, y411, z411⟩, st411⟩ := Jvm.LawKit.callS X395 hx (y := y19) hown (mvT hZ (ow hw 124 rfl)) (mvT hZ (ow hw 125 rfl)) (mvT hZ (ow hw 126 rfl)) (mvT hZ (ow hw 127 rfl)) (by decide) (backOf (W := 0) (rm19_0 l Z ar hw [] b_395 (0 : Int32) (0 : Int32) (0 : Int32) (0 : Int32) kb_395 T395.heap n0 O395 u395_0) hZ (ow hw 127 rfl) (ow hw 126 rfl) (by decide) (by decide)) (g := (mkF m 266 #[jv q0, se, iv p1, iv p2, iv p3, jv q4, se, iv p5, iv lk0, iv wh0, iv lk1, iv wh1, jv tm1, se, rv b19, jv (if wh1 = (0 : Int32) then (if wh0 = (0 : Int32) then (0 : Int64) else q0) else tm1), se, jv ((if wh1 = (0 : Int32) then (if wh0 = (0 : Int32) then (0 : Int64) else q0) else tm1) + q4), se, rv b_395, iv (1 : Int32), iv p2] [(.int (0 : Int32)), (.int (0 : Int32)), (.int (0 : Int32)), (.int (0 : Int32)), (.int (0 : Int32)), (.ref b_395)])) rfl (by rw [hml]; rfl) (argsL := [(.ref b_395), (.int (0 : Int32)), (.int (0 : Int32)), (.int (0 : Int32)), (.int (0 : Int32)), (.int (0 : Int32))]) (rest := []) (lenOf pd_13 rfl) rfl (by show 2 * 0 + _ ≤ _; exact Nat.le_of_eq rfl) (hb hby at_266) (fun _ _ => ⟨rfl, rfl, (by decide : 5 + 0 ≤ _), (by decide : 24 + 0 ≤ _)⟩)
         dsimp only [Pt.U, Pt.locs, Pt.cells, Pt.slots] at X411 l411 y411 z411 st411 hQ411
         subst l411 y411 z411
         obtain ⟨rfl, N411q, e411⟩ := hQ411
         have N411 := Fr.app N395 N411q
         obtain ⟨fs, hr, hrun, hended, hW, hsame⟩ := X411.leave (v := some (.int (1 : Int32))) (fun h => by rw [Bd.returns] at h; cases h)
         subst hS0
         refine ⟨_, _, pre356 _ ?_, hrun, hended, _, _, rfl, ?_, ⟨_, rfl⟩, hW, hsame.mono (by decide) (by decide)⟩
         ·
          refine XS.aload X347.here hx rfl (hb hby at_131) rfl rfl ?_
          refine XS.lload X347.here hx rfl (hb hby at_133) rfl ?_
          refine XS.iload X347.here hx rfl (hb hby at_135) rfl ?_
          show AT p e below T347 m 137 #[jv q0, se, iv p1, iv p2, iv p3, jv q4, se, iv p5, iv lk0, iv wh0, iv lk1, iv wh1, jv tm1, se, rv b19, jv (if wh1 = (0 : Int32) then (if wh0 = (0 : Int32) then (0 : Int64) else q0) else tm1), se, jv ((if wh1 = (0 : Int32) then (if wh0 = (0 : Int32) then (0 : Int64) else q0) else tm1) + q4), se, un, un, un] [(.int p5), (.long ((if wh1 = (0 : Int32) then (if wh0 = (0 : Int32) then (0 : Int64) else q0) else tm1) + q4)), (.ref b19)] _
          refine st395.trans ?_
          refine XS.astore X395.here hx rfl (hb hby at_140) rfl rfl (l' := #[jv q0, se, iv p1, iv p2, iv p3, jv q4, se, iv p5, iv lk0, iv wh0, iv lk1, iv wh1, jv tm1, se, rv b19, jv (if wh1 = (0 : Int32) then (if wh0 = (0 : Int32) then (0 : Int64) else q0) else tm1), se, jv ((if wh1 = (0 : Int32) then (if wh0 = (0 : Int32) then (0 : Int64) else q0) else tm1) + q4), se, rv b_395, un, un]) rfl ?_
          refine XS.iload X395.here hx rfl (hb hby at_142) rfl ?_
          show AT p e below T395 m 144 #[jv q0, se, iv p1, iv p2, iv p3, jv q4, se, iv p5, iv lk0, iv wh0, iv lk1, iv wh1, jv tm1, se, rv b19, jv (if wh1 = (0 : Int32) then (if wh0 = (0 : Int32) then (0 : Int64) else q0) else tm1), se, jv ((if wh1 = (0 : Int32) then (if wh0 = (0 : Int32) then (0 : Int64) else q0) else tm1) + q4), se, rv b_395, un, un] [(.int lk0)] _
          refine XS.ifNo X395.here hx rfl (hb hby at_144) rfl (XT.i0_eq_f (hc29 : ¬ (lk0 = (0 : Int32)))) ?_
          show AT p e below T395 m 147 #[jv q0, se, iv p1, iv p2, iv p3, jv q4, se, iv p5, iv lk0, iv wh0, iv lk1, iv wh1, jv tm1, se, rv b19, jv (if wh1 = (0 : Int32) then (if wh0 = (0 : Int32) then (0 : Int64) else q0) else tm1), se, jv ((if wh1 = (0 : Int32) then (if wh0 = (0 : Int32) then (0 : Int64) else q0) else tm1) + q4), se, rv b_395, un, un] [] _
          refine XS.iloadN X395.here hx rfl (hb hby at_147) rfl ?_
          show AT p e below T395 m 148 #[jv q0, se, iv p1, iv p2, iv p3, jv q4, se, iv p5, iv lk0, iv wh0, iv lk1, iv wh1, jv tm1, se, rv b19, jv (if wh1 = (0 : Int32) then (if wh0 = (0 : Int32) then (0 : Int64) else q0) else tm1), se, jv ((if wh1 = (0 : Int32) then (if wh0 = (0 : Int32) then (0 : Int64) else q0) else tm1) + q4), se, rv b_395, un, un] [(.int p1)] _
          refine XS.ifYes X395.here hx rfl (pc0 := 148) (pc' := 160) rfl (hb hby at_148) rfl (XT.i0_le_t (hc113 : ¬ ((0 : Int32) < p1))) (by decide) (by decide) ?_
          refine XS.iload X395.here hx rfl (hb hby at_160) rfl ?_
          show AT p e below T395 m 162 #[jv q0, se, iv p1, iv p2, iv p3, jv q4, se, iv p5, iv lk0, iv wh0, iv lk1, iv wh1, jv tm1, se, rv b19, jv (if wh1 = (0 : Int32) then (if wh0 = (0 : Int32) then (0 : Int64) else q0) else tm1), se, jv ((if wh1 = (0 : Int32) then (if wh0 = (0 : Int32) then (0 : Int64) else q0) else tm1) + q4), se, rv b_395, un, un] [(.int lk1)] _
          refine XS.ifNo X395.here hx rfl (hb hby at_162) rfl (XT.i0_eq_f (hc343 : ¬ (lk1 = (0 : Int32)))) ?_
          refine XS.iloadN X395.here hx rfl (hb hby at_165) rfl ?_
          show AT p e below T395 m 166 #[jv q0, se, iv p1, iv p2, iv p3, jv q4, se, iv p5, iv lk0, iv wh0, iv lk1, iv wh1, jv tm1, se, rv b19, jv (if wh1 = (0 : Int32) then (if wh0 = (0 : Int32) then (0 : Int64) else q0) else tm1), se, jv ((if wh1 = (0 : Int32) then (if wh0 = (0 : Int32) then (0 : Int64) else q0) else tm1) + q4), se, rv b_395, un, un] [(.int p2)] _
          refine XS.ifNo X395.here hx rfl (hb hby at_166) rfl (XT.i0_le_f (hc346 : (0 : Int32) < p2)) ?_
          show AT p e below T395 m 169 #[jv q0, se, iv p1, iv p2, iv p3, jv q4, se, iv p5, iv lk0, iv wh0, iv lk1, iv wh1, jv tm1, se, rv b19, jv (if wh1 = (0 : Int32) then (if wh0 = (0 : Int32) then (0 : Int64) else q0) else tm1), se, jv ((if wh1 = (0 : Int32) then (if wh0 = (0 : Int32) then (0 : Int64) else q0) else tm1) + q4), se, rv b_395, un, un] [] _
          refine XS.iconst X395.here hx rfl (hb hby at_169) ?_
          refine XS.istore X395.here hx rfl (hb hby at_170) rfl (l' := #[jv q0, se, iv p1, iv p2, iv p3, jv q4, se, iv p5, iv lk0, iv wh0, iv lk1, iv wh1, jv tm1, se, rv b19, jv (if wh1 = (0 : Int32) then (if wh0 = (0 : Int32) then (0 : Int64) else q0) else tm1), se, jv ((if wh1 = (0 : Int32) then (if wh0 = (0 : Int32) then (0 : Int64) else q0) else tm1) + q4), se, rv b_395, iv (1 : Int32), un]) rfl ?_
          refine XS.iloadN X395.here hx rfl (hb hby at_172) rfl ?_
          show AT p e below T395 m 173 #[jv q0, se, iv p1, iv p2, iv p3, jv q4, se, iv p5, iv lk0, iv wh0, iv lk1, iv wh1, jv tm1, se, rv b19, jv (if wh1 = (0 : Int32) then (if wh0 = (0 : Int32) then (0 : Int64) else q0) else tm1), se, jv ((if wh1 = (0 : Int32) then (if wh0 = (0 : Int32) then (0 : Int64) else q0) else tm1) + q4), se, rv b_395, iv (1 : Int32), un] [(.int p2)] _
          refine XS.istore X395.here hx rfl (hb hby at_173) rfl (l' := #[jv q0, se, iv p1, iv p2, iv p3, jv q4, se, iv p5, iv lk0, iv wh0, iv lk1, iv wh1, jv tm1, se, rv b19, jv (if wh1 = (0 : Int32) then (if wh0 = (0 : Int32) then (0 : Int64) else q0) else tm1), se, jv ((if wh1 = (0 : Int32) then (if wh0 = (0 : Int32) then (0 : Int64) else q0) else tm1) + q4), se, rv b_395, iv (1 : Int32), iv p2]) rfl ?_
          refine XS.goto X395.here hx rfl (pc0 := 175) (pc' := 184) rfl (hb hby at_175) (by decide) (by decide) ?_
          refine XS.iload X395.here hx rfl (hb hby at_184) rfl ?_
          show AT p e below T395 m 186 #[jv q0, se, iv p1, iv p2, iv p3, jv q4, se, iv p5, iv lk0, iv wh0, iv lk1, iv wh1, jv tm1, se, rv b19, jv (if wh1 = (0 : Int32) then (if wh0 = (0 : Int32) then (0 : Int64) else q0) else tm1), se, jv ((if wh1 = (0 : Int32) then (if wh0 = (0 : Int32) then (0 : Int64) else q0) else tm1) + q4), se, rv b_395, iv (1 : Int32), iv p2] [(.int (1 : Int32))] _
          refine XS.ifNo X395.here hx rfl (hb hby at_186) rfl (XT.i0_eq_f ((by decide) : ¬ ((1 : Int32) = (0 : Int32)))) ?_
          show AT p e below T395 m 189 #[jv q0, se, iv p1, iv p2, iv p3, jv q4, se, iv p5, iv lk0, iv wh0, iv lk1, iv wh1, jv tm1, se, rv b19, jv (if wh1 = (0 : Int32) then (if wh0 = (0 : Int32) then (0 : Int64) else q0) else tm1), se, jv ((if wh1 = (0 : Int32) then (if wh0 = (0 : Int32) then (0 : Int64) else q0) else tm1) + q4), se, rv b_395, iv (1 : Int32), iv p2] [] _
          refine XS.iload X395.here hx rfl (hb hby at_189) rfl ?_
          show AT p e below T395 m 191 #[jv q0, se, iv p1, iv p2, iv p3, jv q4, se, iv p5, iv lk0, iv wh0, iv lk1, iv wh1, jv tm1, se, rv b19, jv (if wh1 = (0 : Int32) then (if wh0 = (0 : Int32) then (0 : Int64) else q0) else tm1), se, jv ((if wh1 = (0 : Int32) then (if wh0 = (0 : Int32) then (0 : Int64) else q0) else tm1) + q4), se, rv b_395, iv (1 : Int32), iv p2] [(.int p5)] _
          refine XS.ifNo X395.here hx rfl (hb hby at_191) rfl (XT.i0_le_f (hc357 : (0 : Int32) < p5)) ?_
          refine XS.lload X395.here hx rfl (hb hby at_194) rfl ?_
          refine X395.ldc2Long hx hown (mvT hZ (ow hw 123 rfl)) (g := (mkF m 196 #[jv q0, se, iv p1, iv p2, iv p3, jv q4, se, iv p5, iv lk0, iv wh0, iv lk1, iv wh1, jv tm1, se, rv b19, jv (if wh1 = (0 : Int32) then (if wh0 = (0 : Int32) then (0 : Int64) else q0) else tm1), se, jv ((if wh1 = (0 : Int32) then (if wh0 = (0 : Int32) then (0 : Int64) else q0) else tm1) + q4), se, rv b_395, iv (1 : Int32), iv p2] [(.long q4)])) rfl (hb hby at_196) _ ?_
          show AT p e below T395 m 199 #[jv q0, se, iv p1, iv p2, iv p3, jv q4, se, iv p5, iv lk0, iv wh0, iv lk1, iv wh1, jv tm1, se, rv b19, jv (if wh1 = (0 : Int32) then (if wh0 = (0 : Int32) then (0 : Int64) else q0) else tm1), se, jv ((if wh1 = (0 : Int32) then (if wh0 = (0 : Int32) then (0 : Int64) else q0) else tm1) + q4), se, rv b_395, iv (1 : Int32), iv p2] [(.long (600000000000 : Int64)), (.long q4)] _
          refine XS.lcmp X395.here hx rfl (hb hby at_199) rfl ?_
          show AT p e below T395 m 200 #[jv q0, se, iv p1, iv p2, iv p3, jv q4, se, iv p5, iv lk0, iv wh0, iv lk1, iv wh1, jv tm1, se, rv b19, jv (if wh1 = (0 : Int32) then (if wh0 = (0 : Int32) then (0 : Int64) else q0) else tm1), se, jv ((if wh1 = (0 : Int32) then (if wh0 = (0 : Int32) then (0 : Int64) else q0) else tm1) + q4), se, rv b_395, iv (1 : Int32), iv p2] [(.int (XT.cmpL q4 (600000000000 : Int64)))] _
          refine XS.ifYes X395.here hx rfl (pc0 := 200) (pc' := 214) rfl (hb hby at_200) rfl (XT.ll_lt_t (hc358 : q4 < (600000000000 : Int64))) (by decide) (by decide) ?_
          refine XS.iload X395.here hx rfl (hb hby at_214) rfl ?_
          refine XS.iload X395.here hx rfl (hb hby at_216) rfl ?_
          show AT p e below T395 m 218 #[jv q0, se, iv p1, iv p2, iv p3, jv q4, se, iv p5, iv lk0, iv wh0, iv lk1, iv wh1, jv tm1, se, rv b19, jv (if wh1 = (0 : Int32) then (if wh0 = (0 : Int32) then (0 : Int64) else q0) else tm1), se, jv ((if wh1 = (0 : Int32) then (if wh0 = (0 : Int32) then (0 : Int64) else q0) else tm1) + q4), se, rv b_395, iv (1 : Int32), iv p2] [(.int p5), (.int p2)] _
          refine XS.icmpYes X395.here hx rfl (pc0 := 218) (pc' := 236) rfl (hb hby at_218) rfl (XT.ii_ge_t (hc359 : ¬ (p2 < p5))) (by decide) (by decide) ?_
          show AT p e below T395 m 236 #[jv q0, se, iv p1, iv p2, iv p3, jv q4, se, iv p5, iv lk0, iv wh0, iv lk1, iv wh1, jv tm1, se, rv b19, jv (if wh1 = (0 : Int32) then (if wh0 = (0 : Int32) then (0 : Int64) else q0) else tm1), se, jv ((if wh1 = (0 : Int32) then (if wh0 = (0 : Int32) then (0 : Int64) else q0) else tm1) + q4), se, rv b_395, iv (1 : Int32), iv p2] [] _
          refine XS.iload X395.here hx rfl (hb hby at_236) rfl ?_
          refine XS.iload X395.here hx rfl (hb hby at_238) rfl ?_
          show AT p e below T395 m 240 #[jv q0, se, iv p1, iv p2, iv p3, jv q4, se, iv p5, iv lk0, iv wh0, iv lk1, iv wh1, jv tm1, se, rv b19, jv (if wh1 = (0 : Int32) then (if wh0 = (0 : Int32) then (0 : Int64) else q0) else tm1), se, jv ((if wh1 = (0 : Int32) then (if wh0 = (0 : Int32) then (0 : Int64) else q0) else tm1) + q4), se, rv b_395, iv (1 : Int32), iv p2] [(.int p5), (.int p2)] _
          refine XS.icmpYes X395.here hx rfl (pc0 := 240) (pc' := 259) rfl (hb hby at_240) rfl (XT.ii_le_t (hc377 : ¬ (p5 < p2))) (by decide) (by decide) ?_
          refine XS.aload X395.here hx rfl (hb hby at_259) rfl rfl ?_
          show AT p e below T395 m 261 #[jv q0, se, iv p1, iv p2, iv p3, jv q4, se, iv p5, iv lk0, iv wh0, iv lk1, iv wh1, jv tm1, se, rv b19, jv (if wh1 = (0 : Int32) then (if wh0 = (0 : Int32) then (0 : Int64) else q0) else tm1), se, jv ((if wh1 = (0 : Int32) then (if wh0 = (0 : Int32) then (0 : Int64) else q0) else tm1) + q4), se, rv b_395, iv (1 : Int32), iv p2] [(.ref b_395)] _
          refine XS.iconst X395.here hx rfl (hb hby at_261) ?_
          refine XS.iconst X395.here hx rfl (hb hby at_262) ?_
          refine XS.iconst X395.here hx rfl (hb hby at_263) ?_
          show AT p e below T395 m 264 #[jv q0, se, iv p1, iv p2, iv p3, jv q4, se, iv p5, iv lk0, iv wh0, iv lk1, iv wh1, jv tm1, se, rv b19, jv (if wh1 = (0 : Int32) then (if wh0 = (0 : Int32) then (0 : Int64) else q0) else tm1), se, jv ((if wh1 = (0 : Int32) then (if wh0 = (0 : Int32) then (0 : Int64) else q0) else tm1) + q4), se, rv b_395, iv (1 : Int32), iv p2] [(.int (0 : Int32)), (.int (0 : Int32)), (.int (0 : Int32)), (.ref b_395)] _
          refine XS.iconst X395.here hx rfl (hb hby at_264) ?_
          refine XS.iconst X395.here hx rfl (hb hby at_265) ?_
          refine st411 _ ?_
          show AT p e below T411 m 269 #[jv q0, se, iv p1, iv p2, iv p3, jv q4, se, iv p5, iv lk0, iv wh0, iv lk1, iv wh1, jv tm1, se, rv b19, jv (if wh1 = (0 : Int32) then (if wh0 = (0 : Int32) then (0 : Int64) else q0) else tm1), se, jv ((if wh1 = (0 : Int32) then (if wh0 = (0 : Int32) then (0 : Int64) else q0) else tm1) + q4), se, rv b_395, iv (1 : Int32), iv p2] [(.int (1 : Int32))] _
          exact retN X411 hx (t := .boolean) Bd.returns (by simp) (hb hby at_269) hr
         ·
          show Q0 Z q0 p1 p2 p3 q4 p5 h0 n0 _ T411.heap _
          rw [e411]
          exact ⟨rfl, N411⟩
      ·
       obtain ⟨cq412, kq412, q412a, q412b, q412c⟩ := isOf hZ rfl E347_348
       obtain ⟨_, _, ⟨T412, L412, k412, n412⟩, -, X412, ⟨Lc412, hQ412, l412, y412, z412⟩, st412⟩ := X347.virtualBack hx (y := y5) (z := y5) hown (mvT hZ (ow hw 28 rfl)) (mvT hZ (ow hw 29 rfl)) (notFace_of_selects (args := #[]) (mvT hZ (ow hw 31 rfl))) (mvT hZ (ow hw 31 rfl)) (mvT hZ (ow hw 30 rfl)) (by decide) (backOf (W := 0) (rm5_1b l Z ar hw [] b19 ((if wh1 = (0 : Int32) then (if wh0 = (0 : Int32) then (0 : Int64) else q0) else tm1) + q4) p5 (if wh1 = (0 : Int32) then (if wh0 = (0 : Int32) then (0 : Int64) else q0) else tm1) dq_22 es_22 ke_22 nw_347 kn_347 tm1 p2 T347.heap n0 O347 HW E347_348 u347_2 u347_1 E347_349 u347_3 u347_4 u347_5 u347_6 u347_7 u347_8 hc357 (by rw [own_wd]; exact hc358)) hZ (ow hw 32 rfl) (ow hw 2 rfl) (by decide) (by decide)) q412a q412c (g := (mkF m 137 #[jv q0, se, iv p1, iv p2, iv p3, jv q4, se, iv p5, iv lk0, iv wh0, iv lk1, iv wh1, jv tm1, se, rv b19, jv (if wh1 = (0 : Int32) then (if wh0 = (0 : Int32) then (0 : Int64) else q0) else tm1), se, jv ((if wh1 = (0 : Int32) then (if wh0 = (0 : Int32) then (0 : Int64) else q0) else tm1) + q4), se, un, un, un] [(.int p5), (.long ((if wh1 = (0 : Int32) then (if wh0 = (0 : Int32) then (0 : Int64) else q0) else tm1) + q4)), (.ref b19)])) rfl (by rw [hml]; rfl) (Steps.refl _) (argsL := [(.long ((if wh1 = (0 : Int32) then (if wh0 = (0 : Int32) then (0 : Int64) else q0) else tm1) + q4)), (.int p5)]) (rest := []) (lenOf pd_11 rfl) rfl (by show 2 * 0 + _ ≤ _; exact Nat.le_of_eq rfl) (hb hby at_137) (fun _ _ => ⟨rfl, rfl, (by decide : 4 + 0 ≤ _), (by decide : 24 + 0 ≤ _)⟩)
       dsimp only [Pt.U, Pt.locs, Pt.cells, Pt.slots] at X412 l412 y412 z412 st412 hQ412
       subst l412 y412 z412
       obtain ⟨rfl, N412q, e412⟩ := hQ412
       have N412 := Fr.app N347 N412q
       obtain ⟨fs, hr, hrun, hended, hW, hsame⟩ := X412.leave (v := some (.int (1 : Int32))) (fun h => by rw [Bd.returns] at h; cases h)
       subst hS0
       refine ⟨_, _, pre356 _ ?_, hrun, hended, _, _, rfl, ?_, ⟨_, rfl⟩, hW, hsame.mono (by decide) (by decide)⟩
       ·
        refine XS.aload X347.here hx rfl (hb hby at_131) rfl rfl ?_
        refine XS.lload X347.here hx rfl (hb hby at_133) rfl ?_
        refine XS.iload X347.here hx rfl (hb hby at_135) rfl ?_
        show AT p e below T347 m 137 #[jv q0, se, iv p1, iv p2, iv p3, jv q4, se, iv p5, iv lk0, iv wh0, iv lk1, iv wh1, jv tm1, se, rv b19, jv (if wh1 = (0 : Int32) then (if wh0 = (0 : Int32) then (0 : Int64) else q0) else tm1), se, jv ((if wh1 = (0 : Int32) then (if wh0 = (0 : Int32) then (0 : Int64) else q0) else tm1) + q4), se, un, un, un] [(.int p5), (.long ((if wh1 = (0 : Int32) then (if wh0 = (0 : Int32) then (0 : Int64) else q0) else tm1) + q4)), (.ref b19)] _
        refine st412.trans ?_
        refine XS.astore X412.here hx rfl (hb hby at_140) rfl rfl (l' := #[jv q0, se, iv p1, iv p2, iv p3, jv q4, se, iv p5, iv lk0, iv wh0, iv lk1, iv wh1, jv tm1, se, rv b19, jv (if wh1 = (0 : Int32) then (if wh0 = (0 : Int32) then (0 : Int64) else q0) else tm1), se, jv ((if wh1 = (0 : Int32) then (if wh0 = (0 : Int32) then (0 : Int64) else q0) else tm1) + q4), se, .val .null, un, un]) rfl ?_
        refine XS.iload X412.here hx rfl (hb hby at_142) rfl ?_
        show AT p e below T412 m 144 #[jv q0, se, iv p1, iv p2, iv p3, jv q4, se, iv p5, iv lk0, iv wh0, iv lk1, iv wh1, jv tm1, se, rv b19, jv (if wh1 = (0 : Int32) then (if wh0 = (0 : Int32) then (0 : Int64) else q0) else tm1), se, jv ((if wh1 = (0 : Int32) then (if wh0 = (0 : Int32) then (0 : Int64) else q0) else tm1) + q4), se, .val .null, un, un] [(.int lk0)] _
        refine XS.ifNo X412.here hx rfl (hb hby at_144) rfl (XT.i0_eq_f (hc29 : ¬ (lk0 = (0 : Int32)))) ?_
        show AT p e below T412 m 147 #[jv q0, se, iv p1, iv p2, iv p3, jv q4, se, iv p5, iv lk0, iv wh0, iv lk1, iv wh1, jv tm1, se, rv b19, jv (if wh1 = (0 : Int32) then (if wh0 = (0 : Int32) then (0 : Int64) else q0) else tm1), se, jv ((if wh1 = (0 : Int32) then (if wh0 = (0 : Int32) then (0 : Int64) else q0) else tm1) + q4), se, .val .null, un, un] [] _
        refine XS.iloadN X412.here hx rfl (hb hby at_147) rfl ?_
        show AT p e below T412 m 148 #[jv q0, se, iv p1, iv p2, iv p3, jv q4, se, iv p5, iv lk0, iv wh0, iv lk1, iv wh1, jv tm1, se, rv b19, jv (if wh1 = (0 : Int32) then (if wh0 = (0 : Int32) then (0 : Int64) else q0) else tm1), se, jv ((if wh1 = (0 : Int32) then (if wh0 = (0 : Int32) then (0 : Int64) else q0) else tm1) + q4), se, .val .null, un, un] [(.int p1)] _
        refine XS.ifYes X412.here hx rfl (pc0 := 148) (pc' := 160) rfl (hb hby at_148) rfl (XT.i0_le_t (hc113 : ¬ ((0 : Int32) < p1))) (by decide) (by decide) ?_
        refine XS.iload X412.here hx rfl (hb hby at_160) rfl ?_
        show AT p e below T412 m 162 #[jv q0, se, iv p1, iv p2, iv p3, jv q4, se, iv p5, iv lk0, iv wh0, iv lk1, iv wh1, jv tm1, se, rv b19, jv (if wh1 = (0 : Int32) then (if wh0 = (0 : Int32) then (0 : Int64) else q0) else tm1), se, jv ((if wh1 = (0 : Int32) then (if wh0 = (0 : Int32) then (0 : Int64) else q0) else tm1) + q4), se, .val .null, un, un] [(.int lk1)] _
        refine XS.ifNo X412.here hx rfl (hb hby at_162) rfl (XT.i0_eq_f (hc343 : ¬ (lk1 = (0 : Int32)))) ?_
        refine XS.iloadN X412.here hx rfl (hb hby at_165) rfl ?_
        show AT p e below T412 m 166 #[jv q0, se, iv p1, iv p2, iv p3, jv q4, se, iv p5, iv lk0, iv wh0, iv lk1, iv wh1, jv tm1, se, rv b19, jv (if wh1 = (0 : Int32) then (if wh0 = (0 : Int32) then (0 : Int64) else q0) else tm1), se, jv ((if wh1 = (0 : Int32) then (if wh0 = (0 : Int32) then (0 : Int64) else q0) else tm1) + q4), se, .val .null, un, un] [(.int p2)] _
        refine XS.ifNo X412.here hx rfl (hb hby at_166) rfl (XT.i0_le_f (hc346 : (0 : Int32) < p2)) ?_
        show AT p e below T412 m 169 #[jv q0, se, iv p1, iv p2, iv p3, jv q4, se, iv p5, iv lk0, iv wh0, iv lk1, iv wh1, jv tm1, se, rv b19, jv (if wh1 = (0 : Int32) then (if wh0 = (0 : Int32) then (0 : Int64) else q0) else tm1), se, jv ((if wh1 = (0 : Int32) then (if wh0 = (0 : Int32) then (0 : Int64) else q0) else tm1) + q4), se, .val .null, un, un] [] _
        refine XS.iconst X412.here hx rfl (hb hby at_169) ?_
        refine XS.istore X412.here hx rfl (hb hby at_170) rfl (l' := #[jv q0, se, iv p1, iv p2, iv p3, jv q4, se, iv p5, iv lk0, iv wh0, iv lk1, iv wh1, jv tm1, se, rv b19, jv (if wh1 = (0 : Int32) then (if wh0 = (0 : Int32) then (0 : Int64) else q0) else tm1), se, jv ((if wh1 = (0 : Int32) then (if wh0 = (0 : Int32) then (0 : Int64) else q0) else tm1) + q4), se, .val .null, iv (1 : Int32), un]) rfl ?_
        refine XS.iloadN X412.here hx rfl (hb hby at_172) rfl ?_
        show AT p e below T412 m 173 #[jv q0, se, iv p1, iv p2, iv p3, jv q4, se, iv p5, iv lk0, iv wh0, iv lk1, iv wh1, jv tm1, se, rv b19, jv (if wh1 = (0 : Int32) then (if wh0 = (0 : Int32) then (0 : Int64) else q0) else tm1), se, jv ((if wh1 = (0 : Int32) then (if wh0 = (0 : Int32) then (0 : Int64) else q0) else tm1) + q4), se, .val .null, iv (1 : Int32), un] [(.int p2)] _
        refine XS.istore X412.here hx rfl (hb hby at_173) rfl (l' := #[jv q0, se, iv p1, iv p2, iv p3, jv q4, se, iv p5, iv lk0, iv wh0, iv lk1, iv wh1, jv tm1, se, rv b19, jv (if wh1 = (0 : Int32) then (if wh0 = (0 : Int32) then (0 : Int64) else q0) else tm1), se, jv ((if wh1 = (0 : Int32) then (if wh0 = (0 : Int32) then (0 : Int64) else q0) else tm1) + q4), se, .val .null, iv (1 : Int32), iv p2]) rfl ?_
        refine XS.goto X412.here hx rfl (pc0 := 175) (pc' := 184) rfl (hb hby at_175) (by decide) (by decide) ?_
        refine XS.iload X412.here hx rfl (hb hby at_184) rfl ?_
        show AT p e below T412 m 186 #[jv q0, se, iv p1, iv p2, iv p3, jv q4, se, iv p5, iv lk0, iv wh0, iv lk1, iv wh1, jv tm1, se, rv b19, jv (if wh1 = (0 : Int32) then (if wh0 = (0 : Int32) then (0 : Int64) else q0) else tm1), se, jv ((if wh1 = (0 : Int32) then (if wh0 = (0 : Int32) then (0 : Int64) else q0) else tm1) + q4), se, .val .null, iv (1 : Int32), iv p2] [(.int (1 : Int32))] _
        refine XS.ifNo X412.here hx rfl (hb hby at_186) rfl (XT.i0_eq_f ((by decide) : ¬ ((1 : Int32) = (0 : Int32)))) ?_
        show AT p e below T412 m 189 #[jv q0, se, iv p1, iv p2, iv p3, jv q4, se, iv p5, iv lk0, iv wh0, iv lk1, iv wh1, jv tm1, se, rv b19, jv (if wh1 = (0 : Int32) then (if wh0 = (0 : Int32) then (0 : Int64) else q0) else tm1), se, jv ((if wh1 = (0 : Int32) then (if wh0 = (0 : Int32) then (0 : Int64) else q0) else tm1) + q4), se, .val .null, iv (1 : Int32), iv p2] [] _
        refine XS.iload X412.here hx rfl (hb hby at_189) rfl ?_
        show AT p e below T412 m 191 #[jv q0, se, iv p1, iv p2, iv p3, jv q4, se, iv p5, iv lk0, iv wh0, iv lk1, iv wh1, jv tm1, se, rv b19, jv (if wh1 = (0 : Int32) then (if wh0 = (0 : Int32) then (0 : Int64) else q0) else tm1), se, jv ((if wh1 = (0 : Int32) then (if wh0 = (0 : Int32) then (0 : Int64) else q0) else tm1) + q4), se, .val .null, iv (1 : Int32), iv p2] [(.int p5)] _
        refine XS.ifNo X412.here hx rfl (hb hby at_191) rfl (XT.i0_le_f (hc357 : (0 : Int32) < p5)) ?_
        refine XS.lload X412.here hx rfl (hb hby at_194) rfl ?_
        refine X412.ldc2Long hx hown (mvT hZ (ow hw 123 rfl)) (g := (mkF m 196 #[jv q0, se, iv p1, iv p2, iv p3, jv q4, se, iv p5, iv lk0, iv wh0, iv lk1, iv wh1, jv tm1, se, rv b19, jv (if wh1 = (0 : Int32) then (if wh0 = (0 : Int32) then (0 : Int64) else q0) else tm1), se, jv ((if wh1 = (0 : Int32) then (if wh0 = (0 : Int32) then (0 : Int64) else q0) else tm1) + q4), se, .val .null, iv (1 : Int32), iv p2] [(.long q4)])) rfl (hb hby at_196) _ ?_
        show AT p e below T412 m 199 #[jv q0, se, iv p1, iv p2, iv p3, jv q4, se, iv p5, iv lk0, iv wh0, iv lk1, iv wh1, jv tm1, se, rv b19, jv (if wh1 = (0 : Int32) then (if wh0 = (0 : Int32) then (0 : Int64) else q0) else tm1), se, jv ((if wh1 = (0 : Int32) then (if wh0 = (0 : Int32) then (0 : Int64) else q0) else tm1) + q4), se, .val .null, iv (1 : Int32), iv p2] [(.long (600000000000 : Int64)), (.long q4)] _
        refine XS.lcmp X412.here hx rfl (hb hby at_199) rfl ?_
        show AT p e below T412 m 200 #[jv q0, se, iv p1, iv p2, iv p3, jv q4, se, iv p5, iv lk0, iv wh0, iv lk1, iv wh1, jv tm1, se, rv b19, jv (if wh1 = (0 : Int32) then (if wh0 = (0 : Int32) then (0 : Int64) else q0) else tm1), se, jv ((if wh1 = (0 : Int32) then (if wh0 = (0 : Int32) then (0 : Int64) else q0) else tm1) + q4), se, .val .null, iv (1 : Int32), iv p2] [(.int (XT.cmpL q4 (600000000000 : Int64)))] _
        refine XS.ifNo X412.here hx rfl (hb hby at_200) rfl (XT.ll_lt_f (hc358 : ¬ (q4 < (600000000000 : Int64)))) ?_
        refine XS.aload X412.here hx rfl (hb hby at_203) rfl rfl ?_
        show AT p e below T412 m 205 #[jv q0, se, iv p1, iv p2, iv p3, jv q4, se, iv p5, iv lk0, iv wh0, iv lk1, iv wh1, jv tm1, se, rv b19, jv (if wh1 = (0 : Int32) then (if wh0 = (0 : Int32) then (0 : Int64) else q0) else tm1), se, jv ((if wh1 = (0 : Int32) then (if wh0 = (0 : Int32) then (0 : Int64) else q0) else tm1) + q4), se, .val .null, iv (1 : Int32), iv p2] [.null] _
        refine XS.ifnonnullNo X412.here hx rfl (hb hby at_205) rfl ?_
        refine XS.iconst X412.here hx rfl (hb hby at_208) ?_
        show AT p e below T412 m 209 #[jv q0, se, iv p1, iv p2, iv p3, jv q4, se, iv p5, iv lk0, iv wh0, iv lk1, iv wh1, jv tm1, se, rv b19, jv (if wh1 = (0 : Int32) then (if wh0 = (0 : Int32) then (0 : Int64) else q0) else tm1), se, jv ((if wh1 = (0 : Int32) then (if wh0 = (0 : Int32) then (0 : Int64) else q0) else tm1) + q4), se, .val .null, iv (1 : Int32), iv p2] [(.int (1 : Int32))] _
        refine XS.goto X412.here hx rfl (pc0 := 209) (pc' := 213) rfl (hb hby at_209) (by decide) (by decide) ?_
        exact retN X412 hx (t := .boolean) Bd.returns (by simp) (hb hby at_213) hr
       ·
        show Q0 Z q0 p1 p2 p3 q4 p5 h0 n0 _ T412.heap _
        rw [e412]
        exact ⟨rfl, N412⟩
     ·
      obtain ⟨cq413, kq413, q413a, q413b, q413c⟩ := isOf hZ rfl E347_348
      obtain ⟨_, _, ⟨T413, L413, k413, n413⟩, -, X413, ⟨Lc413, hQ413, l413, y413, z413⟩, st413⟩ := X347.virtualBack hx (y := y5) (z := y5) hown (mvT hZ (ow hw 28 rfl)) (mvT hZ (ow hw 29 rfl)) (notFace_of_selects (args := #[]) (mvT hZ (ow hw 31 rfl))) (mvT hZ (ow hw 31 rfl)) (mvT hZ (ow hw 30 rfl)) (by decide) (backOf (W := 0) (rm5_1a l Z ar hw [] b19 ((if wh1 = (0 : Int32) then (if wh0 = (0 : Int32) then (0 : Int64) else q0) else tm1) + q4) p5 (if wh1 = (0 : Int32) then (if wh0 = (0 : Int32) then (0 : Int64) else q0) else tm1) dq_22 es_22 ke_22 nw_347 kn_347 tm1 p2 T347.heap n0 O347 E347_348 u347_2 u347_1 E347_349 u347_3 u347_4 u347_5 u347_6 u347_7 u347_8 hc357) hZ (ow hw 32 rfl) (ow hw 2 rfl) (by decide) (by decide)) q413a q413c (g := (mkF m 137 #[jv q0, se, iv p1, iv p2, iv p3, jv q4, se, iv p5, iv lk0, iv wh0, iv lk1, iv wh1, jv tm1, se, rv b19, jv (if wh1 = (0 : Int32) then (if wh0 = (0 : Int32) then (0 : Int64) else q0) else tm1), se, jv ((if wh1 = (0 : Int32) then (if wh0 = (0 : Int32) then (0 : Int64) else q0) else tm1) + q4), se, un, un, un] [(.int p5), (.long ((if wh1 = (0 : Int32) then (if wh0 = (0 : Int32) then (0 : Int64) else q0) else tm1) + q4)), (.ref b19)])) rfl (by rw [hml]; rfl) (Steps.refl _) (argsL := [(.long ((if wh1 = (0 : Int32) then (if wh0 = (0 : Int32) then (0 : Int64) else q0) else tm1) + q4)), (.int p5)]) (rest := []) (lenOf pd_11 rfl) rfl (by show 2 * 0 + _ ≤ _; exact Nat.le_of_eq rfl) (hb hby at_137) (fun _ _ => ⟨rfl, rfl, (by decide : 4 + 0 ≤ _), (by decide : 24 + 0 ≤ _)⟩)
      dsimp only [Pt.U, Pt.locs, Pt.cells, Pt.slots] at X413 l413 y413 z413 st413 hQ413
      subst l413 y413 z413
      obtain ⟨rfl, N413q, e413⟩ := hQ413
      have N413 := Fr.app N347 N413q
      obtain ⟨fs, hr, hrun, hended, hW, hsame⟩ := X413.leave (v := some (.int (1 : Int32))) (fun h => by rw [Bd.returns] at h; cases h)
      subst hS0
      refine ⟨_, _, pre356 _ ?_, hrun, hended, _, _, rfl, ?_, ⟨_, rfl⟩, hW, hsame.mono (by decide) (by decide)⟩
      ·
       refine XS.aload X347.here hx rfl (hb hby at_131) rfl rfl ?_
       refine XS.lload X347.here hx rfl (hb hby at_133) rfl ?_
       refine XS.iload X347.here hx rfl (hb hby at_135) rfl ?_
       show AT p e below T347 m 137 #[jv q0, se, iv p1, iv p2, iv p3, jv q4, se, iv p5, iv lk0, iv wh0, iv lk1, iv wh1, jv tm1, se, rv b19, jv (if wh1 = (0 : Int32) then (if wh0 = (0 : Int32) then (0 : Int64) else q0) else tm1), se, jv ((if wh1 = (0 : Int32) then (if wh0 = (0 : Int32) then (0 : Int64) else q0) else tm1) + q4), se, un, un, un] [(.int p5), (.long ((if wh1 = (0 : Int32) then (if wh0 = (0 : Int32) then (0 : Int64) else q0) else tm1) + q4)), (.ref b19)] _
       refine st413.trans ?_
       refine XS.astore X413.here hx rfl (hb hby at_140) rfl rfl (l' := #[jv q0, se, iv p1, iv p2, iv p3, jv q4, se, iv p5, iv lk0, iv wh0, iv lk1, iv wh1, jv tm1, se, rv b19, jv (if wh1 = (0 : Int32) then (if wh0 = (0 : Int32) then (0 : Int64) else q0) else tm1), se, jv ((if wh1 = (0 : Int32) then (if wh0 = (0 : Int32) then (0 : Int64) else q0) else tm1) + q4), se, .val .null, un, un]) rfl ?_
       refine XS.iload X413.here hx rfl (hb hby at_142) rfl ?_
       show AT p e below T413 m 144 #[jv q0, se, iv p1, iv p2, iv p3, jv q4, se, iv p5, iv lk0, iv wh0, iv lk1, iv wh1, jv tm1, se, rv b19, jv (if wh1 = (0 : Int32) then (if wh0 = (0 : Int32) then (0 : Int64) else q0) else tm1), se, jv ((if wh1 = (0 : Int32) then (if wh0 = (0 : Int32) then (0 : Int64) else q0) else tm1) + q4), se, .val .null, un, un] [(.int lk0)] _
       refine XS.ifNo X413.here hx rfl (hb hby at_144) rfl (XT.i0_eq_f (hc29 : ¬ (lk0 = (0 : Int32)))) ?_
       show AT p e below T413 m 147 #[jv q0, se, iv p1, iv p2, iv p3, jv q4, se, iv p5, iv lk0, iv wh0, iv lk1, iv wh1, jv tm1, se, rv b19, jv (if wh1 = (0 : Int32) then (if wh0 = (0 : Int32) then (0 : Int64) else q0) else tm1), se, jv ((if wh1 = (0 : Int32) then (if wh0 = (0 : Int32) then (0 : Int64) else q0) else tm1) + q4), se, .val .null, un, un] [] _
       refine XS.iloadN X413.here hx rfl (hb hby at_147) rfl ?_
       show AT p e below T413 m 148 #[jv q0, se, iv p1, iv p2, iv p3, jv q4, se, iv p5, iv lk0, iv wh0, iv lk1, iv wh1, jv tm1, se, rv b19, jv (if wh1 = (0 : Int32) then (if wh0 = (0 : Int32) then (0 : Int64) else q0) else tm1), se, jv ((if wh1 = (0 : Int32) then (if wh0 = (0 : Int32) then (0 : Int64) else q0) else tm1) + q4), se, .val .null, un, un] [(.int p1)] _
       refine XS.ifYes X413.here hx rfl (pc0 := 148) (pc' := 160) rfl (hb hby at_148) rfl (XT.i0_le_t (hc113 : ¬ ((0 : Int32) < p1))) (by decide) (by decide) ?_
       refine XS.iload X413.here hx rfl (hb hby at_160) rfl ?_
       show AT p e below T413 m 162 #[jv q0, se, iv p1, iv p2, iv p3, jv q4, se, iv p5, iv lk0, iv wh0, iv lk1, iv wh1, jv tm1, se, rv b19, jv (if wh1 = (0 : Int32) then (if wh0 = (0 : Int32) then (0 : Int64) else q0) else tm1), se, jv ((if wh1 = (0 : Int32) then (if wh0 = (0 : Int32) then (0 : Int64) else q0) else tm1) + q4), se, .val .null, un, un] [(.int lk1)] _
       refine XS.ifNo X413.here hx rfl (hb hby at_162) rfl (XT.i0_eq_f (hc343 : ¬ (lk1 = (0 : Int32)))) ?_
       refine XS.iloadN X413.here hx rfl (hb hby at_165) rfl ?_
       show AT p e below T413 m 166 #[jv q0, se, iv p1, iv p2, iv p3, jv q4, se, iv p5, iv lk0, iv wh0, iv lk1, iv wh1, jv tm1, se, rv b19, jv (if wh1 = (0 : Int32) then (if wh0 = (0 : Int32) then (0 : Int64) else q0) else tm1), se, jv ((if wh1 = (0 : Int32) then (if wh0 = (0 : Int32) then (0 : Int64) else q0) else tm1) + q4), se, .val .null, un, un] [(.int p2)] _
       refine XS.ifNo X413.here hx rfl (hb hby at_166) rfl (XT.i0_le_f (hc346 : (0 : Int32) < p2)) ?_
       show AT p e below T413 m 169 #[jv q0, se, iv p1, iv p2, iv p3, jv q4, se, iv p5, iv lk0, iv wh0, iv lk1, iv wh1, jv tm1, se, rv b19, jv (if wh1 = (0 : Int32) then (if wh0 = (0 : Int32) then (0 : Int64) else q0) else tm1), se, jv ((if wh1 = (0 : Int32) then (if wh0 = (0 : Int32) then (0 : Int64) else q0) else tm1) + q4), se, .val .null, un, un] [] _
       refine XS.iconst X413.here hx rfl (hb hby at_169) ?_
       refine XS.istore X413.here hx rfl (hb hby at_170) rfl (l' := #[jv q0, se, iv p1, iv p2, iv p3, jv q4, se, iv p5, iv lk0, iv wh0, iv lk1, iv wh1, jv tm1, se, rv b19, jv (if wh1 = (0 : Int32) then (if wh0 = (0 : Int32) then (0 : Int64) else q0) else tm1), se, jv ((if wh1 = (0 : Int32) then (if wh0 = (0 : Int32) then (0 : Int64) else q0) else tm1) + q4), se, .val .null, iv (1 : Int32), un]) rfl ?_
       refine XS.iloadN X413.here hx rfl (hb hby at_172) rfl ?_
       show AT p e below T413 m 173 #[jv q0, se, iv p1, iv p2, iv p3, jv q4, se, iv p5, iv lk0, iv wh0, iv lk1, iv wh1, jv tm1, se, rv b19, jv (if wh1 = (0 : Int32) then (if wh0 = (0 : Int32) then (0 : Int64) else q0) else tm1), se, jv ((if wh1 = (0 : Int32) then (if wh0 = (0 : Int32) then (0 : Int64) else q0) else tm1) + q4), se, .val .null, iv (1 : Int32), un] [(.int p2)] _
       refine XS.istore X413.here hx rfl (hb hby at_173) rfl (l' := #[jv q0, se, iv p1, iv p2, iv p3, jv q4, se, iv p5, iv lk0, iv wh0, iv lk1, iv wh1, jv tm1, se, rv b19, jv (if wh1 = (0 : Int32) then (if wh0 = (0 : Int32) then (0 : Int64) else q0) else tm1), se, jv ((if wh1 = (0 : Int32) then (if wh0 = (0 : Int32) then (0 : Int64) else q0) else tm1) + q4), se, .val .null, iv (1 : Int32), iv p2]) rfl ?_
       refine XS.goto X413.here hx rfl (pc0 := 175) (pc' := 184) rfl (hb hby at_175) (by decide) (by decide) ?_
       refine XS.iload X413.here hx rfl (hb hby at_184) rfl ?_
       show AT p e below T413 m 186 #[jv q0, se, iv p1, iv p2, iv p3, jv q4, se, iv p5, iv lk0, iv wh0, iv lk1, iv wh1, jv tm1, se, rv b19, jv (if wh1 = (0 : Int32) then (if wh0 = (0 : Int32) then (0 : Int64) else q0) else tm1), se, jv ((if wh1 = (0 : Int32) then (if wh0 = (0 : Int32) then (0 : Int64) else q0) else tm1) + q4), se, .val .null, iv (1 : Int32), iv p2] [(.int (1 : Int32))] _
       refine XS.ifNo X413.here hx rfl (hb hby at_186) rfl (XT.i0_eq_f ((by decide) : ¬ ((1 : Int32) = (0 : Int32)))) ?_
       show AT p e below T413 m 189 #[jv q0, se, iv p1, iv p2, iv p3, jv q4, se, iv p5, iv lk0, iv wh0, iv lk1, iv wh1, jv tm1, se, rv b19, jv (if wh1 = (0 : Int32) then (if wh0 = (0 : Int32) then (0 : Int64) else q0) else tm1), se, jv ((if wh1 = (0 : Int32) then (if wh0 = (0 : Int32) then (0 : Int64) else q0) else tm1) + q4), se, .val .null, iv (1 : Int32), iv p2] [] _
       refine XS.iload X413.here hx rfl (hb hby at_189) rfl ?_
       show AT p e below T413 m 191 #[jv q0, se, iv p1, iv p2, iv p3, jv q4, se, iv p5, iv lk0, iv wh0, iv lk1, iv wh1, jv tm1, se, rv b19, jv (if wh1 = (0 : Int32) then (if wh0 = (0 : Int32) then (0 : Int64) else q0) else tm1), se, jv ((if wh1 = (0 : Int32) then (if wh0 = (0 : Int32) then (0 : Int64) else q0) else tm1) + q4), se, .val .null, iv (1 : Int32), iv p2] [(.int p5)] _
       refine XS.ifYes X413.here hx rfl (pc0 := 191) (pc' := 203) rfl (hb hby at_191) rfl (XT.i0_le_t (hc357 : ¬ ((0 : Int32) < p5))) (by decide) (by decide) ?_
       refine XS.aload X413.here hx rfl (hb hby at_203) rfl rfl ?_
       show AT p e below T413 m 205 #[jv q0, se, iv p1, iv p2, iv p3, jv q4, se, iv p5, iv lk0, iv wh0, iv lk1, iv wh1, jv tm1, se, rv b19, jv (if wh1 = (0 : Int32) then (if wh0 = (0 : Int32) then (0 : Int64) else q0) else tm1), se, jv ((if wh1 = (0 : Int32) then (if wh0 = (0 : Int32) then (0 : Int64) else q0) else tm1) + q4), se, .val .null, iv (1 : Int32), iv p2] [.null] _
       refine XS.ifnonnullNo X413.here hx rfl (hb hby at_205) rfl ?_
       refine XS.iconst X413.here hx rfl (hb hby at_208) ?_
       show AT p e below T413 m 209 #[jv q0, se, iv p1, iv p2, iv p3, jv q4, se, iv p5, iv lk0, iv wh0, iv lk1, iv wh1, jv tm1, se, rv b19, jv (if wh1 = (0 : Int32) then (if wh0 = (0 : Int32) then (0 : Int64) else q0) else tm1), se, jv ((if wh1 = (0 : Int32) then (if wh0 = (0 : Int32) then (0 : Int64) else q0) else tm1) + q4), se, .val .null, iv (1 : Int32), iv p2] [(.int (1 : Int32))] _
       refine XS.goto X413.here hx rfl (pc0 := 209) (pc' := 213) rfl (hb hby at_209) (by decide) (by decide) ?_
       exact retN X413 hx (t := .boolean) Bd.returns (by simp) (hb hby at_213) hr
      ·
       show Q0 Z q0 p1 p2 p3 q4 p5 h0 n0 _ T413.heap _
       rw [e413]
       exact ⟨rfl, N413⟩
    ·
     obtain ⟨cq414, kq414, q414a, q414b, q414c⟩ := isOf hZ rfl E333_334
     obtain ⟨_, _, ⟨T414, L414, k414, n414⟩, -, X414, ⟨Lc414, hQ414, l414, y414, z414⟩, st414⟩ := X333.virtualBack hx (y := y7) (z := y7) hown (mvT hZ (ow hw 42 rfl)) (mvT hZ (ow hw 43 rfl)) (notFace_of_selects (args := #[]) (mvT hZ (ow hw 45 rfl))) (mvT hZ (ow hw 45 rfl)) (mvT hZ (ow hw 44 rfl)) (by decide) (backOf (W := 0) (rm7_00 l Z ar hw [] b19 tm1 p2 wh1 (if wh0 = (0 : Int32) then (0 : Int64) else q0) dq_22 es_22 ke_22 T333.heap n0 O333 E333_334 u333_1 u333_2 E333_335 F333_336 F333_337 F333_338 V333_339 u22_8 gn19 gn24 gn26 u22_11 u22_12 u22_13 hc346) hZ (ow hw 46 rfl) (ow hw 2 rfl) (by decide) (by decide)) q414a q414c (g := (mkF m 112 #[jv q0, se, iv p1, iv p2, iv p3, jv q4, se, iv p5, iv lk0, iv wh0, iv lk1, iv wh1, jv tm1, se, rv b19, jv (if wh0 = (0 : Int32) then (0 : Int64) else q0), se, un, un, un, un, un] [(.int wh1), (.int p2), (.long tm1), (.ref b19)])) rfl (by rw [hml]; rfl) (Steps.refl _) (argsL := [(.long tm1), (.int p2), (.int wh1)]) (rest := []) (lenOf pd_12 rfl) rfl (by show 2 * 0 + _ ≤ _; exact Nat.le_of_eq rfl) (hb hby at_112) (fun _ _ => ⟨rfl, rfl, (by decide : 3 + 0 ≤ _), (by decide : 22 + 0 ≤ _)⟩)
     dsimp only [Pt.U, Pt.locs, Pt.cells, Pt.slots] at X414 l414 y414 z414 st414 hQ414
     subst l414 y414 z414
     obtain ⟨rfl, N414q, Kq414, u414_0, u414_1, u414_2⟩ := hQ414
     have N414 := Fr.app N333 N414q
     have E414_415 := E333_334.keep Kq414
     have E414_416 := E333_335.keep Kq414
     have F414_417 := F333_336.keep Kq414 (ninS (Ne.symm u22_11) nin0)
     have F414_418 := F333_337.keep Kq414 (ninS (Ne.symm u22_11) nin0)
     have F414_419 := F333_338.keep Kq414 (ninS (Ne.symm u22_11) nin0)
     have V414_420 := V333_339.keep Kq414 (ninS (Ne.symm u22_12) nin0)
     have K414 := K333.trans Kq414 (allS (Or.inr sz19) all0)
     have O414 := O333.keep Kq414 (allS gn19 all0)
     have pre421 : ∀ tg, AT p e below T414 m 117 #[jv q0, se, iv p1, iv p2, iv p3, jv q4, se, iv p5, iv lk0, iv wh0, iv lk1, iv wh1, jv tm1, se, rv b19, jv (if wh0 = (0 : Int32) then (0 : Int64) else q0), se, un, un, un, un, un] [(.int wh1)] tg → Steps p.tables e below S0 tg := fun tg kg => pre345 tg (by
      refine XS.aload X333.here hx rfl (hb hby at_105) rfl rfl ?_
      refine XS.lload X333.here hx rfl (hb hby at_107) rfl ?_
      refine XS.iloadN X333.here hx rfl (hb hby at_109) rfl ?_
      show AT p e below T333 m 110 #[jv q0, se, iv p1, iv p2, iv p3, jv q4, se, iv p5, iv lk0, iv wh0, iv lk1, iv wh1, jv tm1, se, rv b19, jv (if wh0 = (0 : Int32) then (0 : Int64) else q0), se, un, un, un, un, un] [(.int p2), (.long tm1), (.ref b19)] _
      refine XS.iload X333.here hx rfl (hb hby at_110) rfl ?_
      refine st414.trans ?_
      refine XS.iload X414.here hx rfl (hb hby at_115) rfl ?_
      exact kg)
     have pre422 : ∀ tg, AT p e below T414 m 124 #[jv q0, se, iv p1, iv p2, iv p3, jv q4, se, iv p5, iv lk0, iv wh0, iv lk1, iv wh1, jv tm1, se, rv b19, jv (if wh1 = (0 : Int32) then (if wh0 = (0 : Int32) then (0 : Int64) else q0) else tm1), se, un, un, un, un, un] [] tg → Steps p.tables e below S0 tg := by
      intro tg kg
      rcases Decidable.em (wh1 = (0 : Int32)) with hd | hd
      ·
       simp only [if_pos hd] at kg
       exact pre421 tg (by
        refine XS.ifYes X414.here hx rfl (pc0 := 117) (pc' := 124) rfl (hb hby at_117) rfl (XT.i0_eq_t hd) (by decide) (by decide) ?_
        exact kg)
      ·
       simp only [if_neg hd] at kg
       exact pre421 tg (by
        refine XS.ifNo X414.here hx rfl (hb hby at_117) rfl (XT.i0_eq_f hd) ?_
        show AT p e below T414 m 120 #[jv q0, se, iv p1, iv p2, iv p3, jv q4, se, iv p5, iv lk0, iv wh0, iv lk1, iv wh1, jv tm1, se, rv b19, jv (if wh0 = (0 : Int32) then (0 : Int64) else q0), se, un, un, un, un, un] [] _
        refine XS.lload X414.here hx rfl (hb hby at_120) rfl ?_
        refine XS.lstore X414.here hx rfl (hb hby at_122) rfl (l' := #[jv q0, se, iv p1, iv p2, iv p3, jv q4, se, iv p5, iv lk0, iv wh0, iv lk1, iv wh1, jv tm1, se, rv b19, jv tm1, se, un, un, un, un, un]) rfl ?_
        exact kg)
     obtain ⟨cq423, kq423, q423a, q423b, q423c⟩ := isOf hZ rfl E414_415
     obtain ⟨_, _, ⟨T423, L423, k423, n423⟩, -, X423, ⟨Lc423, hQ423, l423, y423, z423⟩, st423⟩ := X414.virtualBack hx (y := y5) (z := y5) hown (mvT hZ (ow hw 28 rfl)) (mvT hZ (ow hw 29 rfl)) (notFace_of_selects (args := #[]) (mvT hZ (ow hw 31 rfl))) (mvT hZ (ow hw 31 rfl)) (mvT hZ (ow hw 30 rfl)) (by decide) (backOf (W := 0) (rm5_0n l Z ar hw [] b19 ((if wh1 = (0 : Int32) then (if wh0 = (0 : Int32) then (0 : Int64) else q0) else tm1) + q4) p5 (if wh1 = (0 : Int32) then (if wh0 = (0 : Int32) then (0 : Int64) else q0) else tm1) dq_22 es_22 ke_22 T414.heap n0 O414 E414_415 u414_2 u414_1 E414_416 F414_417 F414_418 F414_419 V414_420) hZ (ow hw 32 rfl) (ow hw 2 rfl) (by decide) (by decide)) q423a q423c (g := (mkF m 137 #[jv q0, se, iv p1, iv p2, iv p3, jv q4, se, iv p5, iv lk0, iv wh0, iv lk1, iv wh1, jv tm1, se, rv b19, jv (if wh1 = (0 : Int32) then (if wh0 = (0 : Int32) then (0 : Int64) else q0) else tm1), se, jv ((if wh1 = (0 : Int32) then (if wh0 = (0 : Int32) then (0 : Int64) else q0) else tm1) + q4), se, un, un, un] [(.int p5), (.long ((if wh1 = (0 : Int32) then (if wh0 = (0 : Int32) then (0 : Int64) else q0) else tm1) + q4)), (.ref b19)])) rfl (by rw [hml]; rfl) (Steps.refl _) (argsL := [(.long ((if wh1 = (0 : Int32) then (if wh0 = (0 : Int32) then (0 : Int64) else q0) else tm1) + q4)), (.int p5)]) (rest := []) (lenOf pd_11 rfl) rfl (by show 2 * 0 + _ ≤ _; exact Nat.le_of_eq rfl) (hb hby at_137) (fun _ _ => ⟨rfl, rfl, (by decide : 3 + 0 ≤ _), (by decide : 22 + 0 ≤ _)⟩)
     dsimp only [Pt.U, Pt.locs, Pt.cells, Pt.slots] at X423 l423 y423 z423 st423 hQ423
     subst l423 y423 z423
     obtain ⟨rfl, N423q, e423⟩ := hQ423
     have N423 := Fr.app N414 N423q
     obtain ⟨fs, hr, hrun, hended, hW, hsame⟩ := X423.leave (v := some (.int (1 : Int32))) (fun h => by rw [Bd.returns] at h; cases h)
     subst hS0
     refine ⟨_, _, pre422 _ ?_, hrun, hended, _, _, rfl, ?_, ⟨_, rfl⟩, hW, hsame.mono (by decide) (by decide)⟩
     ·
      refine XS.lload X414.here hx rfl (hb hby at_124) rfl ?_
      refine XS.lload X414.here hx rfl (hb hby at_126) rfl ?_
      refine XS.ladd X414.here hx rfl (hb hby at_128) rfl ?_
      show AT p e below T414 m 129 #[jv q0, se, iv p1, iv p2, iv p3, jv q4, se, iv p5, iv lk0, iv wh0, iv lk1, iv wh1, jv tm1, se, rv b19, jv (if wh1 = (0 : Int32) then (if wh0 = (0 : Int32) then (0 : Int64) else q0) else tm1), se, un, un, un, un, un] [(.long ((if wh1 = (0 : Int32) then (if wh0 = (0 : Int32) then (0 : Int64) else q0) else tm1) + q4))] _
      refine XS.lstore X414.here hx rfl (hb hby at_129) rfl (l' := #[jv q0, se, iv p1, iv p2, iv p3, jv q4, se, iv p5, iv lk0, iv wh0, iv lk1, iv wh1, jv tm1, se, rv b19, jv (if wh1 = (0 : Int32) then (if wh0 = (0 : Int32) then (0 : Int64) else q0) else tm1), se, jv ((if wh1 = (0 : Int32) then (if wh0 = (0 : Int32) then (0 : Int64) else q0) else tm1) + q4), se, un, un, un]) rfl ?_
      refine XS.aload X414.here hx rfl (hb hby at_131) rfl rfl ?_
      refine XS.lload X414.here hx rfl (hb hby at_133) rfl ?_
      show AT p e below T414 m 135 #[jv q0, se, iv p1, iv p2, iv p3, jv q4, se, iv p5, iv lk0, iv wh0, iv lk1, iv wh1, jv tm1, se, rv b19, jv (if wh1 = (0 : Int32) then (if wh0 = (0 : Int32) then (0 : Int64) else q0) else tm1), se, jv ((if wh1 = (0 : Int32) then (if wh0 = (0 : Int32) then (0 : Int64) else q0) else tm1) + q4), se, un, un, un] [(.long ((if wh1 = (0 : Int32) then (if wh0 = (0 : Int32) then (0 : Int64) else q0) else tm1) + q4)), (.ref b19)] _
      refine XS.iload X414.here hx rfl (hb hby at_135) rfl ?_
      refine st423.trans ?_
      refine XS.astore X423.here hx rfl (hb hby at_140) rfl rfl (l' := #[jv q0, se, iv p1, iv p2, iv p3, jv q4, se, iv p5, iv lk0, iv wh0, iv lk1, iv wh1, jv tm1, se, rv b19, jv (if wh1 = (0 : Int32) then (if wh0 = (0 : Int32) then (0 : Int64) else q0) else tm1), se, jv ((if wh1 = (0 : Int32) then (if wh0 = (0 : Int32) then (0 : Int64) else q0) else tm1) + q4), se, .val .null, un, un]) rfl ?_
      show AT p e below T423 m 142 #[jv q0, se, iv p1, iv p2, iv p3, jv q4, se, iv p5, iv lk0, iv wh0, iv lk1, iv wh1, jv tm1, se, rv b19, jv (if wh1 = (0 : Int32) then (if wh0 = (0 : Int32) then (0 : Int64) else q0) else tm1), se, jv ((if wh1 = (0 : Int32) then (if wh0 = (0 : Int32) then (0 : Int64) else q0) else tm1) + q4), se, .val .null, un, un] [] _
      refine XS.iload X423.here hx rfl (hb hby at_142) rfl ?_
      show AT p e below T423 m 144 #[jv q0, se, iv p1, iv p2, iv p3, jv q4, se, iv p5, iv lk0, iv wh0, iv lk1, iv wh1, jv tm1, se, rv b19, jv (if wh1 = (0 : Int32) then (if wh0 = (0 : Int32) then (0 : Int64) else q0) else tm1), se, jv ((if wh1 = (0 : Int32) then (if wh0 = (0 : Int32) then (0 : Int64) else q0) else tm1) + q4), se, .val .null, un, un] [(.int lk0)] _
      refine XS.ifNo X423.here hx rfl (hb hby at_144) rfl (XT.i0_eq_f (hc29 : ¬ (lk0 = (0 : Int32)))) ?_
      refine XS.iloadN X423.here hx rfl (hb hby at_147) rfl ?_
      show AT p e below T423 m 148 #[jv q0, se, iv p1, iv p2, iv p3, jv q4, se, iv p5, iv lk0, iv wh0, iv lk1, iv wh1, jv tm1, se, rv b19, jv (if wh1 = (0 : Int32) then (if wh0 = (0 : Int32) then (0 : Int64) else q0) else tm1), se, jv ((if wh1 = (0 : Int32) then (if wh0 = (0 : Int32) then (0 : Int64) else q0) else tm1) + q4), se, .val .null, un, un] [(.int p1)] _
      refine XS.ifYes X423.here hx rfl (pc0 := 148) (pc' := 160) rfl (hb hby at_148) rfl (XT.i0_le_t (hc113 : ¬ ((0 : Int32) < p1))) (by decide) (by decide) ?_
      refine XS.iload X423.here hx rfl (hb hby at_160) rfl ?_
      show AT p e below T423 m 162 #[jv q0, se, iv p1, iv p2, iv p3, jv q4, se, iv p5, iv lk0, iv wh0, iv lk1, iv wh1, jv tm1, se, rv b19, jv (if wh1 = (0 : Int32) then (if wh0 = (0 : Int32) then (0 : Int64) else q0) else tm1), se, jv ((if wh1 = (0 : Int32) then (if wh0 = (0 : Int32) then (0 : Int64) else q0) else tm1) + q4), se, .val .null, un, un] [(.int lk1)] _
      refine XS.ifNo X423.here hx rfl (hb hby at_162) rfl (XT.i0_eq_f (hc343 : ¬ (lk1 = (0 : Int32)))) ?_
      show AT p e below T423 m 165 #[jv q0, se, iv p1, iv p2, iv p3, jv q4, se, iv p5, iv lk0, iv wh0, iv lk1, iv wh1, jv tm1, se, rv b19, jv (if wh1 = (0 : Int32) then (if wh0 = (0 : Int32) then (0 : Int64) else q0) else tm1), se, jv ((if wh1 = (0 : Int32) then (if wh0 = (0 : Int32) then (0 : Int64) else q0) else tm1) + q4), se, .val .null, un, un] [] _
      refine XS.iloadN X423.here hx rfl (hb hby at_165) rfl ?_
      show AT p e below T423 m 166 #[jv q0, se, iv p1, iv p2, iv p3, jv q4, se, iv p5, iv lk0, iv wh0, iv lk1, iv wh1, jv tm1, se, rv b19, jv (if wh1 = (0 : Int32) then (if wh0 = (0 : Int32) then (0 : Int64) else q0) else tm1), se, jv ((if wh1 = (0 : Int32) then (if wh0 = (0 : Int32) then (0 : Int64) else q0) else tm1) + q4), se, .val .null, un, un] [(.int p2)] _
      refine XS.ifYes X423.here hx rfl (pc0 := 166) (pc' := 178) rfl (hb hby at_166) rfl (XT.i0_le_t (hc346 : ¬ ((0 : Int32) < p2))) (by decide) (by decide) ?_
      refine XS.iconst X423.here hx rfl (hb hby at_178) ?_
      refine XS.istore X423.here hx rfl (hb hby at_179) rfl (l' := #[jv q0, se, iv p1, iv p2, iv p3, jv q4, se, iv p5, iv lk0, iv wh0, iv lk1, iv wh1, jv tm1, se, rv b19, jv (if wh1 = (0 : Int32) then (if wh0 = (0 : Int32) then (0 : Int64) else q0) else tm1), se, jv ((if wh1 = (0 : Int32) then (if wh0 = (0 : Int32) then (0 : Int64) else q0) else tm1) + q4), se, .val .null, iv (0 : Int32), un]) rfl ?_
      show AT p e below T423 m 181 #[jv q0, se, iv p1, iv p2, iv p3, jv q4, se, iv p5, iv lk0, iv wh0, iv lk1, iv wh1, jv tm1, se, rv b19, jv (if wh1 = (0 : Int32) then (if wh0 = (0 : Int32) then (0 : Int64) else q0) else tm1), se, jv ((if wh1 = (0 : Int32) then (if wh0 = (0 : Int32) then (0 : Int64) else q0) else tm1) + q4), se, .val .null, iv (0 : Int32), un] [] _
      refine XS.iconst X423.here hx rfl (hb hby at_181) ?_
      refine XS.istore X423.here hx rfl (hb hby at_182) rfl (l' := #[jv q0, se, iv p1, iv p2, iv p3, jv q4, se, iv p5, iv lk0, iv wh0, iv lk1, iv wh1, jv tm1, se, rv b19, jv (if wh1 = (0 : Int32) then (if wh0 = (0 : Int32) then (0 : Int64) else q0) else tm1), se, jv ((if wh1 = (0 : Int32) then (if wh0 = (0 : Int32) then (0 : Int64) else q0) else tm1) + q4), se, .val .null, iv (0 : Int32), iv (0 : Int32)]) rfl ?_
      refine XS.iload X423.here hx rfl (hb hby at_184) rfl ?_
      show AT p e below T423 m 186 #[jv q0, se, iv p1, iv p2, iv p3, jv q4, se, iv p5, iv lk0, iv wh0, iv lk1, iv wh1, jv tm1, se, rv b19, jv (if wh1 = (0 : Int32) then (if wh0 = (0 : Int32) then (0 : Int64) else q0) else tm1), se, jv ((if wh1 = (0 : Int32) then (if wh0 = (0 : Int32) then (0 : Int64) else q0) else tm1) + q4), se, .val .null, iv (0 : Int32), iv (0 : Int32)] [(.int (0 : Int32))] _
      refine XS.ifYes X423.here hx rfl (pc0 := 186) (pc' := 203) rfl (hb hby at_186) rfl (XT.i0_eq_t ((by decide) : (0 : Int32) = (0 : Int32))) (by decide) (by decide) ?_
      show AT p e below T423 m 203 #[jv q0, se, iv p1, iv p2, iv p3, jv q4, se, iv p5, iv lk0, iv wh0, iv lk1, iv wh1, jv tm1, se, rv b19, jv (if wh1 = (0 : Int32) then (if wh0 = (0 : Int32) then (0 : Int64) else q0) else tm1), se, jv ((if wh1 = (0 : Int32) then (if wh0 = (0 : Int32) then (0 : Int64) else q0) else tm1) + q4), se, .val .null, iv (0 : Int32), iv (0 : Int32)] [] _
      refine XS.aload X423.here hx rfl (hb hby at_203) rfl rfl ?_
      show AT p e below T423 m 205 #[jv q0, se, iv p1, iv p2, iv p3, jv q4, se, iv p5, iv lk0, iv wh0, iv lk1, iv wh1, jv tm1, se, rv b19, jv (if wh1 = (0 : Int32) then (if wh0 = (0 : Int32) then (0 : Int64) else q0) else tm1), se, jv ((if wh1 = (0 : Int32) then (if wh0 = (0 : Int32) then (0 : Int64) else q0) else tm1) + q4), se, .val .null, iv (0 : Int32), iv (0 : Int32)] [.null] _
      refine XS.ifnonnullNo X423.here hx rfl (hb hby at_205) rfl ?_
      refine XS.iconst X423.here hx rfl (hb hby at_208) ?_
      refine XS.goto X423.here hx rfl (pc0 := 209) (pc' := 213) rfl (hb hby at_209) (by decide) (by decide) ?_
      show AT p e below T423 m 213 #[jv q0, se, iv p1, iv p2, iv p3, jv q4, se, iv p5, iv lk0, iv wh0, iv lk1, iv wh1, jv tm1, se, rv b19, jv (if wh1 = (0 : Int32) then (if wh0 = (0 : Int32) then (0 : Int64) else q0) else tm1), se, jv ((if wh1 = (0 : Int32) then (if wh0 = (0 : Int32) then (0 : Int64) else q0) else tm1) + q4), se, .val .null, iv (0 : Int32), iv (0 : Int32)] [(.int (1 : Int32))] _
      exact retN X423 hx (t := .boolean) Bd.returns (by simp) (hb hby at_213) hr
     ·
      show Q0 Z q0 p1 p2 p3 q4 p5 h0 n0 _ T423.heap _
      rw [e423]
      exact ⟨rfl, N423⟩

set_option maxRecDepth 65536 in
set_option maxHeartbeats 40000000 in
theorem comes_1 {Post : Tables → Env → Array Value → State → Outcome → State → Prop} (hpost : ∀ tb e args s v u, (limb_1_1.after args s (.returned v) u = true ∧ limb_1_2.after args s (.returned v) u = true ∧ True) → FrameEnd s (.returned v) u (Jvm.fieldLocs frame_1_writes args s ++ Jvm.arrayLocs frame_1_arrays args s ++ Jvm.staticLocs frame_1_statics s) 24 192 → Post tb e args s (.returned v) u) :
    ArmFor flags0 classFile x code maxLocals ret World_1 tables_1 room_1 Calls_1 rest_1 Pre_1 Post := by
  intro l hfl _ _ p e ha hc hk s m args below hf hA hF happ hP
  obtain ⟨hcalls, hrest, hpre⟩ := hP
  obtain ⟨-, -, -, hnamed, -, -, -, hat⟩ := (Spec.applies_iff hf).mp happ
  obtain ⟨hg, hn⟩ := and_e (Cond.before_iff.mp (show (Jvm.Cond.and given_1 narrow_1).before args s = true from hpre))
  obtain ⟨hg1, hg2⟩ := and_e hg
  obtain ⟨hg21, hg22⟩ := and_e hg2
  obtain ⟨hg221, hg222⟩ := and_e hg22
  obtain ⟨hg2221, hg2222⟩ := and_e hg222
  obtain ⟨hg22221, hg22222⟩ := and_e hg2222
  obtain ⟨hg222221, hg222222⟩ := and_e hg22222
  obtain ⟨w0, w1, w2, w3, w4, w5, rfl⟩ : ∃ w0 w1 w2 w3 w4 w5 : Value, args = #[w0, w1, w2, w3, w4, w5] := by
    have hs : args.size = 6 := by simpa [Cond.value, given_1] using hg1
    obtain ⟨L⟩ := args
    match L, hs with
    | [w0, w1, w2, w3, w4, w5], _ => exact ⟨w0, w1, w2, w3, w4, w5, rfl⟩
  have hw := fun d (hd : d ∈ tables_1) => atoms_spec (ws := Jvm.Cond.code x code maxLocals ret :: tables_1) hat d (List.mem_cons_of_mem _ hd)
  have hfit : Fit s := fun {y c} hc i hi => by
    obtain ⟨ha, rfl⟩ := Array.getElem?_eq_some_iff.mp hc
    have q := List.all_eq_true.mp ((Array.all_eq_true_iff_forall_mem.mp hF) _ (Array.getElem_mem ha)) i (List.mem_range.mpr hi)
    simpa [Array.getElem?_eq_getElem hi] using q
  obtain ⟨i0, ei0⟩ := isL_v hg21
  obtain rfl : w0 = (.long i0) := Option.some.inj ei0
  obtain ⟨i1, ei1⟩ := is_v hg221
  obtain rfl : w1 = (.int i1) := Option.some.inj ei1
  obtain ⟨i2, ei2⟩ := is_v hg2221
  obtain rfl : w2 = (.int i2) := Option.some.inj ei2
  obtain ⟨i3, ei3⟩ := is_v hg22221
  obtain rfl : w3 = (.int i3) := Option.some.inj ei3
  obtain ⟨i4, ei4⟩ := isL_v hg222221
  obtain rfl : w4 = (.long i4) := Option.some.inj ei4
  obtain ⟨i5, ei5⟩ := is_v hg222222
  obtain rfl : w5 = (.int i5) := Option.some.inj ei5
  obtain ⟨hn1, hn2⟩ := and_e hn
  have evhn1 := own_eqLong hn1
  have S_MAKING_NANOS : Sta s s.heap "com/example/minderd/minderd/process/Listings" "MAKING_NANOS" "J" (.long (2000000000 : Int64)) := Sta.start evhn1 (Or.inr ⟨(ow hw 2 rfl), (ow hw 111 rfl)⟩)
  have evhn2 := own_eqLong hn2
  have S_WHOLE_NANOS : Sta s s.heap "com/example/minderd/minderd/process/Listings" "WHOLE_NANOS" "J" (.long (600000000000 : Int64)) := Sta.start evhn2 (Or.inr ⟨(ow hw 2 rfl), (ow hw 113 rfl)⟩)
  have HW : Wd s  := ⟨S_MAKING_NANOS, S_WHOLE_NANOS⟩
  obtain ⟨n, o, h1, h2, h3, _, L, rfl, ⟨rfl, N⟩, hq⟩ := rm0 l s _ hw tables_1 i0 i1 i2 i3 i4 i5 s.heap s.heap.size (Old.start s) HW p e ha hc hk s m _ below hf ((Spec.applies_iff_loose hf).mp happ).1 ⟨rfl, State.Warmed39.refl s, rfl⟩ trivial
  refine ⟨n, _, h1, h2, h3, hpost _ _ _ _ _ _ ⟨Cond.after_iff.mpr rfl, Cond.after_iff.mpr (eq_i res_at (Term.int_eval (1)) rfl), trivial⟩ ⟨hq.1, hq.2.1, (hq.2.2.sift fun y hy => Or.inr (N y hy)).mono (by decide) (by decide)⟩⟩
theorem main_1_1 : Claimed_1_1 := comes_1 fun _ _ _ _ _ _ h hF => ⟨h.1, hF⟩
theorem main_1_2 : Claimed_1_2 := comes_1 fun _ _ _ _ _ _ h hF => ⟨h.2.1, hF⟩
end Jvm.Pilot.@@N@@
namespace Jvm.Pilot.@@N@@
open Jvm Jvm.ClassFile Sem Op Lib Jvm.Free Jvm.Stand Jvm.Pilot.@@N@@.Jvm.D
/-! MADE BY PROGRAM (witnessworld.py) out of the Statement's table words and the real class files: 21 classes; the members and pool entries that the words name. The judged class is class 1, her method 1. -/
namespace start1
open Jvm.ClassFile
def u (s : String) : CpInfo := .utf8 (stringToUtf16 s)
/-- a pool by its gaps: so many unusable entries, then the entry; so many at the end -/
def gap : Nat → List CpInfo → List CpInfo
  | 0, r => r
  | n + 1, r => .unusable :: gap n r
def poolList (es : List (Nat × CpInfo)) (last : Nat) : List CpInfo := es.foldr (fun e r => gap e.1 (e.2 :: r)) (gap last [])
def pool (es : List (Nat × CpInfo)) (last : Nat) : Array CpInfo := ⟨poolList es last⟩
def fileOf (pool : Array CpInfo) (this : Nat) (attrs : Array Attribute := #[]) (ms : Array MethodInfo := #[]) (fl : Nat := 33) (sup : Nat := 0) (ifs : Array Nat := #[]) (fds : Array FieldInfo := #[]) : ClassFile where
  minorVersion := 0
  majorVersion := 65
  constantPool := pool
  accessFlags := fl
  thisClass := this
  superClass := sup
  interfaces := ifs
  fields := fds
  methods := ms
  attributes := attrs
def plain (name : String) (sup : Option ClassId) : Class where
  name := name
  kind := .ordinary
  loader := none
  accessFlags := 33
  super := sup
  interfaces := #[]
  cf := none
  fields := #[]
  methods := #[]
  instanceTypes := #[]
  staticTypes := #[]
  resolved := #[]
  callSites := []
  init := .initialized
  statics := none
  mirror := none

def pool0 : Array CpInfo := pool [(5, u "<init>"), (0, u "()V"), (1, .class_ 10), (1, u "java/lang/Object")] 113

def k0c0 : Code := { maxStack := 0, maxLocals := 1, code := object_method_1_code, exceptionTable := #[], attributes := #[] }
def k0m0 : Method := { name := "<init>", desc := "()V", sig := { parameters := [], returnType := none }, accessFlags := 1, code := some k0c0 }
/-- java/lang/Object -/
def k0 : Class := { plain "java/lang/Object" none with
  accessFlags := 33
  interfaces := #[]
  cf := some (fileOf pool0 8 #[] #[{ accessFlags := 1, nameIndex := 5, descriptorIndex := 6, attributes := #[] }] 33 0 #[] #[])
  fields := #[]
  methods := #[k0m0]
  instanceTypes := #[]
  staticTypes := #[]
  resolved := Array.replicate 124 none
  statics := none }

def pool1 : Array CpInfo := pool [(2, .class_ 4), (0, .nameAndType 5 6), (0, u "java/lang/Object"), (0, u "<init>"), (0, u "()V"), (0, .class_ 8), (0, u "com/example/minderd/minderd/process/Listings"), (0, .methodref 7 3), (0, .methodref 7 11), (0, .nameAndType 12 13), (0, u "looked"), (0, u "(JIZ)V"), (0, .methodref 7 15), (0, .nameAndType 16 17), (0, u "spans"), (0, u "(JI)[I"), (0, .long 600000000000), (1, .methodref 21 22), (0, .class_ 23), (0, .nameAndType 24 25), (0, u "com/example/minderd/minderd/process/ListingsSpansPinLaw"), (0, u "same"), (0, u "([IIIIII)Z"), (2, .integer 2147483647), (2, u "law"), (0, u "(JIIIJI)Z")] 5

def k1m0 : Method := { name := "<init>", desc := "()V", sig := { parameters := [], returnType := none }, accessFlags := 1, code := none }
def k1c1 : Code := { maxStack := 6, maxLocals := 22, code := code, exceptionTable := #[], attributes := #[] }
def k1m1 : Method := { name := "law", desc := "(JIIIJI)Z", sig := { parameters := [.long, .int, .int, .int, .long, .int], returnType := some .boolean }, accessFlags := 9, code := some k1c1 }
def k1c2 : Code := { maxStack := 2, maxLocals := 6, code := method_3_code, exceptionTable := #[], attributes := #[] }
def k1m2 : Method := { name := "same", desc := "([IIIIII)Z", sig := { parameters := [(.array .int), .int, .int, .int, .int, .int], returnType := some .boolean }, accessFlags := 10, code := some k1c2 }
/-- com/example/minderd/minderd/process/ListingsSpansPinLaw -/
def k1 : Class := { plain "com/example/minderd/minderd/process/ListingsSpansPinLaw" (some 0) with
  accessFlags := 49
  interfaces := #[]
  cf := some (fileOf pool1 21 #[] #[{ accessFlags := 1, nameIndex := 5, descriptorIndex := 6, attributes := #[] }, { accessFlags := 9, nameIndex := 31, descriptorIndex := 32, attributes := #[] }, { accessFlags := 10, nameIndex := 24, descriptorIndex := 25, attributes := #[] }] 49 2 #[] #[])
  fields := #[]
  methods := #[k1m0, k1m1, k1m2]
  instanceTypes := #[]
  staticTypes := #[]
  resolved := Array.replicate 38 none
  statics := none }

def pool2 : Array CpInfo := pool [(1, .methodref 2 3), (0, .class_ 4), (0, .nameAndType 5 6), (0, u "java/lang/Object"), (0, u "<init>"), (0, u "()V"), (0, .class_ 8), (0, u "java/util/ArrayDeque"), (0, .methodref 7 3), (0, .fieldref 11 12), (0, .class_ 13), (0, .nameAndType 14 15), (0, u "com/example/minderd/minderd/process/Listings"), (0, u "recent"), (0, u "Ljava/util/ArrayDeque;"), (0, .methodref 7 17), (0, .nameAndType 18 19), (0, u "isEmpty"), (0, u "()Z"), (0, .fieldref 11 21), (0, .nameAndType 22 23), (0, u "wholeAt"), (0, u "J"), (0, .fieldref 11 25), (0, .nameAndType 26 23), (0, u "WHOLE_NANOS"), (0, .methodref 7 28), (0, .nameAndType 29 30), (0, u "getFirst"), (0, u "()Ljava/lang/Object;"), (0, .class_ 32), (0, u "[J"), (2, .integer 2147483647), (0, .methodref 7 37), (0, .nameAndType 38 39), (0, u "addLast"), (0, u "(Ljava/lang/Object;)V"), (0, .methodref 7 41), (0, .nameAndType 42 43), (0, u "size"), (0, u "()I"), (0, .methodref 11 45), (0, .nameAndType 46 47), (0, u "secondOldest"), (0, u "()J"), (0, .fieldref 11 49), (0, .nameAndType 50 23), (0, u "MAKING_NANOS"), (3, .methodref 7 55), (0, .nameAndType 56 57), (0, u "iterator"), (0, u "()Ljava/util/Iterator;"), (0, .interfaceMethodref 59 60), (0, .class_ 61), (0, .nameAndType 62 30), (0, u "java/util/Iterator"), (0, u "next"), (21, u "spans"), (0, u "(JI)[I"), (3, u "looked"), (0, u "(JIZ)V")] 3

def k2c0 : Code := { maxStack := 3, maxLocals := 1, code := prog_29_method_1_code, exceptionTable := #[], attributes := #[] }
def k2m0 : Method := { name := "<init>", desc := "()V", sig := { parameters := [], returnType := none }, accessFlags := 0, code := some k2c0 }
def k2c1 : Code := { maxStack := 5, maxLocals := 6, code := prog_29_method_2_code, exceptionTable := #[], attributes := #[] }
def k2m1 : Method := { name := "spans", desc := "(JI)[I", sig := { parameters := [.long, .int], returnType := some (.array .int) }, accessFlags := 0, code := some k2c1 }
def k2c2 : Code := { maxStack := 6, maxLocals := 5, code := prog_29_method_3_code, exceptionTable := #[], attributes := #[] }
def k2m2 : Method := { name := "looked", desc := "(JIZ)V", sig := { parameters := [.long, .int, .boolean], returnType := none }, accessFlags := 0, code := some k2c2 }
def k2c3 : Code := { maxStack := 2, maxLocals := 2, code := prog_29_method_4_code, exceptionTable := #[], attributes := #[] }
def k2m3 : Method := { name := "secondOldest", desc := "()J", sig := { parameters := [], returnType := some .long }, accessFlags := 2, code := some k2c3 }
/-- com/example/minderd/minderd/process/Listings -/
def k2 : Class := { plain "com/example/minderd/minderd/process/Listings" (some 0) with
  accessFlags := 32
  interfaces := #[]
  cf := some (fileOf pool2 11 #[] #[{ accessFlags := 0, nameIndex := 5, descriptorIndex := 6, attributes := #[] }, { accessFlags := 0, nameIndex := 84, descriptorIndex := 85, attributes := #[] }, { accessFlags := 0, nameIndex := 89, descriptorIndex := 90, attributes := #[] }, { accessFlags := 2, nameIndex := 46, descriptorIndex := 47, attributes := #[] }] 32 2 #[] #[{ accessFlags := 24, nameIndex := 50, descriptorIndex := 23, attributes := #[] }, { accessFlags := 24, nameIndex := 26, descriptorIndex := 23, attributes := #[] }, { accessFlags := 18, nameIndex := 14, descriptorIndex := 15, attributes := #[] }, { accessFlags := 2, nameIndex := 22, descriptorIndex := 23, attributes := #[] }])
  fields := #[{ name := "MAKING_NANOS", type := .long, accessFlags := 24, slot := 0, constantValue := 0 }, { name := "WHOLE_NANOS", type := .long, accessFlags := 24, slot := 1, constantValue := 0 }, { name := "recent", type := (.object "java/util/ArrayDeque"), accessFlags := 18, slot := 0, constantValue := 0 }, { name := "wholeAt", type := .long, accessFlags := 2, slot := 1, constantValue := 0 }]
  methods := #[k2m0, k2m1, k2m2, k2m3]
  instanceTypes := #[(.object "java/util/ArrayDeque"), .long]
  staticTypes := #[.long, .long]
  resolved := Array.replicate 94 none
  statics := some 0 }

def pool3 : Array CpInfo := pool [(8, .class_ 10), (1, u "java/lang/Iterable"), (24, .class_ 36), (0, u "java/lang/Object")] 25

/-- java/lang/Iterable -/
def k3 : Class := { plain "java/lang/Iterable" (some 0) with
  accessFlags := 1537
  interfaces := #[]
  cf := some (fileOf pool3 8 #[] #[] 1537 35 #[] #[])
  fields := #[]
  methods := #[]
  instanceTypes := #[]
  staticTypes := #[]
  resolved := Array.replicate 62 none
  statics := none }

def pool4 : Array CpInfo := pool [(10, .class_ 12), (1, u "java/util/Collection"), (47, .class_ 61), (0, u "java/lang/Object"), (0, .class_ 63), (0, u "java/lang/Iterable")] 51

/-- java/util/Collection -/
def k4 : Class := { plain "java/util/Collection" (some 0) with
  accessFlags := 1537
  interfaces := #[3]
  cf := some (fileOf pool4 10 #[] #[] 1537 60 #[62] #[])
  fields := #[]
  methods := #[]
  instanceTypes := #[]
  staticTypes := #[]
  resolved := Array.replicate 115 none
  statics := none }

def pool5 : Array CpInfo := pool [(1, .methodref 2 3), (0, .class_ 4), (0, .nameAndType 5 6), (0, u "java/lang/Object"), (0, u "<init>"), (0, u "()V"), (1, .class_ 10), (1, u "java/util/AbstractCollection"), (66, .class_ 78), (0, u "java/util/Collection")] 81

def k5c0 : Code := { maxStack := 1, maxLocals := 1, code := jdk_22_method_1_code, exceptionTable := #[], attributes := #[] }
def k5m0 : Method := { name := "<init>", desc := "()V", sig := { parameters := [], returnType := none }, accessFlags := 4, code := some k5c0 }
/-- java/util/AbstractCollection -/
def k5 : Class := { plain "java/util/AbstractCollection" (some 0) with
  accessFlags := 1057
  interfaces := #[4]
  cf := some (fileOf pool5 8 #[] #[{ accessFlags := 4, nameIndex := 5, descriptorIndex := 6, attributes := #[] }] 1057 2 #[77] #[])
  fields := #[]
  methods := #[k5m0]
  instanceTypes := #[]
  staticTypes := #[]
  resolved := Array.replicate 160 none
  statics := none }

def pool6 : Array CpInfo := pool [(1, .class_ 2), (0, u "java/util/Queue"), (0, .class_ 4), (0, u "java/lang/Object"), (0, .class_ 6), (0, u "java/util/Collection")] 14

/-- java/util/Queue -/
def k6 : Class := { plain "java/util/Queue" (some 0) with
  accessFlags := 1537
  interfaces := #[4]
  cf := some (fileOf pool6 1 #[] #[] 1537 3 #[5] #[])
  fields := #[]
  methods := #[]
  instanceTypes := #[]
  staticTypes := #[]
  resolved := Array.replicate 21 none
  statics := none }

def pool7 : Array CpInfo := pool [(8, .class_ 10), (1, u "java/util/SequencedCollection"), (15, .class_ 27), (0, u "java/lang/Object"), (0, .class_ 29), (0, u "java/util/Collection")] 27

/-- java/util/SequencedCollection -/
def k7 : Class := { plain "java/util/SequencedCollection" (some 0) with
  accessFlags := 1537
  interfaces := #[4]
  cf := some (fileOf pool7 8 #[] #[] 1537 26 #[28] #[])
  fields := #[]
  methods := #[]
  instanceTypes := #[]
  staticTypes := #[]
  resolved := Array.replicate 57 none
  statics := none }

def pool8 : Array CpInfo := pool [(8, .class_ 10), (1, u "java/util/Deque"), (2, .class_ 14), (0, u "java/lang/Object"), (0, .class_ 16), (0, u "java/util/Queue"), (0, .class_ 18), (0, u "java/util/SequencedCollection")] 51

/-- java/util/Deque -/
def k8 : Class := { plain "java/util/Deque" (some 0) with
  accessFlags := 1537
  interfaces := #[6, 7]
  cf := some (fileOf pool8 8 #[] #[] 1537 13 #[15, 17] #[])
  fields := #[]
  methods := #[]
  instanceTypes := #[]
  staticTypes := #[]
  resolved := Array.replicate 70 none
  statics := none }

def pool9 : Array CpInfo := pool [(1, .class_ 2), (0, u "java/lang/Cloneable"), (0, .class_ 4), (0, u "java/lang/Object")] 2

/-- java/lang/Cloneable -/
def k9 : Class := { plain "java/lang/Cloneable" (some 0) with
  accessFlags := 1537
  interfaces := #[]
  cf := some (fileOf pool9 1 #[] #[] 1537 3 #[] #[])
  fields := #[]
  methods := #[]
  instanceTypes := #[]
  staticTypes := #[]
  resolved := Array.replicate 7 none
  statics := none }

def pool10 : Array CpInfo := pool [(1, .class_ 2), (0, u "java/io/Serializable"), (0, .class_ 4), (0, u "java/lang/Object")] 2

/-- java/io/Serializable -/
def k10 : Class := { plain "java/io/Serializable" (some 0) with
  accessFlags := 1537
  interfaces := #[]
  cf := some (fileOf pool10 1 #[] #[] 1537 3 #[] #[])
  fields := #[]
  methods := #[]
  instanceTypes := #[]
  staticTypes := #[]
  resolved := Array.replicate 7 none
  statics := none }

def pool11 : Array CpInfo := pool [(3, .fieldref 4 5), (0, .class_ 6), (0, .nameAndType 7 8), (0, u "java/util/ArrayDeque"), (0, u "elements"), (0, u "[Ljava/lang/Object;"), (4, u "(II)I"), (6, .fieldref 4 21), (0, .nameAndType 22 23), (0, u "tail"), (0, u "I"), (0, .fieldref 4 25), (0, .nameAndType 26 23), (0, u "head"), (12, u "<init>"), (2, .methodref 43 44), (0, .class_ 45), (0, .nameAndType 39 46), (0, u "java/util/AbstractCollection"), (0, u "()V"), (0, .class_ 48), (0, u "java/lang/Object"), (4, u "size"), (0, u "()I"), (19, .methodref 4 75), (0, .nameAndType 76 13), (0, u "inc"), (12, u "(Ljava/lang/Object;)V"), (2, u "addLast"), (3, u "()Ljava/lang/Object;"), (6, .methodref 4 104), (0, .nameAndType 105 106), (0, u "elementAt"), (0, u "([Ljava/lang/Object;I)Ljava/lang/Object;"), (16, u "getFirst"), (3, .methodref 4 128), (0, .nameAndType 129 130), (0, u "sub"), (0, u "(III)I"), (0, .class_ 132), (0, u "java/util/ArrayDeque$DeqIterator"), (0, .methodref 131 134), (0, .nameAndType 39 135), (0, u "(Ljava/util/ArrayDeque;)V"), (0, .class_ 137), (0, u "java/util/ArrayDeque$DescendingIterator"), (1, .class_ 140), (0, u "java/util/ArrayDeque$DeqSpliterator"), (137, .class_ 279), (0, u "java/util/Deque"), (0, .class_ 281), (0, u "java/lang/Cloneable"), (0, .class_ 283), (0, u "java/io/Serializable"), (0, u "MAX_ARRAY_SIZE"), (1, u "serialVersionUID"), (0, u "J"), (28, u "nonNullElementAt"), (30, u "isEmpty"), (0, u "()Z"), (0, u "iterator"), (0, u "()Ljava/util/Iterator;")] 87

def k11c0 : Code := { maxStack := 2, maxLocals := 1, code := jdk_21_method_3_code, exceptionTable := #[], attributes := #[] }
def k11m0 : Method := { name := "<init>", desc := "()V", sig := { parameters := [], returnType := none }, accessFlags := 1, code := some k11c0 }
def k11c1 : Code := { maxStack := 2, maxLocals := 2, code := jdk_21_method_6_code, exceptionTable := #[], attributes := #[] }
def k11m1 : Method := { name := "inc", desc := "(II)I", sig := { parameters := [.int, .int], returnType := some .int }, accessFlags := 24, code := some k11c1 }
def k11c2 : Code := { maxStack := 2, maxLocals := 3, code := jdk_21_method_9_code, exceptionTable := #[], attributes := #[] }
def k11m2 : Method := { name := "sub", desc := "(III)I", sig := { parameters := [.int, .int, .int], returnType := some .int }, accessFlags := 24, code := some k11c2 }
def k11c3 : Code := { maxStack := 2, maxLocals := 2, code := jdk_21_method_10_code, exceptionTable := #[], attributes := #[] }
def k11m3 : Method := { name := "elementAt", desc := "([Ljava/lang/Object;I)Ljava/lang/Object;", sig := { parameters := [(.array (.object "java/lang/Object")), .int], returnType := some (.object "java/lang/Object") }, accessFlags := 24, code := some k11c3 }
def k11c4 : Code := { maxStack := 2, maxLocals := 3, code := jdk_21_method_11_code, exceptionTable := #[], attributes := #[] }
def k11m4 : Method := { name := "nonNullElementAt", desc := "([Ljava/lang/Object;I)Ljava/lang/Object;", sig := { parameters := [(.array (.object "java/lang/Object")), .int], returnType := some (.object "java/lang/Object") }, accessFlags := 24, code := some k11c4 }
def k11c5 : Code := { maxStack := 4, maxLocals := 3, code := jdk_21_method_13_code, exceptionTable := #[], attributes := #[] }
def k11m5 : Method := { name := "addLast", desc := "(Ljava/lang/Object;)V", sig := { parameters := [(.object "java/lang/Object")], returnType := none }, accessFlags := 1, code := some k11c5 }
def k11c6 : Code := { maxStack := 2, maxLocals := 2, code := jdk_21_method_22_code, exceptionTable := #[], attributes := #[] }
def k11m6 : Method := { name := "getFirst", desc := "()Ljava/lang/Object;", sig := { parameters := [], returnType := some (.object "java/lang/Object") }, accessFlags := 1, code := some k11c6 }
def k11c7 : Code := { maxStack := 3, maxLocals := 1, code := jdk_21_method_37_code, exceptionTable := #[], attributes := #[] }
def k11m7 : Method := { name := "size", desc := "()I", sig := { parameters := [], returnType := some .int }, accessFlags := 1, code := some k11c7 }
def k11c8 : Code := { maxStack := 2, maxLocals := 1, code := jdk_21_method_38_code, exceptionTable := #[], attributes := #[] }
def k11m8 : Method := { name := "isEmpty", desc := "()Z", sig := { parameters := [], returnType := some .boolean }, accessFlags := 1, code := some k11c8 }
def k11c9 : Code := { maxStack := 3, maxLocals := 1, code := jdk_21_method_39_code, exceptionTable := #[], attributes := #[] }
def k11m9 : Method := { name := "iterator", desc := "()Ljava/util/Iterator;", sig := { parameters := [], returnType := some (.object "java/util/Iterator") }, accessFlags := 1, code := some k11c9 }
/-- java/util/ArrayDeque -/
def k11 : Class := { plain "java/util/ArrayDeque" (some 5) with
  accessFlags := 33
  interfaces := #[8, 9, 10]
  cf := some (fileOf pool11 4 #[.nestMembers #[139, 136, 131]] #[{ accessFlags := 1, nameIndex := 39, descriptorIndex := 46, attributes := #[] }, { accessFlags := 24, nameIndex := 76, descriptorIndex := 13, attributes := #[] }, { accessFlags := 24, nameIndex := 129, descriptorIndex := 130, attributes := #[] }, { accessFlags := 24, nameIndex := 105, descriptorIndex := 106, attributes := #[] }, { accessFlags := 24, nameIndex := 316, descriptorIndex := 106, attributes := #[] }, { accessFlags := 1, nameIndex := 92, descriptorIndex := 89, attributes := #[] }, { accessFlags := 1, nameIndex := 123, descriptorIndex := 96, attributes := #[] }, { accessFlags := 1, nameIndex := 53, descriptorIndex := 54, attributes := #[] }, { accessFlags := 1, nameIndex := 347, descriptorIndex := 348, attributes := #[] }, { accessFlags := 1, nameIndex := 349, descriptorIndex := 350, attributes := #[] }] 33 43 #[278, 280, 282] #[{ accessFlags := 128, nameIndex := 7, descriptorIndex := 8, attributes := #[] }, { accessFlags := 128, nameIndex := 26, descriptorIndex := 23, attributes := #[] }, { accessFlags := 128, nameIndex := 22, descriptorIndex := 23, attributes := #[] }, { accessFlags := 26, nameIndex := 284, descriptorIndex := 23, attributes := #[] }, { accessFlags := 26, nameIndex := 286, descriptorIndex := 287, attributes := #[] }])
  fields := #[{ name := "elements", type := (.array (.object "java/lang/Object")), accessFlags := 128, slot := 0, constantValue := 0 }, { name := "head", type := .int, accessFlags := 128, slot := 1, constantValue := 0 }, { name := "tail", type := .int, accessFlags := 128, slot := 2, constantValue := 0 }, { name := "MAX_ARRAY_SIZE", type := .int, accessFlags := 26, slot := 0, constantValue := 0 }, { name := "serialVersionUID", type := .long, accessFlags := 26, slot := 1, constantValue := 0 }]
  methods := #[k11m0, k11m1, k11m2, k11m3, k11m4, k11m5, k11m6, k11m7, k11m8, k11m9]
  instanceTypes := #[(.array (.object "java/lang/Object")), .int, .int]
  staticTypes := #[.int, .long]
  resolved := Array.replicate 438 none
  statics := none }

def pool12 : Array CpInfo := pool [(16, .class_ 18), (1, u "java/util/Iterator"), (4, u "next"), (0, u "()Ljava/lang/Object;"), (6, .class_ 32), (0, u "java/lang/Object")] 20

def k12m0 : Method := { name := "next", desc := "()Ljava/lang/Object;", sig := { parameters := [], returnType := some (.object "java/lang/Object") }, accessFlags := 1025, code := none }
/-- java/util/Iterator -/
def k12 : Class := { plain "java/util/Iterator" (some 0) with
  accessFlags := 1537
  interfaces := #[]
  cf := some (fileOf pool12 16 #[] #[{ accessFlags := 1025, nameIndex := 23, descriptorIndex := 24, attributes := #[] }] 1537 31 #[] #[])
  fields := #[]
  methods := #[k12m0]
  instanceTypes := #[]
  staticTypes := #[]
  resolved := Array.replicate 53 none
  statics := none }

def pool13 : Array CpInfo := pool [(1, .fieldref 2 3), (0, .class_ 4), (0, .nameAndType 5 6), (0, u "java/util/ArrayDeque$DeqIterator"), (0, u "this$0"), (0, u "Ljava/util/ArrayDeque;"), (0, .methodref 8 9), (0, .class_ 10), (0, .nameAndType 11 12), (0, u "java/lang/Object"), (0, u "<init>"), (0, u "()V"), (0, .methodref 14 15), (0, .class_ 16), (0, .nameAndType 17 18), (0, u "java/util/ArrayDeque"), (0, u "size"), (0, u "()I"), (0, .fieldref 2 20), (0, .nameAndType 21 22), (0, u "remaining"), (0, u "I"), (0, .fieldref 2 24), (0, .nameAndType 25 22), (0, u "lastRet"), (0, .fieldref 14 27), (0, .nameAndType 28 22), (0, u "head"), (0, .fieldref 2 30), (0, .nameAndType 31 22), (0, u "cursor"), (3, .fieldref 14 36), (0, .nameAndType 37 38), (0, u "elements"), (0, u "[Ljava/lang/Object;"), (0, .methodref 14 40), (0, .nameAndType 41 42), (0, u "nonNullElementAt"), (0, u "([Ljava/lang/Object;I)Ljava/lang/Object;"), (0, .methodref 14 44), (0, .nameAndType 45 46), (0, u "inc"), (0, u "(II)I"), (39, .class_ 87), (0, u "java/util/Iterator"), (0, u "(Ljava/util/ArrayDeque;)V"), (11, u "next"), (0, u "()Ljava/lang/Object;")] 26

def k13c0 : Code := { maxStack := 2, maxLocals := 2, code := jdk_54_method_1_code, exceptionTable := #[], attributes := #[] }
def k13m0 : Method := { name := "<init>", desc := "(Ljava/util/ArrayDeque;)V", sig := { parameters := [(.object "java/util/ArrayDeque")], returnType := none }, accessFlags := 0, code := some k13c0 }
def k13c1 : Code := { maxStack := 4, maxLocals := 3, code := jdk_54_method_3_code, exceptionTable := #[], attributes := #[] }
def k13m1 : Method := { name := "next", desc := "()Ljava/lang/Object;", sig := { parameters := [], returnType := some (.object "java/lang/Object") }, accessFlags := 1, code := some k13c1 }
/-- java/util/ArrayDeque$DeqIterator -/
def k13 : Class := { plain "java/util/ArrayDeque$DeqIterator" (some 0) with
  accessFlags := 32
  interfaces := #[12]
  cf := some (fileOf pool13 2 #[.nestHost 14] #[{ accessFlags := 0, nameIndex := 11, descriptorIndex := 88, attributes := #[] }, { accessFlags := 1, nameIndex := 100, descriptorIndex := 101, attributes := #[] }] 32 8 #[86] #[{ accessFlags := 0, nameIndex := 31, descriptorIndex := 22, attributes := #[] }, { accessFlags := 0, nameIndex := 21, descriptorIndex := 22, attributes := #[] }, { accessFlags := 0, nameIndex := 25, descriptorIndex := 22, attributes := #[] }, { accessFlags := 4112, nameIndex := 5, descriptorIndex := 6, attributes := #[] }])
  fields := #[{ name := "cursor", type := .int, accessFlags := 0, slot := 0, constantValue := 0 }, { name := "remaining", type := .int, accessFlags := 0, slot := 1, constantValue := 0 }, { name := "lastRet", type := .int, accessFlags := 0, slot := 2, constantValue := 0 }, { name := "this$0", type := (.object "java/util/ArrayDeque"), accessFlags := 4112, slot := 3, constantValue := 0 }]
  methods := #[k13m0, k13m1]
  instanceTypes := #[.int, .int, .int, (.object "java/util/ArrayDeque")]
  staticTypes := #[]
  resolved := Array.replicate 128 none
  statics := none }

/-- the primitive byte -/
def k14 : Class := { plain "byte" none with kind := .primitive 'B', accessFlags := 0x411 }
/-- [B -/
def k15 : Class := { plain "[B" (some 0) with kind := .array 14 .byte, interfaces := #[9, 10], accessFlags := 1041 }

/-- the primitive int -/
def k16 : Class := { plain "int" none with kind := .primitive 'I', accessFlags := 0x411 }
/-- [I -/
def k17 : Class := { plain "[I" (some 0) with kind := .array 16 .int, interfaces := #[9, 10], accessFlags := 1041 }

/-- the primitive long -/
def k18 : Class := { plain "long" none with kind := .primitive 'J', accessFlags := 0x411 }
/-- [J -/
def k19 : Class := { plain "[J" (some 0) with kind := .array 18 .long, interfaces := #[9, 10], accessFlags := 1041 }

/-- [Ljava/lang/Object; -/
def k20 : Class := { plain "[Ljava/lang/Object;" (some 0) with kind := .array 0 (.object "java/lang/Object"), interfaces := #[9, 10], accessFlags := 1041 }

def heap : Heap := #[{ cls := 2, slots := #[.long 2000000000, .long 600000000000], vm := .statics 2 }]
def classes : Array Class := #[k0, k1, k2, k3, k4, k5, k6, k7, k8, k9, k10, k11, k12, k13, k14, k15, k16, k17, k18, k19, k20]
def interned : List (Array UInt16 × Addr) := []
def slotsUsed : Nat := 2
def theMethod : MethodId := ⟨1, 1⟩
def args0 : Array Value := #[.long 5, .int 5, .int 5, .int 5, .long 5, .int 5]
def aboutOver (below : List Frame) : State where
  vm := { classes := classes, interned := interned.toArray }
  heap := heap
  slotsUsed := slotsUsed
  threads := #[{ frames := .invoking theMethod args0 :: below }]
def below0 : List Frame := [.native { method := ⟨0, 0⟩, args := #[] }]
def about1 : State := aboutOver below0
def p0 : Program := .bare "" "" ""
def e0 : Env := launch0.env 0 0 0
theorem w_frames : about1.frames = Frame.invoking theMethod args0 :: below0 := rfl
set_option maxRecDepth 65536 in
theorem w_args : argsFit about1.vm theMethod args0 = true := by decide +kernel
set_option maxRecDepth 65536 in
theorem w_heap : heapFits about1 = true := by decide +kernel
set_option maxRecDepth 65536 in
theorem w_runnable : about1.curStatus? = some .runnable := by decide +kernel
set_option maxRecDepth 65536 in
theorem w_alone : about1.alone = true := by decide +kernel
set_option maxRecDepth 65536 in
theorem w_named : about1.methodNamed? x = some theMethod := by decide +kernel
set_option maxRecDepth 65536 in
theorem w_hears : about1.hears theMethod below0 = true := by decide +kernel
set_option maxRecDepth 65536 in
theorem w_ripe : about1.ripe theMethod args0 below0 = true := by decide +kernel
theorem w_running : about1.status = .running := rfl
set_option maxRecDepth 65536 in
theorem w_room : about1.hasRoom e0.platform room_1 = true :=
  launch0.hasRoom_least _ room_1 (by decide +kernel) (by decide +kernel) (by decide +kernel) (by decide +kernel) (by decide +kernel) (by decide +kernel)
theorem allAtoms_all (ts : List Jvm.Cond) (a : Array Jvm.Value) (st : Jvm.State) : (allAtoms ts).before a st = ts.all (fun c => c.before a st) := by
  induction ts with
  | nil => rfl
  | cons c t ih =>
    show (Jvm.Cond.and c (allAtoms t)).before a st = _
    rw [Jvm.Cond.before_and, ih, List.all_cons]
def words1 : List Jvm.Cond := Jvm.Cond.code x code maxLocals ret :: tables_1
/-- a 'code' word, met by the world's own term for the bytes: nothing is compared byte by byte -/
theorem code_word {y : MethodName} {bytes : ByteArray} {mx : Nat} {rt : Option FieldType} {a : Array Value} {s : State} {m : MethodId} {meth : Method} {c : Code} (h1 : s.methodNamed? y = some m) (h2 : s.vm.method? m = some meth) (h3 : meth.code = some c) (h4 : c.code = bytes)
    (h5 : (c.maxLocals == mx && c.exceptionTable.isEmpty && decide (c.maxStack ≤ mostOperands) && decide (meth.sig.returnType = rt) && !meth.locks && decide (parseMethodDescriptor y.desc = some meth.sig)) = true) : (Jvm.Cond.code y bytes mx rt).before a s = true := by
  simp only [Bool.and_eq_true, beq_iff_eq, Bool.not_eq_true', decide_eq_true_eq] at h5
  obtain ⟨⟨⟨⟨⟨g1, g2⟩, g3⟩, g4⟩, g5⟩, g6⟩ := h5
  simp [Cond.before, Cond.holds, Cond.value, h1, h2, h3, h4, g1, g2, g3, g4, g5, g6]
def isCode : Jvm.Cond → Bool
  | .code _ _ _ _ => true
  | _ => false
theorem all_split {L : List Jvm.Cond} {P : Jvm.Cond → Bool} (h1 : L.all (fun c => isCode c || P c) = true) (h2 : ∀ c ∈ L.filter isCode, P c = true) : L.all P = true := by
  refine List.all_eq_true.mpr fun c hc => ?_
  have h := List.all_eq_true.mp h1 c hc
  rcases Bool.eq_false_or_eq_true (isCode c) with hi | hi
  · exact h2 c (List.mem_filter.mpr ⟨hc, hi⟩)
  · simpa [hi] using h
set_option maxRecDepth 65536 in
theorem w_c0 : (Jvm.Cond.code x code maxLocals ret).before args0 about1 = true := code_word (m := ⟨1, 1⟩) (meth := k1m1) (c := k1c1) (by decide +kernel) rfl rfl rfl (by decide +kernel)
set_option maxRecDepth 65536 in
theorem w_c1 : (Jvm.Cond.code ({ cls := "com/example/minderd/minderd/process/Listings", name := "<init>", desc := "()V" } : Jvm.MethodName) prog_29_method_1_code (1 : Nat) (Option.none : Option Jvm.ClassFile.FieldType)).before args0 about1 = true := code_word (m := ⟨2, 0⟩) (meth := k2m0) (c := k2c0) (by decide +kernel) rfl rfl rfl (by decide +kernel)
set_option maxRecDepth 65536 in
theorem w_c2 : (Jvm.Cond.code ({ cls := "java/lang/Object", name := "<init>", desc := "()V" } : Jvm.MethodName) object_method_1_code (1 : Nat) (Option.none : Option Jvm.ClassFile.FieldType)).before args0 about1 = true := code_word (m := ⟨0, 0⟩) (meth := k0m0) (c := k0c0) (by decide +kernel) rfl rfl rfl (by decide +kernel)
set_option maxRecDepth 65536 in
theorem w_c3 : (Jvm.Cond.code ({ cls := "java/util/ArrayDeque", name := "<init>", desc := "()V" } : Jvm.MethodName) jdk_21_method_3_code (1 : Nat) (Option.none : Option Jvm.ClassFile.FieldType)).before args0 about1 = true := code_word (m := ⟨11, 0⟩) (meth := k11m0) (c := k11c0) (by decide +kernel) rfl rfl rfl (by decide +kernel)
set_option maxRecDepth 65536 in
theorem w_c4 : (Jvm.Cond.code ({ cls := "java/util/AbstractCollection", name := "<init>", desc := "()V" } : Jvm.MethodName) jdk_22_method_1_code (1 : Nat) (Option.none : Option Jvm.ClassFile.FieldType)).before args0 about1 = true := code_word (m := ⟨5, 0⟩) (meth := k5m0) (c := k5c0) (by decide +kernel) rfl rfl rfl (by decide +kernel)
set_option maxRecDepth 65536 in
theorem w_c5 : (Jvm.Cond.code ({ cls := "com/example/minderd/minderd/process/Listings", name := "spans", desc := "(JI)[I" } : Jvm.MethodName) prog_29_method_2_code (6 : Nat) (Option.some (Jvm.ClassFile.FieldType.array Jvm.ClassFile.FieldType.int))).before args0 about1 = true := code_word (m := ⟨2, 1⟩) (meth := k2m1) (c := k2c1) (by decide +kernel) rfl rfl rfl (by decide +kernel)
set_option maxRecDepth 65536 in
theorem w_c6 : (Jvm.Cond.code ({ cls := "java/util/ArrayDeque", name := "isEmpty", desc := "()Z" } : Jvm.MethodName) jdk_21_method_38_code (1 : Nat) (Option.some Jvm.ClassFile.FieldType.boolean)).before args0 about1 = true := code_word (m := ⟨11, 8⟩) (meth := k11m8) (c := k11c8) (by decide +kernel) rfl rfl rfl (by decide +kernel)
set_option maxRecDepth 65536 in
theorem w_c7 : (Jvm.Cond.code ({ cls := "com/example/minderd/minderd/process/Listings", name := "looked", desc := "(JIZ)V" } : Jvm.MethodName) prog_29_method_3_code (5 : Nat) (Option.none : Option Jvm.ClassFile.FieldType)).before args0 about1 = true := code_word (m := ⟨2, 2⟩) (meth := k2m2) (c := k2c2) (by decide +kernel) rfl rfl rfl (by decide +kernel)
set_option maxRecDepth 65536 in
theorem w_c8 : (Jvm.Cond.code ({ cls := "java/util/ArrayDeque", name := "addLast", desc := "(Ljava/lang/Object;)V" } : Jvm.MethodName) jdk_21_method_13_code (3 : Nat) (Option.none : Option Jvm.ClassFile.FieldType)).before args0 about1 = true := code_word (m := ⟨11, 5⟩) (meth := k11m5) (c := k11c5) (by decide +kernel) rfl rfl rfl (by decide +kernel)
set_option maxRecDepth 65536 in
theorem w_c9 : (Jvm.Cond.code ({ cls := "java/util/ArrayDeque", name := "inc", desc := "(II)I" } : Jvm.MethodName) jdk_21_method_6_code (2 : Nat) (Option.some Jvm.ClassFile.FieldType.int)).before args0 about1 = true := code_word (m := ⟨11, 1⟩) (meth := k11m1) (c := k11c1) (by decide +kernel) rfl rfl rfl (by decide +kernel)
set_option maxRecDepth 65536 in
theorem w_c10 : (Jvm.Cond.code ({ cls := "java/util/ArrayDeque", name := "size", desc := "()I" } : Jvm.MethodName) jdk_21_method_37_code (1 : Nat) (Option.some Jvm.ClassFile.FieldType.int)).before args0 about1 = true := code_word (m := ⟨11, 7⟩) (meth := k11m7) (c := k11c7) (by decide +kernel) rfl rfl rfl (by decide +kernel)
set_option maxRecDepth 65536 in
theorem w_c11 : (Jvm.Cond.code ({ cls := "java/util/ArrayDeque", name := "sub", desc := "(III)I" } : Jvm.MethodName) jdk_21_method_9_code (3 : Nat) (Option.some Jvm.ClassFile.FieldType.int)).before args0 about1 = true := code_word (m := ⟨11, 2⟩) (meth := k11m2) (c := k11c2) (by decide +kernel) rfl rfl rfl (by decide +kernel)
set_option maxRecDepth 65536 in
theorem w_c12 : (Jvm.Cond.code ({ cls := "com/example/minderd/minderd/process/Listings", name := "secondOldest", desc := "()J" } : Jvm.MethodName) prog_29_method_4_code (2 : Nat) (Option.some Jvm.ClassFile.FieldType.long)).before args0 about1 = true := code_word (m := ⟨2, 3⟩) (meth := k2m3) (c := k2c3) (by decide +kernel) rfl rfl rfl (by decide +kernel)
set_option maxRecDepth 65536 in
theorem w_c13 : (Jvm.Cond.code ({ cls := "java/util/ArrayDeque", name := "iterator", desc := "()Ljava/util/Iterator;" } : Jvm.MethodName) jdk_21_method_39_code (1 : Nat) (Option.some (Jvm.ClassFile.FieldType.object "java/util/Iterator"))).before args0 about1 = true := code_word (m := ⟨11, 9⟩) (meth := k11m9) (c := k11c9) (by decide +kernel) rfl rfl rfl (by decide +kernel)
set_option maxRecDepth 65536 in
theorem w_c14 : (Jvm.Cond.code ({ cls := "java/util/ArrayDeque$DeqIterator", name := "<init>", desc := "(Ljava/util/ArrayDeque;)V" } : Jvm.MethodName) jdk_54_method_1_code (2 : Nat) (Option.none : Option Jvm.ClassFile.FieldType)).before args0 about1 = true := code_word (m := ⟨13, 0⟩) (meth := k13m0) (c := k13c0) (by decide +kernel) rfl rfl rfl (by decide +kernel)
set_option maxRecDepth 65536 in
theorem w_c15 : (Jvm.Cond.code ({ cls := "java/util/ArrayDeque$DeqIterator", name := "next", desc := "()Ljava/lang/Object;" } : Jvm.MethodName) jdk_54_method_3_code (3 : Nat) (Option.some (Jvm.ClassFile.FieldType.object "java/lang/Object"))).before args0 about1 = true := code_word (m := ⟨13, 1⟩) (meth := k13m1) (c := k13c1) (by decide +kernel) rfl rfl rfl (by decide +kernel)
set_option maxRecDepth 65536 in
theorem w_c16 : (Jvm.Cond.code ({ cls := "java/util/ArrayDeque", name := "nonNullElementAt", desc := "([Ljava/lang/Object;I)Ljava/lang/Object;" } : Jvm.MethodName) jdk_21_method_11_code (3 : Nat) (Option.some (Jvm.ClassFile.FieldType.object "java/lang/Object"))).before args0 about1 = true := code_word (m := ⟨11, 4⟩) (meth := k11m4) (c := k11c4) (by decide +kernel) rfl rfl rfl (by decide +kernel)
set_option maxRecDepth 65536 in
theorem w_c17 : (Jvm.Cond.code ({ cls := "java/util/ArrayDeque", name := "getFirst", desc := "()Ljava/lang/Object;" } : Jvm.MethodName) jdk_21_method_22_code (2 : Nat) (Option.some (Jvm.ClassFile.FieldType.object "java/lang/Object"))).before args0 about1 = true := code_word (m := ⟨11, 6⟩) (meth := k11m6) (c := k11c6) (by decide +kernel) rfl rfl rfl (by decide +kernel)
set_option maxRecDepth 65536 in
theorem w_c18 : (Jvm.Cond.code ({ cls := "java/util/ArrayDeque", name := "elementAt", desc := "([Ljava/lang/Object;I)Ljava/lang/Object;" } : Jvm.MethodName) jdk_21_method_10_code (2 : Nat) (Option.some (Jvm.ClassFile.FieldType.object "java/lang/Object"))).before args0 about1 = true := code_word (m := ⟨11, 3⟩) (meth := k11m3) (c := k11c3) (by decide +kernel) rfl rfl rfl (by decide +kernel)
set_option maxRecDepth 65536 in
theorem w_c19 : (Jvm.Cond.code ({ cls := "com/example/minderd/minderd/process/ListingsSpansPinLaw", name := "same", desc := "([IIIIII)Z" } : Jvm.MethodName) method_3_code (6 : Nat) (Option.some Jvm.ClassFile.FieldType.boolean)).before args0 about1 = true := code_word (m := ⟨1, 2⟩) (meth := k1m2) (c := k1c2) (by decide +kernel) rfl rfl rfl (by decide +kernel)
def codes1 : List Jvm.Cond := [Jvm.Cond.code x code maxLocals ret, Jvm.Cond.code ({ cls := "com/example/minderd/minderd/process/Listings", name := "<init>", desc := "()V" } : Jvm.MethodName) prog_29_method_1_code (1 : Nat) (Option.none : Option Jvm.ClassFile.FieldType), Jvm.Cond.code ({ cls := "java/lang/Object", name := "<init>", desc := "()V" } : Jvm.MethodName) object_method_1_code (1 : Nat) (Option.none : Option Jvm.ClassFile.FieldType), Jvm.Cond.code ({ cls := "java/util/ArrayDeque", name := "<init>", desc := "()V" } : Jvm.MethodName) jdk_21_method_3_code (1 : Nat) (Option.none : Option Jvm.ClassFile.FieldType), Jvm.Cond.code ({ cls := "java/util/AbstractCollection", name := "<init>", desc := "()V" } : Jvm.MethodName) jdk_22_method_1_code (1 : Nat) (Option.none : Option Jvm.ClassFile.FieldType), Jvm.Cond.code ({ cls := "com/example/minderd/minderd/process/Listings", name := "spans", desc := "(JI)[I" } : Jvm.MethodName) prog_29_method_2_code (6 : Nat) (Option.some (Jvm.ClassFile.FieldType.array Jvm.ClassFile.FieldType.int)), Jvm.Cond.code ({ cls := "java/util/ArrayDeque", name := "isEmpty", desc := "()Z" } : Jvm.MethodName) jdk_21_method_38_code (1 : Nat) (Option.some Jvm.ClassFile.FieldType.boolean), Jvm.Cond.code ({ cls := "com/example/minderd/minderd/process/Listings", name := "looked", desc := "(JIZ)V" } : Jvm.MethodName) prog_29_method_3_code (5 : Nat) (Option.none : Option Jvm.ClassFile.FieldType), Jvm.Cond.code ({ cls := "java/util/ArrayDeque", name := "addLast", desc := "(Ljava/lang/Object;)V" } : Jvm.MethodName) jdk_21_method_13_code (3 : Nat) (Option.none : Option Jvm.ClassFile.FieldType), Jvm.Cond.code ({ cls := "java/util/ArrayDeque", name := "inc", desc := "(II)I" } : Jvm.MethodName) jdk_21_method_6_code (2 : Nat) (Option.some Jvm.ClassFile.FieldType.int), Jvm.Cond.code ({ cls := "java/util/ArrayDeque", name := "size", desc := "()I" } : Jvm.MethodName) jdk_21_method_37_code (1 : Nat) (Option.some Jvm.ClassFile.FieldType.int), Jvm.Cond.code ({ cls := "java/util/ArrayDeque", name := "sub", desc := "(III)I" } : Jvm.MethodName) jdk_21_method_9_code (3 : Nat) (Option.some Jvm.ClassFile.FieldType.int), Jvm.Cond.code ({ cls := "com/example/minderd/minderd/process/Listings", name := "secondOldest", desc := "()J" } : Jvm.MethodName) prog_29_method_4_code (2 : Nat) (Option.some Jvm.ClassFile.FieldType.long), Jvm.Cond.code ({ cls := "java/util/ArrayDeque", name := "iterator", desc := "()Ljava/util/Iterator;" } : Jvm.MethodName) jdk_21_method_39_code (1 : Nat) (Option.some (Jvm.ClassFile.FieldType.object "java/util/Iterator")), Jvm.Cond.code ({ cls := "java/util/ArrayDeque$DeqIterator", name := "<init>", desc := "(Ljava/util/ArrayDeque;)V" } : Jvm.MethodName) jdk_54_method_1_code (2 : Nat) (Option.none : Option Jvm.ClassFile.FieldType), Jvm.Cond.code ({ cls := "java/util/ArrayDeque$DeqIterator", name := "next", desc := "()Ljava/lang/Object;" } : Jvm.MethodName) jdk_54_method_3_code (3 : Nat) (Option.some (Jvm.ClassFile.FieldType.object "java/lang/Object")), Jvm.Cond.code ({ cls := "java/util/ArrayDeque", name := "nonNullElementAt", desc := "([Ljava/lang/Object;I)Ljava/lang/Object;" } : Jvm.MethodName) jdk_21_method_11_code (3 : Nat) (Option.some (Jvm.ClassFile.FieldType.object "java/lang/Object")), Jvm.Cond.code ({ cls := "java/util/ArrayDeque", name := "getFirst", desc := "()Ljava/lang/Object;" } : Jvm.MethodName) jdk_21_method_22_code (2 : Nat) (Option.some (Jvm.ClassFile.FieldType.object "java/lang/Object")), Jvm.Cond.code ({ cls := "java/util/ArrayDeque", name := "elementAt", desc := "([Ljava/lang/Object;I)Ljava/lang/Object;" } : Jvm.MethodName) jdk_21_method_10_code (2 : Nat) (Option.some (Jvm.ClassFile.FieldType.object "java/lang/Object")), Jvm.Cond.code ({ cls := "com/example/minderd/minderd/process/ListingsSpansPinLaw", name := "same", desc := "([IIIIII)Z" } : Jvm.MethodName) method_3_code (6 : Nat) (Option.some Jvm.ClassFile.FieldType.boolean)]
set_option maxRecDepth 65536 in
theorem codes_eq : words1.filter isCode = codes1 := rfl
theorem w_codes : ∀ c ∈ words1.filter isCode, c.before args0 about1 = true := by
  rw [codes_eq]
  intro c hc
  simp only [codes1, List.mem_cons, List.not_mem_nil, or_false] at hc
  rcases hc with rfl | rfl | rfl | rfl | rfl | rfl | rfl | rfl | rfl | rfl | rfl | rfl | rfl | rfl | rfl | rfl | rfl | rfl | rfl | rfl
  · exact w_c0
  · exact w_c1
  · exact w_c2
  · exact w_c3
  · exact w_c4
  · exact w_c5
  · exact w_c6
  · exact w_c7
  · exact w_c8
  · exact w_c9
  · exact w_c10
  · exact w_c11
  · exact w_c12
  · exact w_c13
  · exact w_c14
  · exact w_c15
  · exact w_c16
  · exact w_c17
  · exact w_c18
  · exact w_c19
set_option maxRecDepth 65536 in
theorem w_t1 : (words1.take 24).all (fun c => isCode c || c.before args0 about1) = true := by decide +kernel
set_option maxRecDepth 65536 in
theorem w_t2 : ((words1.drop 24).take 24).all (fun c => isCode c || c.before args0 about1) = true := by decide +kernel
set_option maxRecDepth 65536 in
theorem w_t3 : (((words1.drop 24).drop 24).take 24).all (fun c => isCode c || c.before args0 about1) = true := by decide +kernel
set_option maxRecDepth 65536 in
theorem w_t4 : ((((words1.drop 24).drop 24).drop 24).take 24).all (fun c => isCode c || c.before args0 about1) = true := by decide +kernel
set_option maxRecDepth 65536 in
theorem w_t5 : (((((words1.drop 24).drop 24).drop 24).drop 24).take 24).all (fun c => isCode c || c.before args0 about1) = true := by decide +kernel
set_option maxRecDepth 65536 in
theorem w_t6 : (((((words1.drop 24).drop 24).drop 24).drop 24).drop 24).all (fun c => isCode c || c.before args0 about1) = true := by decide +kernel
theorem w_tables : (allAtoms (Jvm.Cond.code x code maxLocals ret :: tables_1)).before args0 about1 = true := by
  rw [allAtoms_all]
  show words1.all (fun c => c.before args0 about1) = true
  refine all_split ?_ w_codes
  rw [← List.take_append_drop 24 words1, List.all_append, w_t1, ← List.take_append_drop 24 (words1.drop 24), List.all_append, w_t2, ← List.take_append_drop 24 ((words1.drop 24).drop 24), List.all_append, w_t3, ← List.take_append_drop 24 (((words1.drop 24).drop 24).drop 24), List.all_append, w_t4, ← List.take_append_drop 24 ((((words1.drop 24).drop 24).drop 24).drop 24), List.all_append, w_t5, w_t6]
  rfl
set_option maxRecDepth 65536 in
theorem w_case : (Jvm.Cond.and given_1 narrow_1).before args0 about1 = true := by decide +kernel
theorem w_applies : (headSpec (Jvm.Cond.code x code maxLocals ret :: tables_1) room_1).applies x e0.platform about1 = true :=
  (Spec.applies_iff w_frames).mpr ⟨w_running, w_runnable, w_alone, w_named, w_hears, w_ripe, w_room, w_tables⟩
theorem atStart : AtStart classFile x code maxLocals ret World_1 tables_1 room_1 Calls_1 rest_1 Pre_1 launch0 p0 e0 about1 theMethod args0 below0 :=
  ⟨lists_1, trivial, launch0.admits_env _ _ _, launch0.least_env, fairChoices_fair.cas, fairChoices_fair.clock, w_frames, w_args, w_heap, w_applies, trivial, trivial, w_case⟩
end start1
theorem witness_1 : WitnessClaimed_1 := ⟨start1.p0, start1.e0, start1.about1, start1.theMethod, start1.args0, start1.below0, start1.atStart⟩
end Jvm.Pilot.@@N@@
