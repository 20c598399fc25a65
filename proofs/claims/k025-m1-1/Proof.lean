import JvmDerived
import JvmDerived.Pilot.@@N@@Statement
import JvmDerived.Pilot.@@N@@Code
set_option linter.unusedVariables false
set_option linter.unusedSimpArgs false
namespace Jvm.Pilot.@@N@@
open Jvm Jvm.ClassFile Sem Op Lib Jvm.Free Jvm.Stand Jvm.LawKit Jvm.RoadKit Bundle Jvm.Pilot.@@N@@.Jvm.D
abbrev y1 : MethodName := ⟨"com/example/pushplan/pushplan/expr/OpIsAdditivePinLaw", "pick", "(I)Lcom/example/pushplan/pushplan/expr/Arithmetic$Op;"⟩
abbrev y2 : MethodName := ⟨"com/example/pushplan/pushplan/expr/Arithmetic$Op", "isAdditive", "()Z"⟩
abbrev y3 : MethodName := ⟨"com/example/pushplan/pushplan/expr/Arithmetic$Op", "toString", "()Ljava/lang/String;"⟩
abbrev y4 : MethodName := ⟨"java/lang/String", "equals", "(Ljava/lang/Object;)Z"⟩
abbrev y5 : MethodName := ⟨"java/lang/StringLatin1", "equals", "([B[B)Z"⟩

abbrev jv (x : Int64) : Slot := .val (.long x)
abbrev un : Slot := .unset
abbrev se : Slot := .second
abbrev AT (p : Program) (e : Env) (below : List Frame) (T : State) (m : MethodId) (pc : Nat) (ls : Array Slot) (st : List Value) (tg : State) : Prop := Steps p.tables e below (T.setTop (mkF m pc ls st)) tg
theorem ow {Z : State} {a0 : Array Value} (hw : ∀ d ∈ tables_1, d.before a0 Z = true) (i : Nat) {d : Jvm.Cond} (h : tables_1[i]? = some d) : d.before a0 Z = true := hw _ (List.mem_of_getElem? h)
theorem own_lrem {p : Program} {l : Launch} {e : Env} {R : Room} {s : State} {m : MethodId} {args : Array Value} {below : List Frame} {meth : Method} {c : Code} {T : State} {locs : List Loc} {cells slots : Nat} {g : JFrame} {target : State} (X : Stand p l e R s m args below meth c T locs cells slots) (hx : p.tables.exec = Jvm.exec) (hg : g.method = m) {x y : Int64} {rest : List Value} (hd : decode c.code g.pc = .ok (.lrem, 1)) (hs : g.stack = .long y :: .long x :: rest) (hy : y ≠ 0)
    (hr : Steps p.tables e below (T.setTop { g with pc := g.pc + 1, stack := .long (x % y) :: rest }) target) : Steps p.tables e below (T.setTop g) target :=
  XS.lrem X.here hx hg hd hs hy (by rw [lrem_mod]; exact hr)
theorem own_eqInt {args : Array Value} {first s : State} {o : Option Outcome} {idx : List Nat} {t : Term} {n : Int32} (h : (Jvm.Cond.eq t (.int n)).value args first o s idx = some true) : t.eval args first o idx s = some (.int n) := by
  simp only [Cond.value, Term.eval] at h
  cases ht : t.eval args first o idx s with
  | none => simp [ht] at h
  | some v => cases v <;> simp [ht] at h ⊢; exact h
theorem own_eqLong {args : Array Value} {first s : State} {o : Option Outcome} {idx : List Nat} {t : Term} {n : Int64} (h : (Jvm.Cond.eq t (.long n)).value args first o s idx = some true) : t.eval args first o idx s = some (.long n) := by
  simp only [Cond.value, Term.eval] at h
  cases ht : t.eval args first o idx s with
  | none => simp [ht] at h
  | some v => cases v <;> simp [ht] at h ⊢; exact h
theorem own_eqRef {args : Array Value} {first s : State} {o : Option Outcome} {idx : List Nat} {t u : Term} {a : Addr} (hu : u.eval args first o idx s = some (.ref a)) (h : (Jvm.Cond.eq t u).value args first o s idx = some true) : t.eval args first o idx s = some (.ref a) := by
  simp only [Cond.value, hu] at h
  cases ht : t.eval args first o idx s with
  | none => simp [ht] at h
  | some v => cases v <;> simp [ht] at h ⊢; exact h

theorem own_x32 {a b : Int} (h : (a - b) % 4294967296 = 0) (r : -2147483648 ≤ a ∧ a ≤ 2147483647) (q : -2147483648 ≤ b ∧ b ≤ 2147483647) : a = b := by omega
theorem own_x64 {a b : Int} (h : (a - b) % 18446744073709551616 = 0) (r : -9223372036854775808 ≤ a ∧ a ≤ 9223372036854775807) (q : -9223372036854775808 ≤ b ∧ b ≤ 9223372036854775807) : a = b := by omega
theorem own_in {c : Cell} {n : Int32} (j : Int32) (S : c.slots.size = n.toNatClampNeg) (q : ¬ j < 0 ∧ j < n) : ¬ (j < 0 ∨ c.slots.size ≤ j.toNatClampNeg) := inb_of S q
theorem own_up {x a b : Int32} (h : x < a) (q : a.toInt ≤ b.toInt) : x < b := Int32.lt_iff_toInt_lt.mpr (Int.lt_of_lt_of_le (Int32.lt_iff_toInt_lt.mp h) q)
theorem own_dn {x a b : Int32} (h : ¬ x < a) (q : b.toInt ≤ a.toInt) : ¬ x < b := fun z => h (own_up z q)
theorem own_neInt {args : Array Value} {first s : State} {o : Option Outcome} {idx : List Nat} {t : Term} {x n : Int32} (ht : t.eval args first o idx s = some (.int x)) (h : (Jvm.Cond.not (Jvm.Cond.eq t (.int n))).value args first o s idx = some true) : ¬ x = n := by
  simpa [Cond.value, Term.eval, ht] using h

theorem own_len {Z : State} {args : Array Value} {t : Term} {a : Addr} {cl : Cell} {ty : FieldType} {n : Int32} (ev : t.eval args Z none [] Z = some (.ref a)) (A : Arr Z Z.heap a cl ty) (h : (Term.length t).eval args Z none [] Z = some (.int n)) : cl.slots.size < 2 ^ 31 ∧ cl.slots.size.toInt32 = n := by
  have q := A.fin (U := Z) (Vm.Alike.refl _)
  simp only [Term.eval, ev, q, Option.bind_eq_bind, Option.bind_some, Option.pure_def] at h
  split at h
  · rename_i hlt; exact ⟨hlt, by simpa using h⟩
  · simp at h

theorem own_nar {v : Value} {c : String} (h : v.isRef = true) : narrow (.object c) v = v := by cases v <;> first | rfl | simp [Value.isRef] at h
theorem own_fits {v : Value} {c : String} (h : v.isRef = true) : fits (.object c) v = true := by cases v <;> first | rfl | simp [Value.isRef] at h
theorem own_cat {v : Value} (h : v.isRef = true) : v.category = 1 := by cases v <;> first | rfl | simp [Value.isRef] at h

theorem own_notOf {Z : State} {a0 : Array Value} {C S K : String} {n : Nat} (w : (Jvm.Cond.superclass C S).before a0 Z = true) (w0 : (Jvm.Cond.noSuperclass S).before a0 Z = true) (wk : (Jvm.Cond.instantiable K n).before a0 Z = true) (h1 : C ≠ K) (h2 : S ≠ K) :
    ∃ c t, Z.vm.findClass C = some c ∧ Z.vm.findClass K = some t ∧ Z.vm.assignable c t = false := by
  obtain ⟨t, k', g0, g2, g5, g7, -⟩ := Cond.instantiable_spec wk
  obtain ⟨c, h0⟩ := found_sup w
  obtain ⟨p, k, kp, q1, q2, q3, q4, q5, q6, q7⟩ := Cond.superclass_spec h0 w
  obtain ⟨c0, k0, r1, r2, r3, -, -⟩ := Cond.noSuperclass_spec w0
  cases q1.symm.trans r1
  have ne1 := ids_ne h0 g0 h1
  have ne2 := ids_ne r1 g0 h2
  have g8 := (Bool.or_eq_false_iff.mp g7).1
  have n3 : ∀ fuel, Z.vm.isSubclassAux fuel c t = false := by
    intro fuel
    cases fuel with
    | zero => rfl
    | succ f =>
      cases f with
      | zero => simp [Vm.isSubclassAux, ne1, q2, q4]
      | succ g => simp [Vm.isSubclassAux, ne1, ne2, q2, q4, r2, r3]
  refine ⟨c, t, h0, g0, ?_⟩
  show Z.vm.assignableAux (255 + 1) c t = false
  simp [Vm.assignableAux, ne1, q2, g2, q5, g5, g8, Vm.isSubclass, n3]

theorem own_selP {Z s : State} {a0 args : Array Value} {y : MethodName} {n : Nat} (hZ : Z.Warmed39 s.vm) (wi : (Jvm.Cond.instantiable y.cls n).before a0 Z = true) (wp : (Jvm.Cond.privateMethod y).before a0 Z = true) (wm : (Jvm.Cond.instanceMethod y).before a0 Z = true) (hy : y.cls ≠ "java/lang/invoke/MethodHandle" ∧ y.cls ≠ "java/lang/invoke/VarHandle") : (Jvm.Cond.selects y.cls y y).before args s = true := by
  obtain ⟨c, k, hc, hk, -, hni, -⟩ := Cond.instantiable_spec (mvT (s := s) (args := args) hZ wi)
  exact selects_self_of_private hc hk (Bool.or_eq_false_iff.mp hni).1 (Cond.privateMethod_at (mvP hZ wp (args := #[]))) (mvT hZ wm) hy

theorem own_neS {Z : State} {h : Heap} {a b u w : Addr} {C f d : String} {k k' : ClassId} {ty : FieldType} {z z' : Int32} {vs vs' : List Value} {dv dv' : Value} (Fa : Fld Z h a C f d (.ref u)) (Va : Arv Z h u k ty z vs dv) (Fb : Fld Z h b C f d (.ref w)) (Vb : Arv Z h w k' ty z' vs' dv') (hn : z ≠ z' ∨ ∃ i : Nat, i < z.toNatClampNeg ∧ vs.getD i dv ≠ vs'.getD i dv') : a ≠ b := fun e => by
  subst e
  have hu : u = w := by
    rcases Decidable.em (u = w) with q | q
    · exact q
    · exact absurd rfl (Fld.ne Fa Fb (fun x => q (Value.ref.inj x)))
  subst hu
  obtain ⟨c1, A1, -, S1, N1, H1, -⟩ := Va
  obtain ⟨c2, A2, -, S2, N2, H2, -⟩ := Vb
  cases A1.1.symm.trans A2.1
  rcases hn with hn | ⟨i, hi, hn⟩
  · exact hn ((len_of S1 N1).symm.trans (len_of S2 N2))
  · have q1 := H1 i (by rw [S1]; exact hi)
    have q2 := H2 i (by rw [S1]; exact hi)
    exact hn (Option.some.inj (q1.symm.trans q2))

theorem own_sa {Z : State} {a0 : Array Value} (hw : ∀ d ∈ tables_1, d.before a0 Z = true) : ∀ a ∈ Bundle.stringAtoms, a.before a0 Z = true := fun d hd => by
  simp only [Bundle.stringAtoms, List.mem_cons, List.not_mem_nil, or_false] at hd
  rcases hd with rfl | rfl | rfl | rfl | rfl | rfl | rfl
  · exact ow hw 21 rfl
  · exact ow hw 22 rfl
  · exact ow hw 23 rfl
  · exact ow hw 24 rfl
  · exact ow hw 25 rfl
  · exact ow hw 26 rfl
  · exact ow hw 27 rfl
abbrev EL0 : List (String × Nat) := [("com/example/pushplan/pushplan/expr/OpIsAdditivePinLaw", 36), ("com/example/pushplan/pushplan/expr/OpIsAdditivePinLaw", 44)]
def Wd (Z : State) (w_CS0 : Int32) (w_SF1 : Value) (w_ADD : Addr) (w_ADD_symbol : Addr) (w_ADD_symbol_value : Addr) (w_DIVIDE : Addr) (w_SUBTRACT : Addr) (w_DIVIDE_symbol : Addr) (w_DIVIDE_symbol_value : Addr) (w_MULTIPLY : Addr) (w_MULTIPLY_symbol : Addr) (w_MULTIPLY_symbol_value : Addr) (w_SUBTRACT_symbol : Addr) (w_SUBTRACT_symbol_value : Addr) (k_ADD_symbol_value : ClassId) (k_DIVIDE_symbol_value : ClassId) (k_MULTIPLY_symbol_value : ClassId) (k_SUBTRACT_symbol_value : ClassId) : Prop :=
  Sta Z Z.heap "java/lang/String" "COMPACT_STRINGS" "Z" (.int w_CS0) ∧
  ¬ w_CS0 = (0 : Int32) ∧
  Sta Z Z.heap "jdk/internal/util/Preconditions" "SIOOBE_FORMATTER" "Ljava/util/function/BiFunction;" w_SF1 ∧
  w_SF1.isRef = true ∧
  Sta Z Z.heap "com/example/pushplan/pushplan/expr/Arithmetic$Op" "ADD" "Lcom/example/pushplan/pushplan/expr/Arithmetic$Op;" (.ref w_ADD) ∧
  Exa Z Z.heap w_ADD "com/example/pushplan/pushplan/expr/Arithmetic$Op" ∧
  Fld Z Z.heap w_ADD "com/example/pushplan/pushplan/expr/Arithmetic$Op" "symbol" "Ljava/lang/String;" (.ref w_ADD_symbol) ∧
  Exa Z Z.heap w_ADD_symbol "java/lang/String" ∧
  Fld Z Z.heap w_ADD_symbol "java/lang/String" "coder" "B" (.int (0 : Int32)) ∧
  Fld Z Z.heap w_ADD_symbol "java/lang/String" "value" "[B" (.ref w_ADD_symbol_value) ∧
  Sta Z Z.heap "com/example/pushplan/pushplan/expr/Arithmetic$Op" "DIVIDE" "Lcom/example/pushplan/pushplan/expr/Arithmetic$Op;" (.ref w_DIVIDE) ∧
  Exa Z Z.heap w_DIVIDE "com/example/pushplan/pushplan/expr/Arithmetic$Op" ∧
  Fld Z Z.heap w_DIVIDE "java/lang/Enum" "ordinal" "I" (.int (3 : Int32)) ∧
  Fld Z Z.heap w_ADD "java/lang/Enum" "ordinal" "I" (.int (0 : Int32)) ∧
  Sta Z Z.heap "com/example/pushplan/pushplan/expr/Arithmetic$Op" "SUBTRACT" "Lcom/example/pushplan/pushplan/expr/Arithmetic$Op;" (.ref w_SUBTRACT) ∧
  Exa Z Z.heap w_SUBTRACT "com/example/pushplan/pushplan/expr/Arithmetic$Op" ∧
  Fld Z Z.heap w_SUBTRACT "java/lang/Enum" "ordinal" "I" (.int (1 : Int32)) ∧
  Fld Z Z.heap w_DIVIDE "com/example/pushplan/pushplan/expr/Arithmetic$Op" "symbol" "Ljava/lang/String;" (.ref w_DIVIDE_symbol) ∧
  Exa Z Z.heap w_DIVIDE_symbol "java/lang/String" ∧
  Fld Z Z.heap w_DIVIDE_symbol "java/lang/String" "coder" "B" (.int (0 : Int32)) ∧
  Fld Z Z.heap w_DIVIDE_symbol "java/lang/String" "value" "[B" (.ref w_DIVIDE_symbol_value) ∧
  Sta Z Z.heap "com/example/pushplan/pushplan/expr/Arithmetic$Op" "MULTIPLY" "Lcom/example/pushplan/pushplan/expr/Arithmetic$Op;" (.ref w_MULTIPLY) ∧
  Exa Z Z.heap w_MULTIPLY "com/example/pushplan/pushplan/expr/Arithmetic$Op" ∧
  Fld Z Z.heap w_MULTIPLY "java/lang/Enum" "ordinal" "I" (.int (2 : Int32)) ∧
  Fld Z Z.heap w_MULTIPLY "com/example/pushplan/pushplan/expr/Arithmetic$Op" "symbol" "Ljava/lang/String;" (.ref w_MULTIPLY_symbol) ∧
  Exa Z Z.heap w_MULTIPLY_symbol "java/lang/String" ∧
  Fld Z Z.heap w_MULTIPLY_symbol "java/lang/String" "coder" "B" (.int (0 : Int32)) ∧
  Fld Z Z.heap w_MULTIPLY_symbol "java/lang/String" "value" "[B" (.ref w_MULTIPLY_symbol_value) ∧
  Fld Z Z.heap w_SUBTRACT "com/example/pushplan/pushplan/expr/Arithmetic$Op" "symbol" "Ljava/lang/String;" (.ref w_SUBTRACT_symbol) ∧
  Exa Z Z.heap w_SUBTRACT_symbol "java/lang/String" ∧
  Fld Z Z.heap w_SUBTRACT_symbol "java/lang/String" "coder" "B" (.int (0 : Int32)) ∧
  Fld Z Z.heap w_SUBTRACT_symbol "java/lang/String" "value" "[B" (.ref w_SUBTRACT_symbol_value) ∧
  Arv Z Z.heap w_ADD_symbol_value k_ADD_symbol_value .byte (1 : Int32) [(.int (43 : Int32))] (.int (0 : Int32)) ∧
  Arv Z Z.heap w_DIVIDE_symbol_value k_DIVIDE_symbol_value .byte (1 : Int32) [(.int (47 : Int32))] (.int (0 : Int32)) ∧
  Arv Z Z.heap w_MULTIPLY_symbol_value k_MULTIPLY_symbol_value .byte (1 : Int32) [(.int (42 : Int32))] (.int (0 : Int32)) ∧
  Arv Z Z.heap w_SUBTRACT_symbol_value k_SUBTRACT_symbol_value .byte (1 : Int32) [(.int (45 : Int32))] (.int (0 : Int32))
theorem pn_0 : plainName "com/example/pushplan/pushplan/expr/OpIsAdditivePinLaw" = true := by first | (simp [plainName, overriddenIn]; done) | decide +kernel
theorem pn_1 : plainName "com/example/pushplan/pushplan/expr/Arithmetic$Op" = true := by first | (simp [plainName, overriddenIn]; done) | decide +kernel
theorem pn_2 : plainName "java/lang/StringLatin1" = true := by first | (simp [plainName, overriddenIn]; done) | decide +kernel
theorem pn_3 : plainName "java/lang/String" = true := by first | (simp [plainName, overriddenIn]; done) | decide +kernel
theorem pd_0 : parseMethodDescriptor "([B[B)Z" = some ⟨[(.array .byte), (.array .byte)], some .boolean⟩ := by decide +kernel
theorem pd_1 : parseMethodDescriptor "(I)Lcom/example/pushplan/pushplan/expr/Arithmetic$Op;" = some ⟨[.int], some (.object "com/example/pushplan/pushplan/expr/Arithmetic$Op")⟩ := by decide +kernel
theorem pd_2 : parseMethodDescriptor "()Z" = some ⟨[], some .boolean⟩ := by decide +kernel
theorem pd_3 : parseMethodDescriptor "()Ljava/lang/String;" = some ⟨[], some (.object "java/lang/String")⟩ := by decide +kernel
theorem pd_4 : parseMethodDescriptor "(Ljava/lang/Object;)Z" = some ⟨[(.object "java/lang/Object")], some .boolean⟩ := by decide +kernel
theorem d1_0 : decode method_2_code 0 = .ok (.iload_n 0, 1) := by decide +kernel
theorem d1_1 : decode method_2_code 1 = .ok (.ifCond .ne 7, 3) := by decide +kernel
theorem d1_4 : decode method_2_code 4 = .ok (.getstatic 7, 3) := by decide +kernel
theorem d1_7 : decode method_2_code 7 = .ok (.areturn, 1) := by decide +kernel
theorem d1_8 : decode method_2_code 8 = .ok (.iload_n 0, 1) := by decide +kernel
theorem d1_9 : decode method_2_code 9 = .ok (.iconst 1, 1) := by decide +kernel
theorem d1_10 : decode method_2_code 10 = .ok (.if_icmp .ne 7, 3) := by decide +kernel
theorem d1_13 : decode method_2_code 13 = .ok (.getstatic 13, 3) := by decide +kernel
theorem d1_16 : decode method_2_code 16 = .ok (.areturn, 1) := by decide +kernel
theorem d1_17 : decode method_2_code 17 = .ok (.iload_n 0, 1) := by decide +kernel
theorem d1_18 : decode method_2_code 18 = .ok (.iconst 2, 1) := by decide +kernel
theorem d1_19 : decode method_2_code 19 = .ok (.if_icmp .ne 7, 3) := by decide +kernel
theorem d1_22 : decode method_2_code 22 = .ok (.getstatic 16, 3) := by decide +kernel
theorem d1_25 : decode method_2_code 25 = .ok (.areturn, 1) := by decide +kernel
theorem d1_26 : decode method_2_code 26 = .ok (.getstatic 19, 3) := by decide +kernel
theorem d1_29 : decode method_2_code 29 = .ok (.areturn, 1) := by decide +kernel
theorem ef_1 (m : MethodId) (p0 : Int32) : entryFrame m #[(.int p0)] 1 = mkF m 0 #[iv p0] [] := by first | (simp [entryFrame, mkF, argsToLocals, Value.category]; done) | rfl
def f1 (p0 : Int32) (w_ADD : Addr) (w_DIVIDE : Addr) (w_SUBTRACT : Addr) (w_MULTIPLY : Addr) : Addr := if p0 = (0 : Int32) then w_ADD else (if p0 = (1 : Int32) then w_SUBTRACT else (if p0 = (2 : Int32) then w_MULTIPLY else w_DIVIDE))
def Q1 (Z : State) (p0 : Int32) (w_CS0 : Int32) (w_SF1 : Value) (w_ADD : Addr) (w_ADD_symbol : Addr) (w_ADD_symbol_value : Addr) (w_DIVIDE : Addr) (w_SUBTRACT : Addr) (w_DIVIDE_symbol : Addr) (w_DIVIDE_symbol_value : Addr) (w_MULTIPLY : Addr) (w_MULTIPLY_symbol : Addr) (w_MULTIPLY_symbol_value : Addr) (w_SUBTRACT_symbol : Addr) (w_SUBTRACT_symbol_value : Addr) (k_ADD_symbol_value : ClassId) (k_DIVIDE_symbol_value : ClassId) (k_MULTIPLY_symbol_value : ClassId) (k_SUBTRACT_symbol_value : ClassId) (h0 : Heap) (n0 : Nat) (v : Option Value) (h : Heap) (L : List Loc) : Prop := v = some (.ref (f1 p0 w_ADD w_DIVIDE w_SUBTRACT w_MULTIPLY)) ∧ Fr n0 L ∧ h = h0
set_option maxRecDepth 65536 in
set_option maxHeartbeats 40000000 in
theorem rm1 (l : Launch) (Z : State) (ar : Array Value) (hw : ∀ d ∈ tables_1, d.before ar Z = true) (ws : List Jvm.Cond) (p0 : Int32) (w_CS0 : Int32) (w_SF1 : Value) (w_ADD : Addr) (w_ADD_symbol : Addr) (w_ADD_symbol_value : Addr) (w_DIVIDE : Addr) (w_SUBTRACT : Addr) (w_DIVIDE_symbol : Addr) (w_DIVIDE_symbol_value : Addr) (w_MULTIPLY : Addr) (w_MULTIPLY_symbol : Addr) (w_MULTIPLY_symbol_value : Addr) (w_SUBTRACT_symbol : Addr) (w_SUBTRACT_symbol_value : Addr) (k_ADD_symbol_value : ClassId) (k_DIVIDE_symbol_value : ClassId) (k_MULTIPLY_symbol_value : ClassId) (k_SUBTRACT_symbol_value : ClassId) (h0 : Heap) (n0 : Nat) (O0 : Old Z n0 h0) (HW : Wd Z w_CS0 w_SF1 w_ADD w_ADD_symbol w_ADD_symbol_value w_DIVIDE w_SUBTRACT w_DIVIDE_symbol w_DIVIDE_symbol_value w_MULTIPLY w_MULTIPLY_symbol w_MULTIPLY_symbol_value w_SUBTRACT_symbol w_SUBTRACT_symbol_value k_ADD_symbol_value k_DIVIDE_symbol_value k_MULTIPLY_symbol_value k_SUBTRACT_symbol_value) :
    MetFree l y1 (head1 (Jvm.Cond.code y1 method_2_code 1 (some (.object "com/example/pushplan/pushplan/expr/Arithmetic$Op")) :: ws) ({ frames := 0, cells := 0, slots := 0, locals := 0 } : Room)) (fun a U => a = #[(.int p0)] ∧ Z.Warmed39 U.vm ∧ U.heap = h0) (fun _ _ _ _ _ => True) (fun _ U o U' => ∃ v L, o = .returned v ∧ Q1 Z p0 w_CS0 w_SF1 w_ADD w_ADD_symbol w_ADD_symbol_value w_DIVIDE w_SUBTRACT w_DIVIDE_symbol w_DIVIDE_symbol_value w_MULTIPLY w_MULTIPLY_symbol w_MULTIPLY_symbol_value w_SUBTRACT_symbol w_SUBTRACT_symbol_value k_ADD_symbol_value k_DIVIDE_symbol_value k_MULTIPLY_symbol_value k_SUBTRACT_symbol_value h0 n0 v U'.heap L ∧ FrameEnd U o U' L ({ frames := 0, cells := 0, slots := 0, locals := 0 } : Room).cells ({ frames := 0, cells := 0, slots := 0, locals := 0 } : Room).slots) := by
 refine MetFree.of_bodySF (plainFor_of_name pn_0) hisR ?_
 intro p e s m args below meth c s₁ Bd hml0 hP hK
 obtain ⟨rfl, hZ, hh⟩ := hP
 have hx := Bd.exec
 have hby := Bd.bytes
 have hml : c.maxLocals = 1 := hml0
 have hown : s.vm.findClass "com/example/pushplan/pushplan/expr/OpIsAdditivePinLaw" = some m.cls := findClass_of_methodNamed Bd.named
 have hnm := (name_of_methodNamed Bd.named Bd.method).1
 have X0 : Stand p l e ({ frames := 0, cells := 0, slots := 0, locals := 0 } : Room) s m #[(.int p0)] below meth c s₁ [] 0 0 := Stand.of_body Bd
 have e0 : s₁.heap = h0 := by rw [← hh, Bd.state]; rfl
 have N0 := Fr.nil n0
 have Z0 : n0 ≤ h0.size := Nat.le_trans (Nat.le_of_eq O0.1.symm) O0.2.1
 obtain ⟨S0, hS0⟩ : ∃ z, z = s₁.setTop (entryFrame m #[(.int p0)] 1) := ⟨_, rfl⟩
 have pre0 : ∀ tg, AT p e below s₁ m 0 #[iv p0] [] tg → Steps p.tables e below S0 tg := fun tg kg => by rw [hS0]; exact castTop (ef_1 m p0) kg
 obtain ⟨S_COMPACT_STRINGS, hz_w_CS0, S_SIOOBE_FORMATTER, ir_w_SF1, S_ADD, E_ADD, F_symbol_ADD, E_ADD_symbol, F_coder_ADD_symbol, F_value_ADD_symbol, S_DIVIDE, E_DIVIDE, F_ordinal_DIVIDE, F_ordinal_ADD, S_SUBTRACT, E_SUBTRACT, F_ordinal_SUBTRACT, F_symbol_DIVIDE, E_DIVIDE_symbol, F_coder_DIVIDE_symbol, F_value_DIVIDE_symbol, S_MULTIPLY, E_MULTIPLY, F_ordinal_MULTIPLY, F_symbol_MULTIPLY, E_MULTIPLY_symbol, F_coder_MULTIPLY_symbol, F_value_MULTIPLY_symbol, F_symbol_SUBTRACT, E_SUBTRACT_symbol, F_coder_SUBTRACT_symbol, F_value_SUBTRACT_symbol, V_ADD_symbol_value, V_DIVIDE_symbol_value, V_MULTIPLY_symbol_value, V_SUBTRACT_symbol_value⟩ := id HW
 have pre1 : ∀ tg, AT p e below s₁ m 1 #[iv p0] [(.int p0)] tg → Steps p.tables e below S0 tg := fun tg kg => pre0 tg (by
  refine XS.iloadN X0.here hx rfl (hb hby d1_0) rfl ?_
  exact kg)
 rcases Decidable.em (p0 = (0 : Int32)) with hc2 | hc2
 ·
  obtain ⟨T3, X3, e3, st3⟩ := getS2 X0 hx hZ hown (host := "") (Or.inl (ow hw 4 rfl)) Via.refl e0 (S_ADD.ext O0.2) (g := (mkF m 4 #[iv p0] [])) rfl (hb hby d1_4)
  obtain ⟨fs, hr, hrun, hended, hW, hsame⟩ := X3.leave (v := some (.ref w_ADD)) (fun h => by rw [Bd.returns] at h; cases h)
  subst hS0
  refine ⟨_, _, pre1 _ ?_, hrun, hended, _, _, rfl, ?_, ⟨_, rfl⟩, hW, hsame.mono (by decide) (by decide)⟩
  ·
   refine XS.ifNo X0.here hx rfl (hb hby d1_1) rfl (XT.i0_ne_f hc2) ?_
   show AT p e below s₁ m 4 #[iv p0] [] _
   refine st3 _ ?_
   show AT p e below T3 m 7 #[iv p0] [(.ref w_ADD)] _
   exact retOut X3 hx (t := (.object "com/example/pushplan/pushplan/expr/Arithmetic$Op")) (i := .areturn) Bd.returns rfl (Or.inr (Or.inr (Or.inr (Or.inr ⟨rfl, rfl, rfl⟩)))) (hb hby d1_7) hr
  ·
   show Q1 Z p0 w_CS0 w_SF1 w_ADD w_ADD_symbol w_ADD_symbol_value w_DIVIDE w_SUBTRACT w_DIVIDE_symbol w_DIVIDE_symbol_value w_MULTIPLY w_MULTIPLY_symbol w_MULTIPLY_symbol_value w_SUBTRACT_symbol w_SUBTRACT_symbol_value k_ADD_symbol_value k_DIVIDE_symbol_value k_MULTIPLY_symbol_value k_SUBTRACT_symbol_value h0 n0 _ T3.heap _
   rw [e3]
   exact ⟨(by rw [f1, if_pos hc2]), N0, rfl⟩
 ·
  have pre4 : ∀ tg, AT p e below s₁ m 10 #[iv p0] [(.int (1 : Int32)), (.int p0)] tg → Steps p.tables e below S0 tg := fun tg kg => pre1 tg (by
   refine XS.ifYes X0.here hx rfl (pc0 := 1) (pc' := 8) rfl (hb hby d1_1) rfl (XT.i0_ne_t hc2) (by decide) (by decide) ?_
   show AT p e below s₁ m 8 #[iv p0] [] _
   refine XS.iloadN X0.here hx rfl (hb hby d1_8) rfl ?_
   show AT p e below s₁ m 9 #[iv p0] [(.int p0)] _
   refine XS.iconst X0.here hx rfl (hb hby d1_9) ?_
   exact kg)
  rcases Decidable.em (p0 = (1 : Int32)) with hc5 | hc5
  ·
   obtain ⟨T6, X6, e6, st6⟩ := getS2 X0 hx hZ hown (host := "") (Or.inl (ow hw 49 rfl)) Via.refl e0 (S_SUBTRACT.ext O0.2) (g := (mkF m 13 #[iv p0] [])) rfl (hb hby d1_13)
   obtain ⟨fs, hr, hrun, hended, hW, hsame⟩ := X6.leave (v := some (.ref w_SUBTRACT)) (fun h => by rw [Bd.returns] at h; cases h)
   subst hS0
   refine ⟨_, _, pre4 _ ?_, hrun, hended, _, _, rfl, ?_, ⟨_, rfl⟩, hW, hsame.mono (by decide) (by decide)⟩
   ·
    refine XS.icmpNo X0.here hx rfl (hb hby d1_10) rfl (XT.ii_ne_f hc5) ?_
    show AT p e below s₁ m 13 #[iv p0] [] _
    refine st6 _ ?_
    show AT p e below T6 m 16 #[iv p0] [(.ref w_SUBTRACT)] _
    exact retOut X6 hx (t := (.object "com/example/pushplan/pushplan/expr/Arithmetic$Op")) (i := .areturn) Bd.returns rfl (Or.inr (Or.inr (Or.inr (Or.inr ⟨rfl, rfl, rfl⟩)))) (hb hby d1_16) hr
   ·
    show Q1 Z p0 w_CS0 w_SF1 w_ADD w_ADD_symbol w_ADD_symbol_value w_DIVIDE w_SUBTRACT w_DIVIDE_symbol w_DIVIDE_symbol_value w_MULTIPLY w_MULTIPLY_symbol w_MULTIPLY_symbol_value w_SUBTRACT_symbol w_SUBTRACT_symbol_value k_ADD_symbol_value k_DIVIDE_symbol_value k_MULTIPLY_symbol_value k_SUBTRACT_symbol_value h0 n0 _ T6.heap _
    rw [e6]
    exact ⟨(by rw [f1, if_neg hc2, if_pos hc5]), N0, rfl⟩
  ·
   have pre7 : ∀ tg, AT p e below s₁ m 19 #[iv p0] [(.int (2 : Int32)), (.int p0)] tg → Steps p.tables e below S0 tg := fun tg kg => pre4 tg (by
    refine XS.icmpYes X0.here hx rfl (pc0 := 10) (pc' := 17) rfl (hb hby d1_10) rfl (XT.ii_ne_t hc5) (by decide) (by decide) ?_
    show AT p e below s₁ m 17 #[iv p0] [] _
    refine XS.iloadN X0.here hx rfl (hb hby d1_17) rfl ?_
    show AT p e below s₁ m 18 #[iv p0] [(.int p0)] _
    refine XS.iconst X0.here hx rfl (hb hby d1_18) ?_
    exact kg)
   rcases Decidable.em (p0 = (2 : Int32)) with hc8 | hc8
   ·
    obtain ⟨T9, X9, e9, st9⟩ := getS2 X0 hx hZ hown (host := "") (Or.inl (ow hw 47 rfl)) Via.refl e0 (S_MULTIPLY.ext O0.2) (g := (mkF m 22 #[iv p0] [])) rfl (hb hby d1_22)
    obtain ⟨fs, hr, hrun, hended, hW, hsame⟩ := X9.leave (v := some (.ref w_MULTIPLY)) (fun h => by rw [Bd.returns] at h; cases h)
    subst hS0
    refine ⟨_, _, pre7 _ ?_, hrun, hended, _, _, rfl, ?_, ⟨_, rfl⟩, hW, hsame.mono (by decide) (by decide)⟩
    ·
     refine XS.icmpNo X0.here hx rfl (hb hby d1_19) rfl (XT.ii_ne_f hc8) ?_
     show AT p e below s₁ m 22 #[iv p0] [] _
     refine st9 _ ?_
     show AT p e below T9 m 25 #[iv p0] [(.ref w_MULTIPLY)] _
     exact retOut X9 hx (t := (.object "com/example/pushplan/pushplan/expr/Arithmetic$Op")) (i := .areturn) Bd.returns rfl (Or.inr (Or.inr (Or.inr (Or.inr ⟨rfl, rfl, rfl⟩)))) (hb hby d1_25) hr
    ·
     show Q1 Z p0 w_CS0 w_SF1 w_ADD w_ADD_symbol w_ADD_symbol_value w_DIVIDE w_SUBTRACT w_DIVIDE_symbol w_DIVIDE_symbol_value w_MULTIPLY w_MULTIPLY_symbol w_MULTIPLY_symbol_value w_SUBTRACT_symbol w_SUBTRACT_symbol_value k_ADD_symbol_value k_DIVIDE_symbol_value k_MULTIPLY_symbol_value k_SUBTRACT_symbol_value h0 n0 _ T9.heap _
     rw [e9]
     exact ⟨(by rw [f1, if_neg hc2, if_neg hc5, if_pos hc8]), N0, rfl⟩
   ·
    obtain ⟨T10, X10, e10, st10⟩ := getS2 X0 hx hZ hown (host := "") (Or.inl (ow hw 42 rfl)) Via.refl e0 (S_DIVIDE.ext O0.2) (g := (mkF m 26 #[iv p0] [])) rfl (hb hby d1_26)
    obtain ⟨fs, hr, hrun, hended, hW, hsame⟩ := X10.leave (v := some (.ref w_DIVIDE)) (fun h => by rw [Bd.returns] at h; cases h)
    subst hS0
    refine ⟨_, _, pre7 _ ?_, hrun, hended, _, _, rfl, ?_, ⟨_, rfl⟩, hW, hsame.mono (by decide) (by decide)⟩
    ·
     refine XS.icmpYes X0.here hx rfl (pc0 := 19) (pc' := 26) rfl (hb hby d1_19) rfl (XT.ii_ne_t hc8) (by decide) (by decide) ?_
     show AT p e below s₁ m 26 #[iv p0] [] _
     refine st10 _ ?_
     show AT p e below T10 m 29 #[iv p0] [(.ref w_DIVIDE)] _
     exact retOut X10 hx (t := (.object "com/example/pushplan/pushplan/expr/Arithmetic$Op")) (i := .areturn) Bd.returns rfl (Or.inr (Or.inr (Or.inr (Or.inr ⟨rfl, rfl, rfl⟩)))) (hb hby d1_29) hr
    ·
     show Q1 Z p0 w_CS0 w_SF1 w_ADD w_ADD_symbol w_ADD_symbol_value w_DIVIDE w_SUBTRACT w_DIVIDE_symbol w_DIVIDE_symbol_value w_MULTIPLY w_MULTIPLY_symbol w_MULTIPLY_symbol_value w_SUBTRACT_symbol w_SUBTRACT_symbol_value k_ADD_symbol_value k_DIVIDE_symbol_value k_MULTIPLY_symbol_value k_SUBTRACT_symbol_value h0 n0 _ T10.heap _
     rw [e10]
     exact ⟨(by rw [f1, if_neg hc2, if_neg hc5, if_neg hc8]), N0, rfl⟩

theorem d2_0 : decode prog_20_method_4_code 0 = .ok (.aload_n 0, 1) := by decide +kernel
theorem d2_1 : decode prog_20_method_4_code 1 = .ok (.getstatic 3, 3) := by decide +kernel
theorem d2_4 : decode prog_20_method_4_code 4 = .ok (.if_acmp .eq 10, 3) := by decide +kernel
theorem d2_7 : decode prog_20_method_4_code 7 = .ok (.aload_n 0, 1) := by decide +kernel
theorem d2_8 : decode prog_20_method_4_code 8 = .ok (.getstatic 7, 3) := by decide +kernel
theorem d2_11 : decode prog_20_method_4_code 11 = .ok (.if_acmp .ne 7, 3) := by decide +kernel
theorem d2_14 : decode prog_20_method_4_code 14 = .ok (.iconst 1, 1) := by decide +kernel
theorem d2_15 : decode prog_20_method_4_code 15 = .ok (.goto 4, 3) := by decide +kernel
theorem d2_18 : decode prog_20_method_4_code 18 = .ok (.iconst 0, 1) := by decide +kernel
theorem d2_19 : decode prog_20_method_4_code 19 = .ok (.ireturn, 1) := by decide +kernel
theorem ef_2 (m : MethodId) (a0 : Addr) : entryFrame m #[(.ref a0)] 1 = mkF m 0 #[rv a0] [] := by first | (simp [entryFrame, mkF, argsToLocals, Value.category]; done) | rfl
def f2 (a0 : Addr) (w_ADD : Addr) (w_SUBTRACT : Addr) : Int32 := if a0 = w_ADD then (1 : Int32) else (if a0 = w_SUBTRACT then (1 : Int32) else (0 : Int32))
def Q2 (Z : State) (a0 : Addr) (w_CS0 : Int32) (w_SF1 : Value) (w_ADD : Addr) (w_ADD_symbol : Addr) (w_ADD_symbol_value : Addr) (w_DIVIDE : Addr) (w_SUBTRACT : Addr) (w_DIVIDE_symbol : Addr) (w_DIVIDE_symbol_value : Addr) (w_MULTIPLY : Addr) (w_MULTIPLY_symbol : Addr) (w_MULTIPLY_symbol_value : Addr) (w_SUBTRACT_symbol : Addr) (w_SUBTRACT_symbol_value : Addr) (k_ADD_symbol_value : ClassId) (k_DIVIDE_symbol_value : ClassId) (k_MULTIPLY_symbol_value : ClassId) (k_SUBTRACT_symbol_value : ClassId) (h0 : Heap) (n0 : Nat) (v : Option Value) (h : Heap) (L : List Loc) : Prop := v = some (.int (f2 a0 w_ADD w_SUBTRACT)) ∧ Fr n0 L ∧ h = h0
set_option maxRecDepth 65536 in
set_option maxHeartbeats 40000000 in
theorem rm2 (l : Launch) (Z : State) (ar : Array Value) (hw : ∀ d ∈ tables_1, d.before ar Z = true) (ws : List Jvm.Cond) (a0 : Addr) (w_CS0 : Int32) (w_SF1 : Value) (w_ADD : Addr) (w_ADD_symbol : Addr) (w_ADD_symbol_value : Addr) (w_DIVIDE : Addr) (w_SUBTRACT : Addr) (w_DIVIDE_symbol : Addr) (w_DIVIDE_symbol_value : Addr) (w_MULTIPLY : Addr) (w_MULTIPLY_symbol : Addr) (w_MULTIPLY_symbol_value : Addr) (w_SUBTRACT_symbol : Addr) (w_SUBTRACT_symbol_value : Addr) (k_ADD_symbol_value : ClassId) (k_DIVIDE_symbol_value : ClassId) (k_MULTIPLY_symbol_value : ClassId) (k_SUBTRACT_symbol_value : ClassId) (h0 : Heap) (n0 : Nat) (O0 : Old Z n0 h0) (HW : Wd Z w_CS0 w_SF1 w_ADD w_ADD_symbol w_ADD_symbol_value w_DIVIDE w_SUBTRACT w_DIVIDE_symbol w_DIVIDE_symbol_value w_MULTIPLY w_MULTIPLY_symbol w_MULTIPLY_symbol_value w_SUBTRACT_symbol w_SUBTRACT_symbol_value k_ADD_symbol_value k_DIVIDE_symbol_value k_MULTIPLY_symbol_value k_SUBTRACT_symbol_value) :
    MetFree l y2 (head1 (Jvm.Cond.code y2 prog_20_method_4_code 1 (some .boolean) :: ws) ({ frames := 0, cells := 0, slots := 0, locals := 0 } : Room)) (fun a U => a = #[(.ref a0)] ∧ Z.Warmed39 U.vm ∧ U.heap = h0) (fun _ _ _ _ _ => True) (fun _ U o U' => ∃ v L, o = .returned v ∧ Q2 Z a0 w_CS0 w_SF1 w_ADD w_ADD_symbol w_ADD_symbol_value w_DIVIDE w_SUBTRACT w_DIVIDE_symbol w_DIVIDE_symbol_value w_MULTIPLY w_MULTIPLY_symbol w_MULTIPLY_symbol_value w_SUBTRACT_symbol w_SUBTRACT_symbol_value k_ADD_symbol_value k_DIVIDE_symbol_value k_MULTIPLY_symbol_value k_SUBTRACT_symbol_value h0 n0 v U'.heap L ∧ FrameEnd U o U' L ({ frames := 0, cells := 0, slots := 0, locals := 0 } : Room).cells ({ frames := 0, cells := 0, slots := 0, locals := 0 } : Room).slots) := by
 refine MetFree.of_bodySF (plainFor_of_name pn_1) hisR ?_
 intro p e s m args below meth c s₁ Bd hml0 hP hK
 obtain ⟨rfl, hZ, hh⟩ := hP
 have hx := Bd.exec
 have hby := Bd.bytes
 have hml : c.maxLocals = 1 := hml0
 have hown : s.vm.findClass "com/example/pushplan/pushplan/expr/Arithmetic$Op" = some m.cls := findClass_of_methodNamed Bd.named
 have hnm := (name_of_methodNamed Bd.named Bd.method).1
 have X0 : Stand p l e ({ frames := 0, cells := 0, slots := 0, locals := 0 } : Room) s m #[(.ref a0)] below meth c s₁ [] 0 0 := Stand.of_body Bd
 have e0 : s₁.heap = h0 := by rw [← hh, Bd.state]; rfl
 have N0 := Fr.nil n0
 have Z0 : n0 ≤ h0.size := Nat.le_trans (Nat.le_of_eq O0.1.symm) O0.2.1
 obtain ⟨S0, hS0⟩ : ∃ z, z = s₁.setTop (entryFrame m #[(.ref a0)] 1) := ⟨_, rfl⟩
 have pre0 : ∀ tg, AT p e below s₁ m 0 #[rv a0] [] tg → Steps p.tables e below S0 tg := fun tg kg => by rw [hS0]; exact castTop (ef_2 m a0) kg
 obtain ⟨S_COMPACT_STRINGS, hz_w_CS0, S_SIOOBE_FORMATTER, ir_w_SF1, S_ADD, E_ADD, F_symbol_ADD, E_ADD_symbol, F_coder_ADD_symbol, F_value_ADD_symbol, S_DIVIDE, E_DIVIDE, F_ordinal_DIVIDE, F_ordinal_ADD, S_SUBTRACT, E_SUBTRACT, F_ordinal_SUBTRACT, F_symbol_DIVIDE, E_DIVIDE_symbol, F_coder_DIVIDE_symbol, F_value_DIVIDE_symbol, S_MULTIPLY, E_MULTIPLY, F_ordinal_MULTIPLY, F_symbol_MULTIPLY, E_MULTIPLY_symbol, F_coder_MULTIPLY_symbol, F_value_MULTIPLY_symbol, F_symbol_SUBTRACT, E_SUBTRACT_symbol, F_coder_SUBTRACT_symbol, F_value_SUBTRACT_symbol, V_ADD_symbol_value, V_DIVIDE_symbol_value, V_MULTIPLY_symbol_value, V_SUBTRACT_symbol_value⟩ := id HW
 obtain ⟨T1, X1, e1, st1⟩ := getS2 X0 hx hZ hown (host := "") (Or.inl (ow hw 12 rfl)) Via.refl e0 (S_ADD.ext O0.2) (g := (mkF m 1 #[rv a0] [(.ref a0)])) rfl (hb hby d2_1)
 have pre2 : ∀ tg, AT p e below T1 m 4 #[rv a0] [(.ref w_ADD), (.ref a0)] tg → Steps p.tables e below S0 tg := fun tg kg => pre0 tg (by
  refine XS.aloadN X0.here hx rfl (hb hby d2_0) rfl rfl ?_
  show AT p e below s₁ m 1 #[rv a0] [(.ref a0)] _
  refine st1 _ ?_
  exact kg)
 rcases Decidable.em (a0 = w_ADD) with hc3 | hc3
 ·
  obtain ⟨fs, hr, hrun, hended, hW, hsame⟩ := X1.leave (v := some (.int (1 : Int32))) (fun h => by rw [Bd.returns] at h; cases h)
  subst hS0
  refine ⟨_, _, pre2 _ ?_, hrun, hended, _, _, rfl, ?_, ⟨_, rfl⟩, hW, hsame.mono (by decide) (by decide)⟩
  ·
   refine Jvm.RoadKit.acmp (g := (mkF m 4 #[rv a0] [(.ref w_ADD), (.ref a0)])) X1 hx rfl rfl rfl (pc0 := 4) (pc' := 14) (same := true) rfl (hb hby d2_4) rfl (decide_eq_true (congrArg Value.ref hc3)) (by decide) (by decide) ?_
   show AT p e below T1 m 14 #[rv a0] [] _
   refine XS.iconst X1.here hx rfl (hb hby d2_14) ?_
   show AT p e below T1 m 15 #[rv a0] [(.int (1 : Int32))] _
   refine XS.goto X1.here hx rfl (pc0 := 15) (pc' := 19) rfl (hb hby d2_15) (by decide) (by decide) ?_
   show AT p e below T1 m 19 #[rv a0] [(.int (1 : Int32))] _
   exact retN X1 hx (t := .boolean) Bd.returns (by simp) (hb hby d2_19) hr
  ·
   show Q2 Z a0 w_CS0 w_SF1 w_ADD w_ADD_symbol w_ADD_symbol_value w_DIVIDE w_SUBTRACT w_DIVIDE_symbol w_DIVIDE_symbol_value w_MULTIPLY w_MULTIPLY_symbol w_MULTIPLY_symbol_value w_SUBTRACT_symbol w_SUBTRACT_symbol_value k_ADD_symbol_value k_DIVIDE_symbol_value k_MULTIPLY_symbol_value k_SUBTRACT_symbol_value h0 n0 _ T1.heap _
   rw [e1]
   exact ⟨(by rw [f2, if_pos hc3]), N0, rfl⟩
 ·
  obtain ⟨T4, X4, e4, st4⟩ := getS2 X1 hx hZ hown (host := "") (Or.inl (ow hw 44 rfl)) Via.refl e1 (S_SUBTRACT.ext O0.2) (g := (mkF m 8 #[rv a0] [(.ref a0)])) rfl (hb hby d2_8)
  have pre5 : ∀ tg, AT p e below T4 m 11 #[rv a0] [(.ref w_SUBTRACT), (.ref a0)] tg → Steps p.tables e below S0 tg := fun tg kg => pre2 tg (by
   refine Jvm.RoadKit.acmp (g := (mkF m 4 #[rv a0] [(.ref w_ADD), (.ref a0)])) X1 hx rfl rfl rfl (pc0 := 4) (pc' := 7) (same := false) rfl (hb hby d2_4) rfl (decide_eq_false fun q => hc3 (Value.ref.inj q)) (by decide) (by decide) ?_
   show AT p e below T1 m 7 #[rv a0] [] _
   refine XS.aloadN X1.here hx rfl (hb hby d2_7) rfl rfl ?_
   show AT p e below T1 m 8 #[rv a0] [(.ref a0)] _
   refine st4 _ ?_
   exact kg)
  rcases Decidable.em (a0 = w_SUBTRACT) with hc6 | hc6
  ·
   obtain ⟨fs, hr, hrun, hended, hW, hsame⟩ := X4.leave (v := some (.int (1 : Int32))) (fun h => by rw [Bd.returns] at h; cases h)
   subst hS0
   refine ⟨_, _, pre5 _ ?_, hrun, hended, _, _, rfl, ?_, ⟨_, rfl⟩, hW, hsame.mono (by decide) (by decide)⟩
   ·
    refine Jvm.RoadKit.acmp (g := (mkF m 11 #[rv a0] [(.ref w_SUBTRACT), (.ref a0)])) X4 hx rfl rfl rfl (pc0 := 11) (pc' := 14) (same := true) rfl (hb hby d2_11) rfl (decide_eq_true (congrArg Value.ref hc6)) (by decide) (by decide) ?_
    show AT p e below T4 m 14 #[rv a0] [] _
    refine XS.iconst X4.here hx rfl (hb hby d2_14) ?_
    show AT p e below T4 m 15 #[rv a0] [(.int (1 : Int32))] _
    refine XS.goto X4.here hx rfl (pc0 := 15) (pc' := 19) rfl (hb hby d2_15) (by decide) (by decide) ?_
    show AT p e below T4 m 19 #[rv a0] [(.int (1 : Int32))] _
    exact retN X4 hx (t := .boolean) Bd.returns (by simp) (hb hby d2_19) hr
   ·
    show Q2 Z a0 w_CS0 w_SF1 w_ADD w_ADD_symbol w_ADD_symbol_value w_DIVIDE w_SUBTRACT w_DIVIDE_symbol w_DIVIDE_symbol_value w_MULTIPLY w_MULTIPLY_symbol w_MULTIPLY_symbol_value w_SUBTRACT_symbol w_SUBTRACT_symbol_value k_ADD_symbol_value k_DIVIDE_symbol_value k_MULTIPLY_symbol_value k_SUBTRACT_symbol_value h0 n0 _ T4.heap _
    rw [e4]
    exact ⟨(by rw [f2, if_neg hc3, if_pos hc6]), N0, rfl⟩
  ·
   obtain ⟨fs, hr, hrun, hended, hW, hsame⟩ := X4.leave (v := some (.int (0 : Int32))) (fun h => by rw [Bd.returns] at h; cases h)
   subst hS0
   refine ⟨_, _, pre5 _ ?_, hrun, hended, _, _, rfl, ?_, ⟨_, rfl⟩, hW, hsame.mono (by decide) (by decide)⟩
   ·
    refine Jvm.RoadKit.acmp (g := (mkF m 11 #[rv a0] [(.ref w_SUBTRACT), (.ref a0)])) X4 hx rfl rfl rfl (pc0 := 11) (pc' := 18) (same := false) rfl (hb hby d2_11) rfl (decide_eq_false fun q => hc6 (Value.ref.inj q)) (by decide) (by decide) ?_
    show AT p e below T4 m 18 #[rv a0] [] _
    refine XS.iconst X4.here hx rfl (hb hby d2_18) ?_
    show AT p e below T4 m 19 #[rv a0] [(.int (0 : Int32))] _
    exact retN X4 hx (t := .boolean) Bd.returns (by simp) (hb hby d2_19) hr
   ·
    show Q2 Z a0 w_CS0 w_SF1 w_ADD w_ADD_symbol w_ADD_symbol_value w_DIVIDE w_SUBTRACT w_DIVIDE_symbol w_DIVIDE_symbol_value w_MULTIPLY w_MULTIPLY_symbol w_MULTIPLY_symbol_value w_SUBTRACT_symbol w_SUBTRACT_symbol_value k_ADD_symbol_value k_DIVIDE_symbol_value k_MULTIPLY_symbol_value k_SUBTRACT_symbol_value h0 n0 _ T4.heap _
    rw [e4]
    exact ⟨(by rw [f2, if_neg hc3, if_neg hc6]), N0, rfl⟩

theorem d3_0 : decode prog_20_method_5_code 0 = .ok (.aload_n 0, 1) := by decide +kernel
theorem d3_1 : decode prog_20_method_5_code 1 = .ok (.getfield 35, 3) := by decide +kernel
theorem d3_4 : decode prog_20_method_5_code 4 = .ok (.areturn, 1) := by decide +kernel
theorem ef_3 (m : MethodId) (a0 : Addr) : entryFrame m #[(.ref a0)] 1 = mkF m 0 #[rv a0] [] := by first | (simp [entryFrame, mkF, argsToLocals, Value.category]; done) | rfl
def Q3 (Z : State) (a0 : Addr) (sy : Addr) (h0 : Heap) (n0 : Nat) (v : Option Value) (h : Heap) (L : List Loc) : Prop := v = some (.ref sy) ∧ Fr n0 L ∧ h = h0
set_option maxRecDepth 65536 in
set_option maxHeartbeats 40000000 in
theorem rm3 (l : Launch) (Z : State) (ar : Array Value) (hw : ∀ d ∈ tables_1, d.before ar Z = true) (ws : List Jvm.Cond) (a0 : Addr) (sy : Addr) (h0 : Heap) (n0 : Nat) (O0 : Old Z n0 h0) (pf0 : Fld Z h0 a0 "com/example/pushplan/pushplan/expr/Arithmetic$Op" "symbol" "Ljava/lang/String;" (.ref sy)) :
    MetFree l y3 (head1 (Jvm.Cond.code y3 prog_20_method_5_code 1 (some (.object "java/lang/String")) :: ws) ({ frames := 0, cells := 0, slots := 0, locals := 0 } : Room)) (fun a U => a = #[(.ref a0)] ∧ Z.Warmed39 U.vm ∧ U.heap = h0) (fun _ _ _ _ _ => True) (fun _ U o U' => ∃ v L, o = .returned v ∧ Q3 Z a0 sy h0 n0 v U'.heap L ∧ FrameEnd U o U' L ({ frames := 0, cells := 0, slots := 0, locals := 0 } : Room).cells ({ frames := 0, cells := 0, slots := 0, locals := 0 } : Room).slots) := by
 refine MetFree.of_bodySF (plainFor_of_name pn_1) hisR ?_
 intro p e s m args below meth c s₁ Bd hml0 hP hK
 obtain ⟨rfl, hZ, hh⟩ := hP
 have hx := Bd.exec
 have hby := Bd.bytes
 have hml : c.maxLocals = 1 := hml0
 have hown : s.vm.findClass "com/example/pushplan/pushplan/expr/Arithmetic$Op" = some m.cls := findClass_of_methodNamed Bd.named
 have hnm := (name_of_methodNamed Bd.named Bd.method).1
 have X0 : Stand p l e ({ frames := 0, cells := 0, slots := 0, locals := 0 } : Room) s m #[(.ref a0)] below meth c s₁ [] 0 0 := Stand.of_body Bd
 have e0 : s₁.heap = h0 := by rw [← hh, Bd.state]; rfl
 have N0 := Fr.nil n0
 have Z0 : n0 ≤ h0.size := Nat.le_trans (Nat.le_of_eq O0.1.symm) O0.2.1
 obtain ⟨S0, hS0⟩ : ∃ z, z = s₁.setTop (entryFrame m #[(.ref a0)] 1) := ⟨_, rfl⟩
 have pre0 : ∀ tg, AT p e below s₁ m 0 #[rv a0] [] tg → Steps p.tables e below S0 tg := fun tg kg => by rw [hS0]; exact castTop (ef_3 m a0) kg
 obtain ⟨T1, X1, e1, st1⟩ := getF X0 hx hZ hown (host := "") (Or.inl (ow hw 18 rfl)) Via.refl e0 pf0 (g := (mkF m 1 #[rv a0] [(.ref a0)])) rfl rfl (hb hby d3_1)
 obtain ⟨fs, hr, hrun, hended, hW, hsame⟩ := X1.leave (v := some (.ref sy)) (fun h => by rw [Bd.returns] at h; cases h)
 subst hS0
 refine ⟨_, _, pre0 _ ?_, hrun, hended, _, _, rfl, ?_, ⟨_, rfl⟩, hW, hsame.mono (by decide) (by decide)⟩
 ·
  refine XS.aloadN X0.here hx rfl (hb hby d3_0) rfl rfl ?_
  show AT p e below s₁ m 1 #[rv a0] [(.ref a0)] _
  refine st1 _ ?_
  show AT p e below T1 m 4 #[rv a0] [(.ref sy)] _
  exact retOut X1 hx (t := (.object "java/lang/String")) (i := .areturn) Bd.returns rfl (Or.inr (Or.inr (Or.inr (Or.inr ⟨rfl, rfl, rfl⟩)))) (hb hby d3_4) hr
 ·
  show Q3 Z a0 sy h0 n0 _ T1.heap _
  rw [e1]
  exact ⟨rfl, N0, rfl⟩

theorem d5_0 : decode jdk_43_method_13_code 0 = .ok (.aload_n 0, 1) := by decide +kernel
theorem d5_1 : decode jdk_43_method_13_code 1 = .ok (.arraylength, 1) := by decide +kernel
theorem d5_2 : decode jdk_43_method_13_code 2 = .ok (.aload_n 1, 1) := by decide +kernel
theorem d5_3 : decode jdk_43_method_13_code 3 = .ok (.arraylength, 1) := by decide +kernel
theorem d5_4 : decode jdk_43_method_13_code 4 = .ok (.if_icmp .ne 30, 3) := by decide +kernel
theorem d5_7 : decode jdk_43_method_13_code 7 = .ok (.iconst 0, 1) := by decide +kernel
theorem d5_8 : decode jdk_43_method_13_code 8 = .ok (.istore_n 2, 1) := by decide +kernel
theorem d5_9 : decode jdk_43_method_13_code 9 = .ok (.iload_n 2, 1) := by decide +kernel
theorem d5_10 : decode jdk_43_method_13_code 10 = .ok (.aload_n 0, 1) := by decide +kernel
theorem d5_11 : decode jdk_43_method_13_code 11 = .ok (.arraylength, 1) := by decide +kernel
theorem d5_12 : decode jdk_43_method_13_code 12 = .ok (.if_icmp .ge 20, 3) := by decide +kernel
theorem d5_15 : decode jdk_43_method_13_code 15 = .ok (.aload_n 0, 1) := by decide +kernel
theorem d5_16 : decode jdk_43_method_13_code 16 = .ok (.iload_n 2, 1) := by decide +kernel
theorem d5_17 : decode jdk_43_method_13_code 17 = .ok (.baload, 1) := by decide +kernel
theorem d5_18 : decode jdk_43_method_13_code 18 = .ok (.aload_n 1, 1) := by decide +kernel
theorem d5_19 : decode jdk_43_method_13_code 19 = .ok (.iload_n 2, 1) := by decide +kernel
theorem d5_20 : decode jdk_43_method_13_code 20 = .ok (.baload, 1) := by decide +kernel
theorem d5_21 : decode jdk_43_method_13_code 21 = .ok (.if_icmp .eq 5, 3) := by decide +kernel
theorem d5_24 : decode jdk_43_method_13_code 24 = .ok (.iconst 0, 1) := by decide +kernel
theorem d5_25 : decode jdk_43_method_13_code 25 = .ok (.ireturn, 1) := by decide +kernel
theorem d5_26 : decode jdk_43_method_13_code 26 = .ok (.iinc 2 1, 3) := by decide +kernel
theorem d5_29 : decode jdk_43_method_13_code 29 = .ok (.goto (-20), 3) := by decide +kernel
theorem d5_32 : decode jdk_43_method_13_code 32 = .ok (.iconst 1, 1) := by decide +kernel
theorem d5_33 : decode jdk_43_method_13_code 33 = .ok (.ireturn, 1) := by decide +kernel
theorem ef_5 (m : MethodId) (a0 : Addr) (a1 : Addr) : entryFrame m #[(.ref a0), (.ref a1)] 3 = mkF m 0 #[rv a0, rv a1, un] [] := by first | (simp [entryFrame, mkF, argsToLocals, Value.category]; done) | rfl
def f5 (x0 : Int32) (y0 : Int32) : Int32 := if x0 = y0 then (1 : Int32) else (0 : Int32)
def Q5 (Z : State) (a0 : Addr) (a1 : Addr) (ka : ClassId) (kb : ClassId) (x0 : Int32) (y0 : Int32) (h0 : Heap) (n0 : Nat) (v : Option Value) (h : Heap) (L : List Loc) : Prop := v = some (.int (f5 x0 y0)) ∧ Fr n0 L ∧ h = h0
set_option maxRecDepth 65536 in
set_option maxHeartbeats 40000000 in
theorem rm5 (l : Launch) (Z : State) (ar : Array Value) (hw : ∀ d ∈ tables_1, d.before ar Z = true) (ws : List Jvm.Cond) (a0 : Addr) (a1 : Addr) (ka : ClassId) (kb : ClassId) (x0 : Int32) (y0 : Int32) (h0 : Heap) (n0 : Nat) (O0 : Old Z n0 h0) (pf0 : Arv Z h0 a0 ka .byte (1 : Int32) [(.int x0)] (.int (0 : Int32))) (pf1 : Arv Z h0 a1 kb .byte (1 : Int32) [(.int y0)] (.int (0 : Int32))) :
    MetFree l y5 (head1 (Jvm.Cond.code y5 jdk_43_method_13_code 3 (some .boolean) :: ws) ({ frames := 0, cells := 0, slots := 0, locals := 0 } : Room)) (fun a U => a = #[(.ref a0), (.ref a1)] ∧ Z.Warmed39 U.vm ∧ U.heap = h0) (fun _ _ _ _ _ => True) (fun _ U o U' => ∃ v L, o = .returned v ∧ Q5 Z a0 a1 ka kb x0 y0 h0 n0 v U'.heap L ∧ FrameEnd U o U' L ({ frames := 0, cells := 0, slots := 0, locals := 0 } : Room).cells ({ frames := 0, cells := 0, slots := 0, locals := 0 } : Room).slots) := by
 refine MetFree.of_bodySF (plainFor_of_name pn_2) hisR ?_
 intro p e s m args below meth c s₁ Bd hml0 hP hK
 obtain ⟨rfl, hZ, hh⟩ := hP
 have hx := Bd.exec
 have hby := Bd.bytes
 have hml : c.maxLocals = 3 := hml0
 have hown : s.vm.findClass "java/lang/StringLatin1" = some m.cls := findClass_of_methodNamed Bd.named
 have hnm := (name_of_methodNamed Bd.named Bd.method).1
 have X0 : Stand p l e ({ frames := 0, cells := 0, slots := 0, locals := 0 } : Room) s m #[(.ref a0), (.ref a1)] below meth c s₁ [] 0 0 := Stand.of_body Bd
 have e0 : s₁.heap = h0 := by rw [← hh, Bd.state]; rfl
 have N0 := Fr.nil n0
 have Z0 : n0 ≤ h0.size := Nat.le_trans (Nat.le_of_eq O0.1.symm) O0.2.1
 obtain ⟨S0, hS0⟩ : ∃ z, z = s₁.setTop (entryFrame m #[(.ref a0), (.ref a1)] 3) := ⟨_, rfl⟩
 have pre0 : ∀ tg, AT p e below s₁ m 0 #[rv a0, rv a1, un] [] tg → Steps p.tables e below S0 tg := fun tg kg => by rw [hS0]; exact castTop (ef_5 m a0 a1) kg
 obtain ⟨cl1, Ar1, q1, S1, N1, H1, G1⟩ := id pf0
 obtain ⟨cl2, Ar2, q2, S2, N2, H2, G2⟩ := id pf1
 obtain ⟨cl3, Ar3, q3, S3, N3, H3, G3⟩ := id pf0
 obtain ⟨cl4, Ar4, q4, S4, N4, H4, G4⟩ := id pf0
 have hin4 := own_in (0 : Int32) S4 ⟨by decide, by decide⟩
 have hat4 : cl4.slots[((0 : Int32)).toNatClampNeg]? = some (.int x0) := Has.at H4 hin4 rfl
 obtain ⟨cl5, Ar5, q5, S5, N5, H5, G5⟩ := id pf1
 have hin5 := own_in (0 : Int32) S5 ⟨by decide, by decide⟩
 have hat5 : cl5.slots[((0 : Int32)).toNatClampNeg]? = some (.int y0) := Has.at H5 hin5 rfl
 have pre6 : ∀ tg, AT p e below s₁ m 21 #[rv a0, rv a1, iv (0 : Int32)] [(.int y0), (.int x0)] tg → Steps p.tables e below S0 tg := fun tg kg => pre0 tg (by
  refine XS.aloadN X0.here hx rfl (hb hby d5_0) rfl rfl ?_
  show AT p e below s₁ m 1 #[rv a0, rv a1, un] [(.ref a0)] _
  refine X0.arraylength hx (by rw [e0]; exact Ar1.1) (State.isArrayOf_alike hZ.alike Ar1.2.1) (g := (mkF m 1 #[rv a0, rv a1, un] [(.ref a0)])) rfl rfl (hb hby d5_1) _ ?_
  rw [len_of S1 N1]
  show AT p e below s₁ m 2 #[rv a0, rv a1, un] [(.int (1 : Int32))] _
  refine XS.aloadN X0.here hx rfl (hb hby d5_2) rfl rfl ?_
  show AT p e below s₁ m 3 #[rv a0, rv a1, un] [(.ref a1), (.int (1 : Int32))] _
  refine X0.arraylength hx (by rw [e0]; exact Ar2.1) (State.isArrayOf_alike hZ.alike Ar2.2.1) (g := (mkF m 3 #[rv a0, rv a1, un] [(.ref a1), (.int (1 : Int32))])) rfl rfl (hb hby d5_3) _ ?_
  rw [len_of S2 N2]
  show AT p e below s₁ m 4 #[rv a0, rv a1, un] [(.int (1 : Int32)), (.int (1 : Int32))] _
  refine XS.icmpNo X0.here hx rfl (hb hby d5_4) rfl (XT.ii_ne_f ((by decide) : (1 : Int32) = (1 : Int32))) ?_
  show AT p e below s₁ m 7 #[rv a0, rv a1, un] [] _
  refine XS.iconst X0.here hx rfl (hb hby d5_7) ?_
  show AT p e below s₁ m 8 #[rv a0, rv a1, un] [(.int (0 : Int32))] _
  refine XS.istoreN X0.here hx rfl (hb hby d5_8) rfl (l' := #[rv a0, rv a1, iv (0 : Int32)]) rfl ?_
  show AT p e below s₁ m 9 #[rv a0, rv a1, iv (0 : Int32)] [] _
  refine XS.iloadN X0.here hx rfl (hb hby d5_9) rfl ?_
  show AT p e below s₁ m 10 #[rv a0, rv a1, iv (0 : Int32)] [(.int (0 : Int32))] _
  refine XS.aloadN X0.here hx rfl (hb hby d5_10) rfl rfl ?_
  show AT p e below s₁ m 11 #[rv a0, rv a1, iv (0 : Int32)] [(.ref a0), (.int (0 : Int32))] _
  refine X0.arraylength hx (by rw [e0]; exact Ar3.1) (State.isArrayOf_alike hZ.alike Ar3.2.1) (g := (mkF m 11 #[rv a0, rv a1, iv (0 : Int32)] [(.ref a0), (.int (0 : Int32))])) rfl rfl (hb hby d5_11) _ ?_
  rw [len_of S3 N3]
  show AT p e below s₁ m 12 #[rv a0, rv a1, iv (0 : Int32)] [(.int (1 : Int32)), (.int (0 : Int32))] _
  refine XS.icmpNo X0.here hx rfl (hb hby d5_12) rfl (XT.ii_ge_f ((by decide) : (0 : Int32) < (1 : Int32))) ?_
  show AT p e below s₁ m 15 #[rv a0, rv a1, iv (0 : Int32)] [] _
  refine XS.aloadN X0.here hx rfl (hb hby d5_15) rfl rfl ?_
  show AT p e below s₁ m 16 #[rv a0, rv a1, iv (0 : Int32)] [(.ref a0)] _
  refine XS.iloadN X0.here hx rfl (hb hby d5_16) rfl ?_
  show AT p e below s₁ m 17 #[rv a0, rv a1, iv (0 : Int32)] [(.int (0 : Int32)), (.ref a0)] _
  refine X0.baloadBytes hx (j := (0 : Int32)) (v := (.int x0)) (by rw [e0]; exact Ar4.1) (State.isArrayOf_alike hZ.alike Ar4.2.1) Ar4.2.2 hin4 hat4 (g := (mkF m 17 #[rv a0, rv a1, iv (0 : Int32)] [(.int (0 : Int32)), (.ref a0)])) rfl rfl (hb hby d5_17) _ ?_
  show AT p e below s₁ m 18 #[rv a0, rv a1, iv (0 : Int32)] [(.int x0)] _
  refine XS.aloadN X0.here hx rfl (hb hby d5_18) rfl rfl ?_
  show AT p e below s₁ m 19 #[rv a0, rv a1, iv (0 : Int32)] [(.ref a1), (.int x0)] _
  refine XS.iloadN X0.here hx rfl (hb hby d5_19) rfl ?_
  show AT p e below s₁ m 20 #[rv a0, rv a1, iv (0 : Int32)] [(.int (0 : Int32)), (.ref a1), (.int x0)] _
  refine X0.baloadBytes hx (j := (0 : Int32)) (v := (.int y0)) (by rw [e0]; exact Ar5.1) (State.isArrayOf_alike hZ.alike Ar5.2.1) Ar5.2.2 hin5 hat5 (g := (mkF m 20 #[rv a0, rv a1, iv (0 : Int32)] [(.int (0 : Int32)), (.ref a1), (.int x0)])) rfl rfl (hb hby d5_20) _ ?_
  exact kg)
 rcases Decidable.em (x0 = y0) with hc7 | hc7
 ·
  obtain ⟨cl8, Ar8, q8, S8, N8, H8, G8⟩ := id pf0
  obtain ⟨fs, hr, hrun, hended, hW, hsame⟩ := X0.leave (v := some (.int (1 : Int32))) (fun h => by rw [Bd.returns] at h; cases h)
  subst hS0
  refine ⟨_, _, pre6 _ ?_, hrun, hended, _, _, rfl, ?_, ⟨_, rfl⟩, hW, hsame.mono (by decide) (by decide)⟩
  ·
   refine XS.icmpYes X0.here hx rfl (pc0 := 21) (pc' := 26) rfl (hb hby d5_21) rfl (XT.ii_eq_t hc7) (by decide) (by decide) ?_
   show AT p e below s₁ m 26 #[rv a0, rv a1, iv (0 : Int32)] [] _
   refine XS.iinc X0.here hx rfl (hb hby d5_26) rfl (l' := #[rv a0, rv a1, iv (1 : Int32)]) rfl ?_
   show AT p e below s₁ m 29 #[rv a0, rv a1, iv (1 : Int32)] [] _
   refine XS.goto X0.here hx rfl (pc0 := 29) (pc' := 9) rfl (hb hby d5_29) (by decide) (by decide) ?_
   show AT p e below s₁ m 9 #[rv a0, rv a1, iv (1 : Int32)] [] _
   refine XS.iloadN X0.here hx rfl (hb hby d5_9) rfl ?_
   show AT p e below s₁ m 10 #[rv a0, rv a1, iv (1 : Int32)] [(.int (1 : Int32))] _
   refine XS.aloadN X0.here hx rfl (hb hby d5_10) rfl rfl ?_
   show AT p e below s₁ m 11 #[rv a0, rv a1, iv (1 : Int32)] [(.ref a0), (.int (1 : Int32))] _
   refine X0.arraylength hx (by rw [e0]; exact Ar8.1) (State.isArrayOf_alike hZ.alike Ar8.2.1) (g := (mkF m 11 #[rv a0, rv a1, iv (1 : Int32)] [(.ref a0), (.int (1 : Int32))])) rfl rfl (hb hby d5_11) _ ?_
   rw [len_of S8 N8]
   show AT p e below s₁ m 12 #[rv a0, rv a1, iv (1 : Int32)] [(.int (1 : Int32)), (.int (1 : Int32))] _
   refine XS.icmpYes X0.here hx rfl (pc0 := 12) (pc' := 32) rfl (hb hby d5_12) rfl (XT.ii_ge_t ((by decide) : ¬ ((1 : Int32) < (1 : Int32)))) (by decide) (by decide) ?_
   show AT p e below s₁ m 32 #[rv a0, rv a1, iv (1 : Int32)] [] _
   refine XS.iconst X0.here hx rfl (hb hby d5_32) ?_
   show AT p e below s₁ m 33 #[rv a0, rv a1, iv (1 : Int32)] [(.int (1 : Int32))] _
   exact retN X0 hx (t := .boolean) Bd.returns (by simp) (hb hby d5_33) hr
  ·
   show Q5 Z a0 a1 ka kb x0 y0 h0 n0 _ s₁.heap _
   rw [e0]
   exact ⟨(by rw [f5, if_pos hc7]), N0, rfl⟩
 ·
  obtain ⟨fs, hr, hrun, hended, hW, hsame⟩ := X0.leave (v := some (.int (0 : Int32))) (fun h => by rw [Bd.returns] at h; cases h)
  subst hS0
  refine ⟨_, _, pre6 _ ?_, hrun, hended, _, _, rfl, ?_, ⟨_, rfl⟩, hW, hsame.mono (by decide) (by decide)⟩
  ·
   refine XS.icmpNo X0.here hx rfl (hb hby d5_21) rfl (XT.ii_eq_f hc7) ?_
   show AT p e below s₁ m 24 #[rv a0, rv a1, iv (0 : Int32)] [] _
   refine XS.iconst X0.here hx rfl (hb hby d5_24) ?_
   show AT p e below s₁ m 25 #[rv a0, rv a1, iv (0 : Int32)] [(.int (0 : Int32))] _
   exact retN X0 hx (t := .boolean) Bd.returns (by simp) (hb hby d5_25) hr
  ·
   show Q5 Z a0 a1 ka kb x0 y0 h0 n0 _ s₁.heap _
   rw [e0]
   exact ⟨(by rw [f5, if_neg hc7]), N0, rfl⟩

theorem d4_0 : decode jdk_42_method_66_code 0 = .ok (.aload_n 0, 1) := by decide +kernel
theorem d4_1 : decode jdk_42_method_66_code 1 = .ok (.aload_n 1, 1) := by decide +kernel
theorem d4_2 : decode jdk_42_method_66_code 2 = .ok (.if_acmp .ne 5, 3) := by decide +kernel
theorem d4_5 : decode jdk_42_method_66_code 5 = .ok (.iconst 1, 1) := by decide +kernel
theorem d4_6 : decode jdk_42_method_66_code 6 = .ok (.ireturn, 1) := by decide +kernel
theorem d4_7 : decode jdk_42_method_66_code 7 = .ok (.aload_n 1, 1) := by decide +kernel
theorem d4_8 : decode jdk_42_method_66_code 8 = .ok (.instanceof 10, 3) := by decide +kernel
theorem d4_11 : decode jdk_42_method_66_code 11 = .ok (.ifCond .eq 43, 3) := by decide +kernel
theorem d4_14 : decode jdk_42_method_66_code 14 = .ok (.aload_n 1, 1) := by decide +kernel
theorem d4_15 : decode jdk_42_method_66_code 15 = .ok (.checkcast 10, 3) := by decide +kernel
theorem d4_18 : decode jdk_42_method_66_code 18 = .ok (.astore_n 2, 1) := by decide +kernel
theorem d4_19 : decode jdk_42_method_66_code 19 = .ok (.getstatic 38, 3) := by decide +kernel
theorem d4_22 : decode jdk_42_method_66_code 22 = .ok (.ifCond .eq 14, 3) := by decide +kernel
theorem d4_25 : decode jdk_42_method_66_code 25 = .ok (.aload_n 0, 1) := by decide +kernel
theorem d4_26 : decode jdk_42_method_66_code 26 = .ok (.getfield 15, 3) := by decide +kernel
theorem d4_29 : decode jdk_42_method_66_code 29 = .ok (.aload_n 2, 1) := by decide +kernel
theorem d4_30 : decode jdk_42_method_66_code 30 = .ok (.getfield 15, 3) := by decide +kernel
theorem d4_33 : decode jdk_42_method_66_code 33 = .ok (.if_icmp .ne 21, 3) := by decide +kernel
theorem d4_36 : decode jdk_42_method_66_code 36 = .ok (.aload_n 0, 1) := by decide +kernel
theorem d4_37 : decode jdk_42_method_66_code 37 = .ok (.getfield 9, 3) := by decide +kernel
theorem d4_40 : decode jdk_42_method_66_code 40 = .ok (.aload_n 2, 1) := by decide +kernel
theorem d4_41 : decode jdk_42_method_66_code 41 = .ok (.getfield 9, 3) := by decide +kernel
theorem d4_44 : decode jdk_42_method_66_code 44 = .ok (.invokestatic 541, 3) := by decide +kernel
theorem d4_47 : decode jdk_42_method_66_code 47 = .ok (.ifCond .eq 7, 3) := by decide +kernel
theorem d4_50 : decode jdk_42_method_66_code 50 = .ok (.iconst 1, 1) := by decide +kernel
theorem d4_51 : decode jdk_42_method_66_code 51 = .ok (.goto 4, 3) := by decide +kernel
theorem d4_54 : decode jdk_42_method_66_code 54 = .ok (.iconst 0, 1) := by decide +kernel
theorem d4_55 : decode jdk_42_method_66_code 55 = .ok (.ireturn, 1) := by decide +kernel
theorem ef_4 (m : MethodId) (a0 : Addr) (a1 : Addr) : entryFrame m #[(.ref a0), (.ref a1)] 3 = mkF m 0 #[rv a0, rv a1, un] [] := by first | (simp [entryFrame, mkF, argsToLocals, Value.category]; done) | rfl
def f4 (a0 : Addr) (a1 : Addr) (x0 : Int32) (y0 : Int32) : Int32 := if a0 = a1 then (1 : Int32) else (if (f5 x0 y0) = (0 : Int32) then (0 : Int32) else (1 : Int32))
def Q4 (Z : State) (a0 : Addr) (a1 : Addr) (w_CS0 : Int32) (w_SF1 : Value) (w_ADD : Addr) (w_ADD_symbol : Addr) (w_ADD_symbol_value : Addr) (w_DIVIDE : Addr) (w_SUBTRACT : Addr) (w_DIVIDE_symbol : Addr) (w_DIVIDE_symbol_value : Addr) (w_MULTIPLY : Addr) (w_MULTIPLY_symbol : Addr) (w_MULTIPLY_symbol_value : Addr) (w_SUBTRACT_symbol : Addr) (w_SUBTRACT_symbol_value : Addr) (k_ADD_symbol_value : ClassId) (k_DIVIDE_symbol_value : ClassId) (k_MULTIPLY_symbol_value : ClassId) (k_SUBTRACT_symbol_value : ClassId) (u : Addr) (w : Addr) (ka : ClassId) (kb : ClassId) (x0 : Int32) (y0 : Int32) (h0 : Heap) (n0 : Nat) (v : Option Value) (h : Heap) (L : List Loc) : Prop := v = some (.int (f4 a0 a1 x0 y0)) ∧ Fr n0 L ∧ h = h0
set_option maxRecDepth 65536 in
set_option maxHeartbeats 40000000 in
theorem rm4 (l : Launch) (Z : State) (ar : Array Value) (hw : ∀ d ∈ tables_1, d.before ar Z = true) (ws : List Jvm.Cond) (a0 : Addr) (a1 : Addr) (w_CS0 : Int32) (w_SF1 : Value) (w_ADD : Addr) (w_ADD_symbol : Addr) (w_ADD_symbol_value : Addr) (w_DIVIDE : Addr) (w_SUBTRACT : Addr) (w_DIVIDE_symbol : Addr) (w_DIVIDE_symbol_value : Addr) (w_MULTIPLY : Addr) (w_MULTIPLY_symbol : Addr) (w_MULTIPLY_symbol_value : Addr) (w_SUBTRACT_symbol : Addr) (w_SUBTRACT_symbol_value : Addr) (k_ADD_symbol_value : ClassId) (k_DIVIDE_symbol_value : ClassId) (k_MULTIPLY_symbol_value : ClassId) (k_SUBTRACT_symbol_value : ClassId) (u : Addr) (w : Addr) (ka : ClassId) (kb : ClassId) (x0 : Int32) (y0 : Int32) (h0 : Heap) (n0 : Nat) (O0 : Old Z n0 h0) (HW : Wd Z w_CS0 w_SF1 w_ADD w_ADD_symbol w_ADD_symbol_value w_DIVIDE w_SUBTRACT w_DIVIDE_symbol w_DIVIDE_symbol_value w_MULTIPLY w_MULTIPLY_symbol w_MULTIPLY_symbol_value w_SUBTRACT_symbol w_SUBTRACT_symbol_value k_ADD_symbol_value k_DIVIDE_symbol_value k_MULTIPLY_symbol_value k_SUBTRACT_symbol_value) (pf0 : Exa Z h0 a0 "java/lang/String") (pf1 : Exa Z h0 a1 "java/lang/String") (pf2 : Fld Z h0 a0 "java/lang/String" "coder" "B" (.int (0 : Int32))) (pf3 : Fld Z h0 a1 "java/lang/String" "coder" "B" (.int (0 : Int32))) (pf4 : Fld Z h0 a0 "java/lang/String" "value" "[B" (.ref u)) (pf5 : Fld Z h0 a1 "java/lang/String" "value" "[B" (.ref w)) (pf6 : Arv Z h0 u ka .byte (1 : Int32) [(.int x0)] (.int (0 : Int32))) (pf7 : Arv Z h0 w kb .byte (1 : Int32) [(.int y0)] (.int (0 : Int32))) :
    MetFree l y4 (head1 (Jvm.Cond.code y4 jdk_42_method_66_code 3 (some .boolean) :: ws) ({ frames := 1, cells := 0, slots := 0, locals := 14 } : Room)) (fun a U => a = #[(.ref a0), (.ref a1)] ∧ Z.Warmed39 U.vm ∧ U.heap = h0) (fun _ _ _ _ _ => True) (fun _ U o U' => ∃ v L, o = .returned v ∧ Q4 Z a0 a1 w_CS0 w_SF1 w_ADD w_ADD_symbol w_ADD_symbol_value w_DIVIDE w_SUBTRACT w_DIVIDE_symbol w_DIVIDE_symbol_value w_MULTIPLY w_MULTIPLY_symbol w_MULTIPLY_symbol_value w_SUBTRACT_symbol w_SUBTRACT_symbol_value k_ADD_symbol_value k_DIVIDE_symbol_value k_MULTIPLY_symbol_value k_SUBTRACT_symbol_value u w ka kb x0 y0 h0 n0 v U'.heap L ∧ FrameEnd U o U' L ({ frames := 1, cells := 0, slots := 0, locals := 14 } : Room).cells ({ frames := 1, cells := 0, slots := 0, locals := 14 } : Room).slots) := by
 refine MetFree.of_bodySF (plainFor_of_name pn_3) hisR ?_
 intro p e s m args below meth c s₁ Bd hml0 hP hK
 obtain ⟨rfl, hZ, hh⟩ := hP
 have hx := Bd.exec
 have hby := Bd.bytes
 have hml : c.maxLocals = 3 := hml0
 have hown : s.vm.findClass "java/lang/String" = some m.cls := findClass_of_methodNamed Bd.named
 have hnm := (name_of_methodNamed Bd.named Bd.method).1
 have X0 : Stand p l e ({ frames := 1, cells := 0, slots := 0, locals := 14 } : Room) s m #[(.ref a0), (.ref a1)] below meth c s₁ [] 0 0 := Stand.of_body Bd
 have e0 : s₁.heap = h0 := by rw [← hh, Bd.state]; rfl
 have N0 := Fr.nil n0
 have Z0 : n0 ≤ h0.size := Nat.le_trans (Nat.le_of_eq O0.1.symm) O0.2.1
 obtain ⟨S0, hS0⟩ : ∃ z, z = s₁.setTop (entryFrame m #[(.ref a0), (.ref a1)] 3) := ⟨_, rfl⟩
 have pre0 : ∀ tg, AT p e below s₁ m 0 #[rv a0, rv a1, un] [] tg → Steps p.tables e below S0 tg := fun tg kg => by rw [hS0]; exact castTop (ef_4 m a0 a1) kg
 obtain ⟨S_COMPACT_STRINGS, hz_w_CS0, S_SIOOBE_FORMATTER, ir_w_SF1, S_ADD, E_ADD, F_symbol_ADD, E_ADD_symbol, F_coder_ADD_symbol, F_value_ADD_symbol, S_DIVIDE, E_DIVIDE, F_ordinal_DIVIDE, F_ordinal_ADD, S_SUBTRACT, E_SUBTRACT, F_ordinal_SUBTRACT, F_symbol_DIVIDE, E_DIVIDE_symbol, F_coder_DIVIDE_symbol, F_value_DIVIDE_symbol, S_MULTIPLY, E_MULTIPLY, F_ordinal_MULTIPLY, F_symbol_MULTIPLY, E_MULTIPLY_symbol, F_coder_MULTIPLY_symbol, F_value_MULTIPLY_symbol, F_symbol_SUBTRACT, E_SUBTRACT_symbol, F_coder_SUBTRACT_symbol, F_value_SUBTRACT_symbol, V_ADD_symbol_value, V_DIVIDE_symbol_value, V_MULTIPLY_symbol_value, V_SUBTRACT_symbol_value⟩ := id HW
 have pre1 : ∀ tg, AT p e below s₁ m 2 #[rv a0, rv a1, un] [(.ref a1), (.ref a0)] tg → Steps p.tables e below S0 tg := fun tg kg => pre0 tg (by
  refine XS.aloadN X0.here hx rfl (hb hby d4_0) rfl rfl ?_
  show AT p e below s₁ m 1 #[rv a0, rv a1, un] [(.ref a0)] _
  refine XS.aloadN X0.here hx rfl (hb hby d4_1) rfl rfl ?_
  exact kg)
 rcases Decidable.em (a0 = a1) with hc2 | hc2
 ·
  obtain ⟨fs, hr, hrun, hended, hW, hsame⟩ := X0.leave (v := some (.int (1 : Int32))) (fun h => by rw [Bd.returns] at h; cases h)
  subst hS0
  refine ⟨_, _, pre1 _ ?_, hrun, hended, _, _, rfl, ?_, ⟨_, rfl⟩, hW, hsame.mono (by decide) (by decide)⟩
  ·
   refine Jvm.RoadKit.acmp (g := (mkF m 2 #[rv a0, rv a1, un] [(.ref a1), (.ref a0)])) X0 hx rfl rfl rfl (pc0 := 2) (pc' := 5) (same := true) rfl (hb hby d4_2) rfl (decide_eq_true (congrArg Value.ref hc2)) (by decide) (by decide) ?_
   show AT p e below s₁ m 5 #[rv a0, rv a1, un] [] _
   refine XS.iconst X0.here hx rfl (hb hby d4_5) ?_
   show AT p e below s₁ m 6 #[rv a0, rv a1, un] [(.int (1 : Int32))] _
   exact retN X0 hx (t := .boolean) Bd.returns (by simp) (hb hby d4_6) hr
  ·
   show Q4 Z a0 a1 w_CS0 w_SF1 w_ADD w_ADD_symbol w_ADD_symbol_value w_DIVIDE w_SUBTRACT w_DIVIDE_symbol w_DIVIDE_symbol_value w_MULTIPLY w_MULTIPLY_symbol w_MULTIPLY_symbol_value w_SUBTRACT_symbol w_SUBTRACT_symbol_value k_ADD_symbol_value k_DIVIDE_symbol_value k_MULTIPLY_symbol_value k_SUBTRACT_symbol_value u w ka kb x0 y0 h0 n0 _ s₁.heap _
   rw [e0]
   exact ⟨(by rw [f4, if_pos hc2]), N0, rfl⟩
 ·
  obtain ⟨T3, X3, e3, st3⟩ := instY X0 hx hZ hown (ow hw 33 rfl) e0 (Ins.self pf1) (g := (mkF m 8 #[rv a0, rv a1, un] [(.ref a1)])) rfl rfl (hb hby d4_8)
  obtain ⟨T4, X4, e4, st4⟩ := castY X3 hx hZ hown (ow hw 33 rfl) e3 (Ins.self pf1) (g := (mkF m 15 #[rv a0, rv a1, un] [(.ref a1)])) rfl rfl (hb hby d4_15)
  obtain ⟨T5, X5, e5, st5⟩ := getS2 X4 hx hZ hown (host := "") (Or.inl (ow hw 35 rfl)) Via.refl e4 (S_COMPACT_STRINGS.ext O0.2) (g := (mkF m 19 #[rv a0, rv a1, rv a1] [])) rfl (hb hby d4_19)
  obtain ⟨T6, X6, e6, st6⟩ := getF X5 hx hZ hown (host := "") (Or.inl (ow hw 36 rfl)) Via.refl e5 pf2 (g := (mkF m 26 #[rv a0, rv a1, rv a1] [(.ref a0)])) rfl rfl (hb hby d4_26)
  obtain ⟨T7, X7, e7, st7⟩ := getF X6 hx hZ hown (host := "") (Or.inl (ow hw 36 rfl)) Via.refl e6 pf3 (g := (mkF m 30 #[rv a0, rv a1, rv a1] [(.ref a1), (.int (0 : Int32))])) rfl rfl (hb hby d4_30)
  obtain ⟨T8, X8, e8, st8⟩ := getF X7 hx hZ hown (host := "") (Or.inl (ow hw 37 rfl)) Via.refl e7 pf4 (g := (mkF m 37 #[rv a0, rv a1, rv a1] [(.ref a0)])) rfl rfl (hb hby d4_37)
  obtain ⟨T9, X9, e9, st9⟩ := getF X8 hx hZ hown (host := "") (Or.inl (ow hw 37 rfl)) Via.refl e8 pf5 (g := (mkF m 41 #[rv a0, rv a1, rv a1] [(.ref a1), (.ref u)])) rfl rfl (hb hby d4_41)
  obtain ⟨_, _, ⟨T10, L10, k10, n10⟩, -, X10, ⟨Lc10, hQ10, l10, y10, z10⟩, st10⟩ := Jvm.LawKit.callS X9 hx (y := y5) hown (mvT hZ (ow hw 38 rfl)) (mvT hZ (ow hw 39 rfl)) (mvT hZ (ow hw 40 rfl)) (mvT hZ (ow hw 41 rfl)) (by decide) (backOf (W := 0) (rm5 l Z ar hw [] u w ka kb x0 y0 h0 n0 O0 pf6 pf7) hZ (ow hw 41 rfl) (ow hw 40 rfl) (by decide) (by decide)) (g := (mkF m 44 #[rv a0, rv a1, rv a1] [(.ref w), (.ref u)])) rfl (by rw [hml]; rfl) (argsL := [(.ref u), (.ref w)]) (rest := []) (lenOf pd_0 rfl) rfl (by show 2 * 0 + _ ≤ _; exact Nat.le_of_eq rfl) (hb hby d4_44) (fun _ _ => ⟨rfl, e9, (by decide : 0 + 0 ≤ _), (by decide : 0 + 0 ≤ _)⟩)
  dsimp only [Pt.U, Pt.locs, Pt.cells, Pt.slots] at X10 l10 y10 z10 st10 hQ10
  subst l10 y10 z10
  obtain ⟨rfl, N10q, e10⟩ := hQ10
  have N10 := Fr.app N0 N10q
  have pre11 : ∀ tg, AT p e below T10 m 47 #[rv a0, rv a1, rv a1] [(.int (f5 x0 y0))] tg → Steps p.tables e below S0 tg := fun tg kg => pre1 tg (by
   refine Jvm.RoadKit.acmp (g := (mkF m 2 #[rv a0, rv a1, un] [(.ref a1), (.ref a0)])) X0 hx rfl rfl rfl (pc0 := 2) (pc' := 7) (same := false) rfl (hb hby d4_2) rfl (decide_eq_false fun q => hc2 (Value.ref.inj q)) (by decide) (by decide) ?_
   show AT p e below s₁ m 7 #[rv a0, rv a1, un] [] _
   refine XS.aloadN X0.here hx rfl (hb hby d4_7) rfl rfl ?_
   show AT p e below s₁ m 8 #[rv a0, rv a1, un] [(.ref a1)] _
   refine st3 _ ?_
   show AT p e below T3 m 11 #[rv a0, rv a1, un] [(.int (1 : Int32))] _
   refine XS.ifNo X3.here hx rfl (hb hby d4_11) rfl (XT.i0_eq_f ((by decide) : ¬ ((1 : Int32) = (0 : Int32)))) ?_
   show AT p e below T3 m 14 #[rv a0, rv a1, un] [] _
   refine XS.aloadN X3.here hx rfl (hb hby d4_14) rfl rfl ?_
   show AT p e below T3 m 15 #[rv a0, rv a1, un] [(.ref a1)] _
   refine st4 _ ?_
   show AT p e below T4 m 18 #[rv a0, rv a1, un] [(.ref a1)] _
   refine XS.astoreN X4.here hx rfl (hb hby d4_18) rfl rfl (l' := #[rv a0, rv a1, rv a1]) rfl ?_
   show AT p e below T4 m 19 #[rv a0, rv a1, rv a1] [] _
   refine st5 _ ?_
   show AT p e below T5 m 22 #[rv a0, rv a1, rv a1] [(.int w_CS0)] _
   refine XS.ifNo X5.here hx rfl (hb hby d4_22) rfl (XT.i0_eq_f (hz_w_CS0 : ¬ (w_CS0 = (0 : Int32)))) ?_
   show AT p e below T5 m 25 #[rv a0, rv a1, rv a1] [] _
   refine XS.aloadN X5.here hx rfl (hb hby d4_25) rfl rfl ?_
   show AT p e below T5 m 26 #[rv a0, rv a1, rv a1] [(.ref a0)] _
   refine st6 _ ?_
   show AT p e below T6 m 29 #[rv a0, rv a1, rv a1] [(.int (0 : Int32))] _
   refine XS.aloadN X6.here hx rfl (hb hby d4_29) rfl rfl ?_
   show AT p e below T6 m 30 #[rv a0, rv a1, rv a1] [(.ref a1), (.int (0 : Int32))] _
   refine st7 _ ?_
   show AT p e below T7 m 33 #[rv a0, rv a1, rv a1] [(.int (0 : Int32)), (.int (0 : Int32))] _
   refine XS.icmpNo X7.here hx rfl (hb hby d4_33) rfl (XT.ii_ne_f ((by decide) : (0 : Int32) = (0 : Int32))) ?_
   show AT p e below T7 m 36 #[rv a0, rv a1, rv a1] [] _
   refine XS.aloadN X7.here hx rfl (hb hby d4_36) rfl rfl ?_
   show AT p e below T7 m 37 #[rv a0, rv a1, rv a1] [(.ref a0)] _
   refine st8 _ ?_
   show AT p e below T8 m 40 #[rv a0, rv a1, rv a1] [(.ref u)] _
   refine XS.aloadN X8.here hx rfl (hb hby d4_40) rfl rfl ?_
   show AT p e below T8 m 41 #[rv a0, rv a1, rv a1] [(.ref a1), (.ref u)] _
   refine st9 _ ?_
   show AT p e below T9 m 44 #[rv a0, rv a1, rv a1] [(.ref w), (.ref u)] _
   refine st10 _ ?_
   exact kg)
  rcases Decidable.em ((f5 x0 y0) = (0 : Int32)) with hc12 | hc12
  ·
   obtain ⟨fs, hr, hrun, hended, hW, hsame⟩ := X10.leave (v := some (.int (0 : Int32))) (fun h => by rw [Bd.returns] at h; cases h)
   subst hS0
   refine ⟨_, _, pre11 _ ?_, hrun, hended, _, _, rfl, ?_, ⟨_, rfl⟩, hW, hsame.mono (by decide) (by decide)⟩
   ·
    refine XS.ifYes X10.here hx rfl (pc0 := 47) (pc' := 54) rfl (hb hby d4_47) rfl (XT.i0_eq_t hc12) (by decide) (by decide) ?_
    show AT p e below T10 m 54 #[rv a0, rv a1, rv a1] [] _
    refine XS.iconst X10.here hx rfl (hb hby d4_54) ?_
    show AT p e below T10 m 55 #[rv a0, rv a1, rv a1] [(.int (0 : Int32))] _
    exact retN X10 hx (t := .boolean) Bd.returns (by simp) (hb hby d4_55) hr
   ·
    show Q4 Z a0 a1 w_CS0 w_SF1 w_ADD w_ADD_symbol w_ADD_symbol_value w_DIVIDE w_SUBTRACT w_DIVIDE_symbol w_DIVIDE_symbol_value w_MULTIPLY w_MULTIPLY_symbol w_MULTIPLY_symbol_value w_SUBTRACT_symbol w_SUBTRACT_symbol_value k_ADD_symbol_value k_DIVIDE_symbol_value k_MULTIPLY_symbol_value k_SUBTRACT_symbol_value u w ka kb x0 y0 h0 n0 _ T10.heap _
    rw [e10]
    exact ⟨(by rw [f4, if_neg hc2, if_pos hc12]), N10, rfl⟩
  ·
   obtain ⟨fs, hr, hrun, hended, hW, hsame⟩ := X10.leave (v := some (.int (1 : Int32))) (fun h => by rw [Bd.returns] at h; cases h)
   subst hS0
   refine ⟨_, _, pre11 _ ?_, hrun, hended, _, _, rfl, ?_, ⟨_, rfl⟩, hW, hsame.mono (by decide) (by decide)⟩
   ·
    refine XS.ifNo X10.here hx rfl (hb hby d4_47) rfl (XT.i0_eq_f hc12) ?_
    show AT p e below T10 m 50 #[rv a0, rv a1, rv a1] [] _
    refine XS.iconst X10.here hx rfl (hb hby d4_50) ?_
    show AT p e below T10 m 51 #[rv a0, rv a1, rv a1] [(.int (1 : Int32))] _
    refine XS.goto X10.here hx rfl (pc0 := 51) (pc' := 55) rfl (hb hby d4_51) (by decide) (by decide) ?_
    show AT p e below T10 m 55 #[rv a0, rv a1, rv a1] [(.int (1 : Int32))] _
    exact retN X10 hx (t := .boolean) Bd.returns (by simp) (hb hby d4_55) hr
   ·
    show Q4 Z a0 a1 w_CS0 w_SF1 w_ADD w_ADD_symbol w_ADD_symbol_value w_DIVIDE w_SUBTRACT w_DIVIDE_symbol w_DIVIDE_symbol_value w_MULTIPLY w_MULTIPLY_symbol w_MULTIPLY_symbol_value w_SUBTRACT_symbol w_SUBTRACT_symbol_value k_ADD_symbol_value k_DIVIDE_symbol_value k_MULTIPLY_symbol_value k_SUBTRACT_symbol_value u w ka kb x0 y0 h0 n0 _ T10.heap _
    rw [e10]
    exact ⟨(by rw [f4, if_neg hc2, if_neg hc12]), N10, rfl⟩


theorem own_n (x : Int32) : (x &&& (3 : Int32)) = (0 : Int32) ∨ (x &&& (3 : Int32)) = (1 : Int32) ∨ (x &&& (3 : Int32)) = (2 : Int32) ∨ (x &&& (3 : Int32)) = (3 : Int32) := by
  have a := c_and x (3 : Int32) (by decide)
  have k : ((3 : Int32)).toInt = 3 := rfl
  have l0 : ((0 : Int32)).toInt = 0 := rfl
  have l1 : ((1 : Int32)).toInt = 1 := rfl
  have l2 : ((2 : Int32)).toInt = 2 := rfl
  simp only [← Int32.toInt_inj, l0, l1, l2, k]
  omega

theorem ef_0 (m : MethodId) (p0 : Int32) : entryFrame m #[(.int p0)] maxLocals = mkF m 0 #[iv p0, un, un, un, un, un, un] [] := by first | (simp [entryFrame, mkF, argsToLocals, Value.category, maxLocals]; done) | rfl
def Q0 (Z : State) (p0 : Int32) (w_CS0 : Int32) (w_SF1 : Value) (w_ADD : Addr) (w_ADD_symbol : Addr) (w_ADD_symbol_value : Addr) (w_DIVIDE : Addr) (w_SUBTRACT : Addr) (w_DIVIDE_symbol : Addr) (w_DIVIDE_symbol_value : Addr) (w_MULTIPLY : Addr) (w_MULTIPLY_symbol : Addr) (w_MULTIPLY_symbol_value : Addr) (w_SUBTRACT_symbol : Addr) (w_SUBTRACT_symbol_value : Addr) (k_ADD_symbol_value : ClassId) (k_DIVIDE_symbol_value : ClassId) (k_MULTIPLY_symbol_value : ClassId) (k_SUBTRACT_symbol_value : ClassId) (h0 : Heap) (n0 : Nat) (v : Option Value) (h : Heap) (L : List Loc) : Prop := v = some (.int 1) ∧ Fr n0 L
set_option maxRecDepth 65536 in
set_option maxHeartbeats 40000000 in
theorem rm0 (l : Launch) (Z : State) (ar : Array Value) (hw : ∀ d ∈ tables_1, d.before ar Z = true) (ws : List Jvm.Cond) (p0 : Int32) (w_CS0 : Int32) (w_SF1 : Value) (w_ADD : Addr) (w_ADD_symbol : Addr) (w_ADD_symbol_value : Addr) (w_DIVIDE : Addr) (w_SUBTRACT : Addr) (w_DIVIDE_symbol : Addr) (w_DIVIDE_symbol_value : Addr) (w_MULTIPLY : Addr) (w_MULTIPLY_symbol : Addr) (w_MULTIPLY_symbol_value : Addr) (w_SUBTRACT_symbol : Addr) (w_SUBTRACT_symbol_value : Addr) (k_ADD_symbol_value : ClassId) (k_DIVIDE_symbol_value : ClassId) (k_MULTIPLY_symbol_value : ClassId) (k_SUBTRACT_symbol_value : ClassId) (h0 : Heap) (n0 : Nat) (O0 : Old Z n0 h0) (hEL : EW Z ar EL0) (HW : Wd Z w_CS0 w_SF1 w_ADD w_ADD_symbol w_ADD_symbol_value w_DIVIDE w_SUBTRACT w_DIVIDE_symbol w_DIVIDE_symbol_value w_MULTIPLY w_MULTIPLY_symbol w_MULTIPLY_symbol_value w_SUBTRACT_symbol w_SUBTRACT_symbol_value k_ADD_symbol_value k_DIVIDE_symbol_value k_MULTIPLY_symbol_value k_SUBTRACT_symbol_value) :
    MetFree l x (head1 (Jvm.Cond.code x code maxLocals ret :: ws) room_1) (fun a U => a = #[(.int p0)] ∧ Z.Warmed39 U.vm ∧ U.heap = h0 ∧ CHv Z EL0 U.vm h0) (fun _ _ _ _ _ => True) (fun _ U o U' => ∃ v L, o = .returned v ∧ Q0 Z p0 w_CS0 w_SF1 w_ADD w_ADD_symbol w_ADD_symbol_value w_DIVIDE w_SUBTRACT w_DIVIDE_symbol w_DIVIDE_symbol_value w_MULTIPLY w_MULTIPLY_symbol w_MULTIPLY_symbol_value w_SUBTRACT_symbol w_SUBTRACT_symbol_value k_ADD_symbol_value k_DIVIDE_symbol_value k_MULTIPLY_symbol_value k_SUBTRACT_symbol_value h0 n0 v U'.heap L ∧ CHr Z EL0 U.vm U.heap U'.vm U'.heap ∧ ReturnedEndW U o U' L 8 2112) := by
 refine MetFree.of_bodySF (plainFor_of_name pn_0) hisR ?_
 intro p e s m args below meth c s₁ Bd hml0 hP hK
 obtain ⟨rfl, hZ, hh, hCH⟩ := hP
 have hx := Bd.exec
 have hby := Bd.bytes
 have hml : c.maxLocals = 7 := hml0
 have hown : s.vm.findClass "com/example/pushplan/pushplan/expr/OpIsAdditivePinLaw" = some m.cls := findClass_of_methodNamed Bd.named
 have hnm := (name_of_methodNamed Bd.named Bd.method).1
 have X0 : Stand p l e room_1 (s.setVm s.vm) m #[(.int p0)] below meth c s₁ [] 0 0 := Stand.of_body Bd
 have e0 : s₁.heap = h0 := by rw [← hh, Bd.state]; rfl
 have N0 := Fr.nil n0
 have Z0 : n0 ≤ h0.size := Nat.le_trans (Nat.le_of_eq O0.1.symm) O0.2.1
 obtain ⟨S0, hS0⟩ : ∃ z, z = s₁.setTop (entryFrame m #[(.int p0)] maxLocals) := ⟨_, rfl⟩
 have pre0 : ∀ tg, AT p e below s₁ m 0 #[iv p0, un, un, un, un, un, un] [] tg → Steps p.tables e below S0 tg := fun tg kg => by rw [hS0]; exact castTop (ef_0 m p0) kg
 have hS : s.Since s.vm 0 := (State.WarmedH.refl s).since 0
 have hk : 0 ≤ h0.size := Nat.zero_le _
 have CR0 : CHr Z EL0 s.vm h0 s.vm h0 := CHr.refl hCH
 obtain ⟨S_COMPACT_STRINGS, hz_w_CS0, S_SIOOBE_FORMATTER, ir_w_SF1, S_ADD, E_ADD, F_symbol_ADD, E_ADD_symbol, F_coder_ADD_symbol, F_value_ADD_symbol, S_DIVIDE, E_DIVIDE, F_ordinal_DIVIDE, F_ordinal_ADD, S_SUBTRACT, E_SUBTRACT, F_ordinal_SUBTRACT, F_symbol_DIVIDE, E_DIVIDE_symbol, F_coder_DIVIDE_symbol, F_value_DIVIDE_symbol, S_MULTIPLY, E_MULTIPLY, F_ordinal_MULTIPLY, F_symbol_MULTIPLY, E_MULTIPLY_symbol, F_coder_MULTIPLY_symbol, F_value_MULTIPLY_symbol, F_symbol_SUBTRACT, E_SUBTRACT_symbol, F_coder_SUBTRACT_symbol, F_value_SUBTRACT_symbol, V_ADD_symbol_value, V_DIVIDE_symbol_value, V_MULTIPLY_symbol_value, V_SUBTRACT_symbol_value⟩ := id HW
 have pre1 : ∀ tg, AT p e below s₁ m 4 #[iv p0, iv (p0 &&& (3 : Int32)), un, un, un, un, un] [] tg → Steps p.tables e below S0 tg := fun tg kg => pre0 tg (by
  refine XS.iloadN X0.here hx rfl (hb hby at_0) rfl ?_
  show AT p e below s₁ m 1 #[iv p0, un, un, un, un, un, un] [(.int p0)] _
  refine XS.iconst X0.here hx rfl (hb hby at_1) ?_
  show AT p e below s₁ m 2 #[iv p0, un, un, un, un, un, un] [(.int (3 : Int32)), (.int p0)] _
  refine XS.iand X0.here hx rfl (hb hby at_2) rfl ?_
  show AT p e below s₁ m 3 #[iv p0, un, un, un, un, un, un] [(.int (p0 &&& (3 : Int32)))] _
  refine XS.istoreN X0.here hx rfl (hb hby at_3) rfl (l' := #[iv p0, iv (p0 &&& (3 : Int32)), un, un, un, un, un]) rfl ?_
  exact kg)
 obtain ⟨kk, hkk⟩ : ∃ z, z = (p0 &&& (3 : Int32)) := ⟨_, rfl⟩
 have pre2 : ∀ tg, AT p e below s₁ m 4 #[iv p0, iv kk, un, un, un, un, un] [] tg → Steps p.tables e below S0 tg := by rw [hkk]; exact pre1
 have hskk : kk = (0 : Int32) ∨ kk = (1 : Int32) ∨ kk = (2 : Int32) ∨ kk = (3 : Int32) := by rw [hkk]; exact own_n p0
 rcases hskk with rfl | rfl | rfl | rfl
 ·
  obtain ⟨_, _, ⟨T3, L3, k3, n3⟩, -, X3, ⟨Lc3, hQ3, l3, y3, z3⟩, st3⟩ := Jvm.LawKit.callS X0 hx (y := y1) hown (mvT hZ (ow hw 0 rfl)) (mvT hZ (ow hw 1 rfl)) (mvT hZ (ow hw 2 rfl)) (mvT hZ (ow hw 3 rfl)) (by decide) (backOf (W := 0) (rm1 l Z ar hw [] (0 : Int32) w_CS0 w_SF1 w_ADD w_ADD_symbol w_ADD_symbol_value w_DIVIDE w_SUBTRACT w_DIVIDE_symbol w_DIVIDE_symbol_value w_MULTIPLY w_MULTIPLY_symbol w_MULTIPLY_symbol_value w_SUBTRACT_symbol w_SUBTRACT_symbol_value k_ADD_symbol_value k_DIVIDE_symbol_value k_MULTIPLY_symbol_value k_SUBTRACT_symbol_value h0 n0 O0 HW) hZ (ow hw 3 rfl) (ow hw 2 rfl) (by decide) (by decide)) (g := (mkF m 5 #[iv p0, iv (0 : Int32), un, un, un, un, un] [(.int (0 : Int32))])) rfl (by rw [hml]; rfl) (argsL := [(.int (0 : Int32))]) (rest := []) (lenOf pd_1 rfl) rfl (by show 2 * 0 + _ ≤ _; exact Nat.le_of_eq rfl) (hb hby at_5) (fun _ _ => ⟨rfl, e0, (by decide : 0 + 0 ≤ _), (by decide : 0 + 0 ≤ _)⟩)
  dsimp only [Pt.U, Pt.locs, Pt.cells, Pt.slots] at X3 l3 y3 z3 st3 hQ3
  subst l3 y3 z3
  obtain ⟨rfl, N3q, e3⟩ := hQ3
  have N3 := Fr.app N0 N3q
  have r3 : (f1 (0 : Int32) w_ADD w_DIVIDE w_SUBTRACT w_MULTIPLY) = w_ADD := by rw [f1, if_pos ((by decide) : (0 : Int32) = (0 : Int32))] <;> decide
  rw [r3] at st3
  obtain ⟨cq4, kq4, q4a, q4b, q4c⟩ := isOf hZ e3 (E_ADD.ext O0.2)
  obtain ⟨_, _, ⟨T4, L4, k4, n4⟩, -, X4, ⟨Lc4, hQ4, l4, y4, z4⟩, st4⟩ := X3.virtualBack hx (y := y2) (z := y2) hown (mvT hZ (ow hw 7 rfl)) (mvT hZ (ow hw 8 rfl)) (notFace_of_selects (args := #[]) (mvT hZ (ow hw 10 rfl))) (mvT hZ (ow hw 10 rfl)) (mvT hZ (ow hw 9 rfl)) (by decide) (backOf (W := 0) (rm2 l Z ar hw [] w_ADD w_CS0 w_SF1 w_ADD w_ADD_symbol w_ADD_symbol_value w_DIVIDE w_SUBTRACT w_DIVIDE_symbol w_DIVIDE_symbol_value w_MULTIPLY w_MULTIPLY_symbol w_MULTIPLY_symbol_value w_SUBTRACT_symbol w_SUBTRACT_symbol_value k_ADD_symbol_value k_DIVIDE_symbol_value k_MULTIPLY_symbol_value k_SUBTRACT_symbol_value h0 n0 O0 HW) hZ (ow hw 11 rfl) (ow hw 5 rfl) (by decide) (by decide)) q4a q4c (g := (mkF m 10 #[iv p0, iv (0 : Int32), rv w_ADD, un, un, un, un] [(.ref w_ADD)])) rfl (by rw [hml]; rfl) (Steps.refl _) (argsL := []) (rest := []) (lenOf pd_2 rfl) rfl (by show 2 * 0 + _ ≤ _; exact Nat.le_of_eq rfl) (hb hby at_10) (fun _ _ => ⟨rfl, e3, (by decide : 0 + 0 ≤ _), (by decide : 0 + 0 ≤ _)⟩)
  dsimp only [Pt.U, Pt.locs, Pt.cells, Pt.slots] at X4 l4 y4 z4 st4 hQ4
  subst l4 y4 z4
  obtain ⟨rfl, N4q, e4⟩ := hQ4
  have N4 := Fr.app N3 N4q
  have r4 : (f2 w_ADD w_ADD w_SUBTRACT) = (1 : Int32) := by rw [f2, if_pos (rfl : w_ADD = w_ADD)] <;> decide
  rw [r4] at st4
  obtain ⟨cq5, kq5, q5a, q5b, q5c⟩ := isOf hZ e4 (E_ADD.ext O0.2)
  obtain ⟨_, _, ⟨T5, L5, k5, n5⟩, -, X5, ⟨Lc5, hQ5, l5, y5, z5⟩, st5⟩ := X4.virtualBack hx (y := y3) (z := y3) hown (mvT hZ (ow hw 13 rfl)) (mvT hZ (ow hw 14 rfl)) (notFace_of_selects (args := #[]) (mvT hZ (ow hw 16 rfl))) (mvT hZ (ow hw 16 rfl)) (mvT hZ (ow hw 15 rfl)) (by decide) (backOf (W := 0) (rm3 l Z ar hw [] w_ADD w_ADD_symbol h0 n0 O0 (F_symbol_ADD.ext O0.2)) hZ (ow hw 17 rfl) (ow hw 5 rfl) (by decide) (by decide)) q5a q5c (g := (mkF m 15 #[iv p0, iv (0 : Int32), rv w_ADD, iv (1 : Int32), un, un, un] [(.ref w_ADD)])) rfl (by rw [hml]; rfl) (Steps.refl _) (argsL := []) (rest := []) (lenOf pd_3 rfl) rfl (by show 2 * 0 + _ ≤ _; exact Nat.le_of_eq rfl) (hb hby at_15) (fun _ _ => ⟨rfl, e4, (by decide : 0 + 0 ≤ _), (by decide : 0 + 0 ≤ _)⟩)
  dsimp only [Pt.U, Pt.locs, Pt.cells, Pt.slots] at X5 l5 y5 z5 st5 hQ5
  subst l5 y5 z5
  obtain ⟨rfl, N5q, e5⟩ := hQ5
  have N5 := Fr.app N4 N5q
  obtain ⟨a6, T6, h6, q6, b6, kb6, X6, e6, E6, hS, hk, hZ, hown, A6, C6, F6, V6, -, -, CRq6, Li6, Sx6, st6⟩ := ldcCH X5 hx hZ hown (ow hw 20 rfl) (own_sa hw) e5 hS hk hEL (List.mem_of_getElem? (i := 0) rfl) CR0.1 (vs := [(.int (43 : Int32))]) (z := (1 : Int32)) ⟨by decide, by decide⟩ (by decide) rfl (g := (mkF m 22 #[iv p0, iv (0 : Int32), rv w_ADD, iv (1 : Int32), rv w_ADD_symbol, un, un] [(.ref w_ADD_symbol)])) rfl (hb hby at_22) (n := 4) (by decide) (by decide) (by decide) (by decide)
  have K6 := (Keep.refl h0 []).ext E6
  have O6 : Old Z n0 h6 := O0.ext E6
  have CR6 : CHr Z EL0 s.vm h0 T6.vm h6 := CR0.trans CRq6
  obtain ⟨cq7, kq7, q7a, q7b, q7c⟩ := isOf hZ e6 (E_ADD_symbol.ext O6.2)
  obtain ⟨_, _, ⟨T7, L7, k7, n7⟩, -, X7, ⟨Lc7, hQ7, l7, y7, z7⟩, st7⟩ := X6.virtualBack hx (y := y4) (z := y4) hown (mvT hZ (ow hw 28 rfl)) (mvT hZ (ow hw 29 rfl)) (notFace_of_selects (args := #[]) (mvT hZ (ow hw 31 rfl))) (mvT hZ (ow hw 31 rfl)) (mvT hZ (ow hw 30 rfl)) (by decide) (backOf (W := 0) (rm4 l Z ar hw [] w_ADD_symbol a6 w_CS0 w_SF1 w_ADD w_ADD_symbol w_ADD_symbol_value w_DIVIDE w_SUBTRACT w_DIVIDE_symbol w_DIVIDE_symbol_value w_MULTIPLY w_MULTIPLY_symbol w_MULTIPLY_symbol_value w_SUBTRACT_symbol w_SUBTRACT_symbol_value k_ADD_symbol_value k_DIVIDE_symbol_value k_MULTIPLY_symbol_value k_SUBTRACT_symbol_value w_ADD_symbol_value b6 k_ADD_symbol_value kb6 (43 : Int32) (43 : Int32) h6 n0 O6 HW (E_ADD_symbol.ext O6.2) A6 (F_coder_ADD_symbol.ext O6.2) C6 (F_value_ADD_symbol.ext O6.2) F6 (V_ADD_symbol_value.ext O6.2) V6) hZ (ow hw 32 rfl) (ow hw 21 rfl) (by decide) (by decide)) q7a q7c (g := (mkF m 24 #[iv p0, iv (0 : Int32), rv w_ADD, iv (1 : Int32), rv w_ADD_symbol, un, un] [(.ref a6), (.ref w_ADD_symbol)])) rfl (by rw [hml]; rfl) (Steps.refl _) (argsL := [(.ref a6)]) (rest := []) (lenOf pd_4 rfl) rfl (by show 2 * 0 + _ ≤ _; exact Nat.le_of_eq rfl) (hb hby at_24) (fun _ _ => ⟨rfl, e6, (by decide : 2 + 0 ≤ _), (by decide : 8 + 0 ≤ _)⟩)
  dsimp only [Pt.U, Pt.locs, Pt.cells, Pt.slots] at X7 l7 y7 z7 st7 hQ7
  subst l7 y7 z7
  obtain ⟨rfl, N7q, e7⟩ := hQ7
  have N7 := Fr.app N5 N7q
  have r7 : (f4 w_ADD_symbol a6 (43 : Int32) (43 : Int32)) = (1 : Int32) := by unfold f4; rcases Decidable.em (w_ADD_symbol = a6) with hq | hq; (rw [if_pos hq]; (try (first | rfl | decide))); (rw [if_neg hq]; (try (rw [if_neg ((by rw [f5]; rw [if_pos ((by decide) : (43 : Int32) = (43 : Int32))]; (try decide)) : ¬ ((f5 (43 : Int32) (43 : Int32)) = (0 : Int32)))]; (try (first | rfl | decide)))))
  rw [r7] at st7
  obtain ⟨fs, hr, hrun, hended, hRE⟩ := X7.leaveW hS (by rw [e7]; exact hk) (v := some (.int (1 : Int32))) (fun h => by rw [Bd.returns] at h; cases h)
  have CRf : CHr Z EL0 s.vm s.heap (T7.setFrames fs).vm (T7.setFrames fs).heap := by
    show CHr Z EL0 s.vm s.heap T7.vm T7.heap
    rw [hh, e7]
    exact CR6.trans (CHv.at X7 hZ hEL CR6.1)
  subst hS0
  refine ⟨_, _, pre2 _ ?_, hrun, hended, _, _, rfl, ?_, CRf, hRE.1, hRE.2.1, hRE.2.2.1, hRE.2.2.2.mono (by decide) (by decide)⟩
  ·
   refine XS.iloadN X0.here hx rfl (hb hby at_4) rfl ?_
   show AT p e below s₁ m 5 #[iv p0, iv (0 : Int32), un, un, un, un, un] [(.int (0 : Int32))] _
   refine st3 _ ?_
   show AT p e below T3 m 8 #[iv p0, iv (0 : Int32), un, un, un, un, un] [(.ref w_ADD)] _
   refine XS.astoreN X3.here hx rfl (hb hby at_8) rfl rfl (l' := #[iv p0, iv (0 : Int32), rv w_ADD, un, un, un, un]) rfl ?_
   show AT p e below T3 m 9 #[iv p0, iv (0 : Int32), rv w_ADD, un, un, un, un] [] _
   refine XS.aloadN X3.here hx rfl (hb hby at_9) rfl rfl ?_
   show AT p e below T3 m 10 #[iv p0, iv (0 : Int32), rv w_ADD, un, un, un, un] [(.ref w_ADD)] _
   refine st4.trans ?_
   show AT p e below T4 m 13 #[iv p0, iv (0 : Int32), rv w_ADD, un, un, un, un] [(.int (1 : Int32))] _
   refine XS.istoreN X4.here hx rfl (hb hby at_13) rfl (l' := #[iv p0, iv (0 : Int32), rv w_ADD, iv (1 : Int32), un, un, un]) rfl ?_
   show AT p e below T4 m 14 #[iv p0, iv (0 : Int32), rv w_ADD, iv (1 : Int32), un, un, un] [] _
   refine XS.aloadN X4.here hx rfl (hb hby at_14) rfl rfl ?_
   show AT p e below T4 m 15 #[iv p0, iv (0 : Int32), rv w_ADD, iv (1 : Int32), un, un, un] [(.ref w_ADD)] _
   refine st5.trans ?_
   show AT p e below T5 m 18 #[iv p0, iv (0 : Int32), rv w_ADD, iv (1 : Int32), un, un, un] [(.ref w_ADD_symbol)] _
   refine XS.astore X5.here hx rfl (hb hby at_18) rfl rfl (l' := #[iv p0, iv (0 : Int32), rv w_ADD, iv (1 : Int32), rv w_ADD_symbol, un, un]) rfl ?_
   show AT p e below T5 m 20 #[iv p0, iv (0 : Int32), rv w_ADD, iv (1 : Int32), rv w_ADD_symbol, un, un] [] _
   refine XS.aload X5.here hx rfl (hb hby at_20) rfl rfl ?_
   show AT p e below T5 m 22 #[iv p0, iv (0 : Int32), rv w_ADD, iv (1 : Int32), rv w_ADD_symbol, un, un] [(.ref w_ADD_symbol)] _
   refine st6 _ ?_
   show AT p e below T6 m 24 #[iv p0, iv (0 : Int32), rv w_ADD, iv (1 : Int32), rv w_ADD_symbol, un, un] [(.ref a6), (.ref w_ADD_symbol)] _
   refine st7.trans ?_
   show AT p e below T7 m 27 #[iv p0, iv (0 : Int32), rv w_ADD, iv (1 : Int32), rv w_ADD_symbol, un, un] [(.int (1 : Int32))] _
   refine XS.ifYes X7.here hx rfl (pc0 := 27) (pc' := 40) rfl (hb hby at_27) rfl (XT.i0_ne_t ((by decide) : ¬ ((1 : Int32) = (0 : Int32)))) (by decide) (by decide) ?_
   show AT p e below T7 m 40 #[iv p0, iv (0 : Int32), rv w_ADD, iv (1 : Int32), rv w_ADD_symbol, un, un] [] _
   refine XS.iconst X7.here hx rfl (hb hby at_40) ?_
   show AT p e below T7 m 41 #[iv p0, iv (0 : Int32), rv w_ADD, iv (1 : Int32), rv w_ADD_symbol, un, un] [(.int (1 : Int32))] _
   refine XS.goto X7.here hx rfl (pc0 := 41) (pc' := 45) rfl (hb hby at_41) (by decide) (by decide) ?_
   show AT p e below T7 m 45 #[iv p0, iv (0 : Int32), rv w_ADD, iv (1 : Int32), rv w_ADD_symbol, un, un] [(.int (1 : Int32))] _
   refine XS.istore X7.here hx rfl (hb hby at_45) rfl (l' := #[iv p0, iv (0 : Int32), rv w_ADD, iv (1 : Int32), rv w_ADD_symbol, iv (1 : Int32), un]) rfl ?_
   show AT p e below T7 m 47 #[iv p0, iv (0 : Int32), rv w_ADD, iv (1 : Int32), rv w_ADD_symbol, iv (1 : Int32), un] [] _
   refine XS.iloadN X7.here hx rfl (hb hby at_47) rfl ?_
   show AT p e below T7 m 48 #[iv p0, iv (0 : Int32), rv w_ADD, iv (1 : Int32), rv w_ADD_symbol, iv (1 : Int32), un] [(.int (0 : Int32))] _
   refine XS.iconst X7.here hx rfl (hb hby at_48) ?_
   show AT p e below T7 m 49 #[iv p0, iv (0 : Int32), rv w_ADD, iv (1 : Int32), rv w_ADD_symbol, iv (1 : Int32), un] [(.int (2 : Int32)), (.int (0 : Int32))] _
   refine XS.icmpNo X7.here hx rfl (hb hby at_49) rfl (XT.ii_ge_f ((by decide) : (0 : Int32) < (2 : Int32))) ?_
   show AT p e below T7 m 52 #[iv p0, iv (0 : Int32), rv w_ADD, iv (1 : Int32), rv w_ADD_symbol, iv (1 : Int32), un] [] _
   refine XS.iconst X7.here hx rfl (hb hby at_52) ?_
   show AT p e below T7 m 53 #[iv p0, iv (0 : Int32), rv w_ADD, iv (1 : Int32), rv w_ADD_symbol, iv (1 : Int32), un] [(.int (1 : Int32))] _
   refine XS.goto X7.here hx rfl (pc0 := 53) (pc' := 57) rfl (hb hby at_53) (by decide) (by decide) ?_
   show AT p e below T7 m 57 #[iv p0, iv (0 : Int32), rv w_ADD, iv (1 : Int32), rv w_ADD_symbol, iv (1 : Int32), un] [(.int (1 : Int32))] _
   refine XS.istore X7.here hx rfl (hb hby at_57) rfl (l' := #[iv p0, iv (0 : Int32), rv w_ADD, iv (1 : Int32), rv w_ADD_symbol, iv (1 : Int32), iv (1 : Int32)]) rfl ?_
   show AT p e below T7 m 59 #[iv p0, iv (0 : Int32), rv w_ADD, iv (1 : Int32), rv w_ADD_symbol, iv (1 : Int32), iv (1 : Int32)] [] _
   refine XS.iloadN X7.here hx rfl (hb hby at_59) rfl ?_
   show AT p e below T7 m 60 #[iv p0, iv (0 : Int32), rv w_ADD, iv (1 : Int32), rv w_ADD_symbol, iv (1 : Int32), iv (1 : Int32)] [(.int (1 : Int32))] _
   refine XS.iload X7.here hx rfl (hb hby at_60) rfl ?_
   show AT p e below T7 m 62 #[iv p0, iv (0 : Int32), rv w_ADD, iv (1 : Int32), rv w_ADD_symbol, iv (1 : Int32), iv (1 : Int32)] [(.int (1 : Int32)), (.int (1 : Int32))] _
   refine XS.icmpNo X7.here hx rfl (hb hby at_62) rfl (XT.ii_ne_f ((by decide) : (1 : Int32) = (1 : Int32))) ?_
   show AT p e below T7 m 65 #[iv p0, iv (0 : Int32), rv w_ADD, iv (1 : Int32), rv w_ADD_symbol, iv (1 : Int32), iv (1 : Int32)] [] _
   refine XS.iloadN X7.here hx rfl (hb hby at_65) rfl ?_
   show AT p e below T7 m 66 #[iv p0, iv (0 : Int32), rv w_ADD, iv (1 : Int32), rv w_ADD_symbol, iv (1 : Int32), iv (1 : Int32)] [(.int (1 : Int32))] _
   refine XS.iload X7.here hx rfl (hb hby at_66) rfl ?_
   show AT p e below T7 m 68 #[iv p0, iv (0 : Int32), rv w_ADD, iv (1 : Int32), rv w_ADD_symbol, iv (1 : Int32), iv (1 : Int32)] [(.int (1 : Int32)), (.int (1 : Int32))] _
   refine XS.icmpNo X7.here hx rfl (hb hby at_68) rfl (XT.ii_ne_f ((by decide) : (1 : Int32) = (1 : Int32))) ?_
   show AT p e below T7 m 71 #[iv p0, iv (0 : Int32), rv w_ADD, iv (1 : Int32), rv w_ADD_symbol, iv (1 : Int32), iv (1 : Int32)] [] _
   refine XS.iconst X7.here hx rfl (hb hby at_71) ?_
   show AT p e below T7 m 72 #[iv p0, iv (0 : Int32), rv w_ADD, iv (1 : Int32), rv w_ADD_symbol, iv (1 : Int32), iv (1 : Int32)] [(.int (1 : Int32))] _
   refine XS.goto X7.here hx rfl (pc0 := 72) (pc' := 76) rfl (hb hby at_72) (by decide) (by decide) ?_
   show AT p e below T7 m 76 #[iv p0, iv (0 : Int32), rv w_ADD, iv (1 : Int32), rv w_ADD_symbol, iv (1 : Int32), iv (1 : Int32)] [(.int (1 : Int32))] _
   exact retN X7 hx (t := .boolean) Bd.returns (by simp) (hb hby at_76) hr
  ·
   show Q0 Z p0 w_CS0 w_SF1 w_ADD w_ADD_symbol w_ADD_symbol_value w_DIVIDE w_SUBTRACT w_DIVIDE_symbol w_DIVIDE_symbol_value w_MULTIPLY w_MULTIPLY_symbol w_MULTIPLY_symbol_value w_SUBTRACT_symbol w_SUBTRACT_symbol_value k_ADD_symbol_value k_DIVIDE_symbol_value k_MULTIPLY_symbol_value k_SUBTRACT_symbol_value h0 n0 _ T7.heap _
   rw [e7]
   exact ⟨rfl, N7⟩
 ·
  obtain ⟨_, _, ⟨T8, L8, k8, n8⟩, -, X8, ⟨Lc8, hQ8, l8, y8, z8⟩, st8⟩ := Jvm.LawKit.callS X0 hx (y := y1) hown (mvT hZ (ow hw 0 rfl)) (mvT hZ (ow hw 1 rfl)) (mvT hZ (ow hw 2 rfl)) (mvT hZ (ow hw 3 rfl)) (by decide) (backOf (W := 0) (rm1 l Z ar hw [] (1 : Int32) w_CS0 w_SF1 w_ADD w_ADD_symbol w_ADD_symbol_value w_DIVIDE w_SUBTRACT w_DIVIDE_symbol w_DIVIDE_symbol_value w_MULTIPLY w_MULTIPLY_symbol w_MULTIPLY_symbol_value w_SUBTRACT_symbol w_SUBTRACT_symbol_value k_ADD_symbol_value k_DIVIDE_symbol_value k_MULTIPLY_symbol_value k_SUBTRACT_symbol_value h0 n0 O0 HW) hZ (ow hw 3 rfl) (ow hw 2 rfl) (by decide) (by decide)) (g := (mkF m 5 #[iv p0, iv (1 : Int32), un, un, un, un, un] [(.int (1 : Int32))])) rfl (by rw [hml]; rfl) (argsL := [(.int (1 : Int32))]) (rest := []) (lenOf pd_1 rfl) rfl (by show 2 * 0 + _ ≤ _; exact Nat.le_of_eq rfl) (hb hby at_5) (fun _ _ => ⟨rfl, e0, (by decide : 0 + 0 ≤ _), (by decide : 0 + 0 ≤ _)⟩)
  dsimp only [Pt.U, Pt.locs, Pt.cells, Pt.slots] at X8 l8 y8 z8 st8 hQ8
  subst l8 y8 z8
  obtain ⟨rfl, N8q, e8⟩ := hQ8
  have N8 := Fr.app N0 N8q
  have r8 : (f1 (1 : Int32) w_ADD w_DIVIDE w_SUBTRACT w_MULTIPLY) = w_SUBTRACT := by rw [f1, if_neg ((by decide) : ¬ ((1 : Int32) = (0 : Int32))), if_pos ((by decide) : (1 : Int32) = (1 : Int32))] <;> decide
  rw [r8] at st8
  obtain ⟨cq9, kq9, q9a, q9b, q9c⟩ := isOf hZ e8 (E_SUBTRACT.ext O0.2)
  obtain ⟨_, _, ⟨T9, L9, k9, n9⟩, -, X9, ⟨Lc9, hQ9, l9, y9, z9⟩, st9⟩ := X8.virtualBack hx (y := y2) (z := y2) hown (mvT hZ (ow hw 7 rfl)) (mvT hZ (ow hw 8 rfl)) (notFace_of_selects (args := #[]) (mvT hZ (ow hw 10 rfl))) (mvT hZ (ow hw 10 rfl)) (mvT hZ (ow hw 9 rfl)) (by decide) (backOf (W := 0) (rm2 l Z ar hw [] w_SUBTRACT w_CS0 w_SF1 w_ADD w_ADD_symbol w_ADD_symbol_value w_DIVIDE w_SUBTRACT w_DIVIDE_symbol w_DIVIDE_symbol_value w_MULTIPLY w_MULTIPLY_symbol w_MULTIPLY_symbol_value w_SUBTRACT_symbol w_SUBTRACT_symbol_value k_ADD_symbol_value k_DIVIDE_symbol_value k_MULTIPLY_symbol_value k_SUBTRACT_symbol_value h0 n0 O0 HW) hZ (ow hw 11 rfl) (ow hw 5 rfl) (by decide) (by decide)) q9a q9c (g := (mkF m 10 #[iv p0, iv (1 : Int32), rv w_SUBTRACT, un, un, un, un] [(.ref w_SUBTRACT)])) rfl (by rw [hml]; rfl) (Steps.refl _) (argsL := []) (rest := []) (lenOf pd_2 rfl) rfl (by show 2 * 0 + _ ≤ _; exact Nat.le_of_eq rfl) (hb hby at_10) (fun _ _ => ⟨rfl, e8, (by decide : 0 + 0 ≤ _), (by decide : 0 + 0 ≤ _)⟩)
  dsimp only [Pt.U, Pt.locs, Pt.cells, Pt.slots] at X9 l9 y9 z9 st9 hQ9
  subst l9 y9 z9
  obtain ⟨rfl, N9q, e9⟩ := hQ9
  have N9 := Fr.app N8 N9q
  have r9 : (f2 w_SUBTRACT w_ADD w_SUBTRACT) = (1 : Int32) := by rw [f2, if_neg ((Fld.ne F_ordinal_SUBTRACT F_ordinal_ADD (by decide)) : ¬ (w_SUBTRACT = w_ADD)), if_pos (rfl : w_SUBTRACT = w_SUBTRACT)] <;> decide
  rw [r9] at st9
  obtain ⟨cq10, kq10, q10a, q10b, q10c⟩ := isOf hZ e9 (E_SUBTRACT.ext O0.2)
  obtain ⟨_, _, ⟨T10, L10, k10, n10⟩, -, X10, ⟨Lc10, hQ10, l10, y10, z10⟩, st10⟩ := X9.virtualBack hx (y := y3) (z := y3) hown (mvT hZ (ow hw 13 rfl)) (mvT hZ (ow hw 14 rfl)) (notFace_of_selects (args := #[]) (mvT hZ (ow hw 16 rfl))) (mvT hZ (ow hw 16 rfl)) (mvT hZ (ow hw 15 rfl)) (by decide) (backOf (W := 0) (rm3 l Z ar hw [] w_SUBTRACT w_SUBTRACT_symbol h0 n0 O0 (F_symbol_SUBTRACT.ext O0.2)) hZ (ow hw 17 rfl) (ow hw 5 rfl) (by decide) (by decide)) q10a q10c (g := (mkF m 15 #[iv p0, iv (1 : Int32), rv w_SUBTRACT, iv (1 : Int32), un, un, un] [(.ref w_SUBTRACT)])) rfl (by rw [hml]; rfl) (Steps.refl _) (argsL := []) (rest := []) (lenOf pd_3 rfl) rfl (by show 2 * 0 + _ ≤ _; exact Nat.le_of_eq rfl) (hb hby at_15) (fun _ _ => ⟨rfl, e9, (by decide : 0 + 0 ≤ _), (by decide : 0 + 0 ≤ _)⟩)
  dsimp only [Pt.U, Pt.locs, Pt.cells, Pt.slots] at X10 l10 y10 z10 st10 hQ10
  subst l10 y10 z10
  obtain ⟨rfl, N10q, e10⟩ := hQ10
  have N10 := Fr.app N9 N10q
  obtain ⟨a11, T11, h11, q11, b11, kb11, X11, e11, E11, hS, hk, hZ, hown, A11, C11, F11, V11, -, -, CRq11, Li11, Sx11, st11⟩ := ldcCH X10 hx hZ hown (ow hw 20 rfl) (own_sa hw) e10 hS hk hEL (List.mem_of_getElem? (i := 0) rfl) CR0.1 (vs := [(.int (43 : Int32))]) (z := (1 : Int32)) ⟨by decide, by decide⟩ (by decide) rfl (g := (mkF m 22 #[iv p0, iv (1 : Int32), rv w_SUBTRACT, iv (1 : Int32), rv w_SUBTRACT_symbol, un, un] [(.ref w_SUBTRACT_symbol)])) rfl (hb hby at_22) (n := 4) (by decide) (by decide) (by decide) (by decide)
  have K11 := (Keep.refl h0 []).ext E11
  have O11 : Old Z n0 h11 := O0.ext E11
  have CR11 : CHr Z EL0 s.vm h0 T11.vm h11 := CR0.trans CRq11
  obtain ⟨cq12, kq12, q12a, q12b, q12c⟩ := isOf hZ e11 (E_SUBTRACT_symbol.ext O11.2)
  obtain ⟨_, _, ⟨T12, L12, k12, n12⟩, -, X12, ⟨Lc12, hQ12, l12, y12, z12⟩, st12⟩ := X11.virtualBack hx (y := y4) (z := y4) hown (mvT hZ (ow hw 28 rfl)) (mvT hZ (ow hw 29 rfl)) (notFace_of_selects (args := #[]) (mvT hZ (ow hw 31 rfl))) (mvT hZ (ow hw 31 rfl)) (mvT hZ (ow hw 30 rfl)) (by decide) (backOf (W := 0) (rm4 l Z ar hw [] w_SUBTRACT_symbol a11 w_CS0 w_SF1 w_ADD w_ADD_symbol w_ADD_symbol_value w_DIVIDE w_SUBTRACT w_DIVIDE_symbol w_DIVIDE_symbol_value w_MULTIPLY w_MULTIPLY_symbol w_MULTIPLY_symbol_value w_SUBTRACT_symbol w_SUBTRACT_symbol_value k_ADD_symbol_value k_DIVIDE_symbol_value k_MULTIPLY_symbol_value k_SUBTRACT_symbol_value w_SUBTRACT_symbol_value b11 k_SUBTRACT_symbol_value kb11 (45 : Int32) (43 : Int32) h11 n0 O11 HW (E_SUBTRACT_symbol.ext O11.2) A11 (F_coder_SUBTRACT_symbol.ext O11.2) C11 (F_value_SUBTRACT_symbol.ext O11.2) F11 (V_SUBTRACT_symbol_value.ext O11.2) V11) hZ (ow hw 32 rfl) (ow hw 21 rfl) (by decide) (by decide)) q12a q12c (g := (mkF m 24 #[iv p0, iv (1 : Int32), rv w_SUBTRACT, iv (1 : Int32), rv w_SUBTRACT_symbol, un, un] [(.ref a11), (.ref w_SUBTRACT_symbol)])) rfl (by rw [hml]; rfl) (Steps.refl _) (argsL := [(.ref a11)]) (rest := []) (lenOf pd_4 rfl) rfl (by show 2 * 0 + _ ≤ _; exact Nat.le_of_eq rfl) (hb hby at_24) (fun _ _ => ⟨rfl, e11, (by decide : 2 + 0 ≤ _), (by decide : 8 + 0 ≤ _)⟩)
  dsimp only [Pt.U, Pt.locs, Pt.cells, Pt.slots] at X12 l12 y12 z12 st12 hQ12
  subst l12 y12 z12
  obtain ⟨rfl, N12q, e12⟩ := hQ12
  have N12 := Fr.app N10 N12q
  have r12 : (f4 w_SUBTRACT_symbol a11 (45 : Int32) (43 : Int32)) = (0 : Int32) := by rw [f4, if_neg ((own_neS (F_value_SUBTRACT_symbol.ext O11.2) (V_SUBTRACT_symbol_value.ext O11.2) F11 V11 (Or.inr ⟨0, by decide, by decide⟩)) : ¬ (w_SUBTRACT_symbol = a11)), if_pos ((by rw [f5]; rw [if_neg ((by decide) : ¬ ((45 : Int32) = (43 : Int32)))]; (try decide)) : (f5 (45 : Int32) (43 : Int32)) = (0 : Int32))] <;> decide
  rw [r12] at st12
  obtain ⟨a13, T13, h13, q13, b13, kb13, X13, e13, E13, hS, hk, hZ, hown, A13, C13, F13, V13, -, -, CRq13, Li13, Sx13, st13⟩ := ldcCH X12 hx hZ hown (ow hw 46 rfl) (own_sa hw) e12 hS hk hEL (List.mem_of_getElem? (i := 1) rfl) CR11.1 (vs := [(.int (45 : Int32))]) (z := (1 : Int32)) ⟨by decide, by decide⟩ (by decide) rfl (g := (mkF m 32 #[iv p0, iv (1 : Int32), rv w_SUBTRACT, iv (1 : Int32), rv w_SUBTRACT_symbol, un, un] [(.ref w_SUBTRACT_symbol)])) rfl (hb hby at_32) (n := 4) (by decide) (by decide) (by decide) (by decide)
  have E13_14 := A11.ext E13
  have F13_15 := C11.ext E13
  have F13_16 := F11.ext E13
  have V13_17 := V11.ext E13
  have K13 := K11.ext E13
  have O13 : Old Z n0 h13 := O11.ext E13
  have CR13 : CHr Z EL0 s.vm h0 T13.vm h13 := CR11.trans CRq13
  obtain ⟨cq18, kq18, q18a, q18b, q18c⟩ := isOf hZ e13 (E_SUBTRACT_symbol.ext O13.2)
  obtain ⟨_, _, ⟨T18, L18, k18, n18⟩, -, X18, ⟨Lc18, hQ18, l18, y18, z18⟩, st18⟩ := X13.virtualBack hx (y := y4) (z := y4) hown (mvT hZ (ow hw 28 rfl)) (mvT hZ (ow hw 29 rfl)) (notFace_of_selects (args := #[]) (mvT hZ (ow hw 31 rfl))) (mvT hZ (ow hw 31 rfl)) (mvT hZ (ow hw 30 rfl)) (by decide) (backOf (W := 0) (rm4 l Z ar hw [] w_SUBTRACT_symbol a13 w_CS0 w_SF1 w_ADD w_ADD_symbol w_ADD_symbol_value w_DIVIDE w_SUBTRACT w_DIVIDE_symbol w_DIVIDE_symbol_value w_MULTIPLY w_MULTIPLY_symbol w_MULTIPLY_symbol_value w_SUBTRACT_symbol w_SUBTRACT_symbol_value k_ADD_symbol_value k_DIVIDE_symbol_value k_MULTIPLY_symbol_value k_SUBTRACT_symbol_value w_SUBTRACT_symbol_value b13 k_SUBTRACT_symbol_value kb13 (45 : Int32) (45 : Int32) h13 n0 O13 HW (E_SUBTRACT_symbol.ext O13.2) A13 (F_coder_SUBTRACT_symbol.ext O13.2) C13 (F_value_SUBTRACT_symbol.ext O13.2) F13 (V_SUBTRACT_symbol_value.ext O13.2) V13) hZ (ow hw 32 rfl) (ow hw 21 rfl) (by decide) (by decide)) q18a q18c (g := (mkF m 34 #[iv p0, iv (1 : Int32), rv w_SUBTRACT, iv (1 : Int32), rv w_SUBTRACT_symbol, un, un] [(.ref a13), (.ref w_SUBTRACT_symbol)])) rfl (by rw [hml]; rfl) (Steps.refl _) (argsL := [(.ref a13)]) (rest := []) (lenOf pd_4 rfl) rfl (by show 2 * 0 + _ ≤ _; exact Nat.le_of_eq rfl) (hb hby at_34) (fun _ _ => ⟨rfl, e13, (by decide : 4 + 0 ≤ _), (by decide : 16 + 0 ≤ _)⟩)
  dsimp only [Pt.U, Pt.locs, Pt.cells, Pt.slots] at X18 l18 y18 z18 st18 hQ18
  subst l18 y18 z18
  obtain ⟨rfl, N18q, e18⟩ := hQ18
  have N18 := Fr.app N12 N18q
  have r18 : (f4 w_SUBTRACT_symbol a13 (45 : Int32) (45 : Int32)) = (1 : Int32) := by unfold f4; rcases Decidable.em (w_SUBTRACT_symbol = a13) with hq | hq; (rw [if_pos hq]; (try (first | rfl | decide))); (rw [if_neg hq]; (try (rw [if_neg ((by rw [f5]; rw [if_pos ((by decide) : (45 : Int32) = (45 : Int32))]; (try decide)) : ¬ ((f5 (45 : Int32) (45 : Int32)) = (0 : Int32)))]; (try (first | rfl | decide)))))
  rw [r18] at st18
  obtain ⟨fs, hr, hrun, hended, hRE⟩ := X18.leaveW hS (by rw [e18]; exact hk) (v := some (.int (1 : Int32))) (fun h => by rw [Bd.returns] at h; cases h)
  have CRf : CHr Z EL0 s.vm s.heap (T18.setFrames fs).vm (T18.setFrames fs).heap := by
    show CHr Z EL0 s.vm s.heap T18.vm T18.heap
    rw [hh, e18]
    exact CR13.trans (CHv.at X18 hZ hEL CR13.1)
  subst hS0
  refine ⟨_, _, pre2 _ ?_, hrun, hended, _, _, rfl, ?_, CRf, hRE.1, hRE.2.1, hRE.2.2.1, hRE.2.2.2.mono (by decide) (by decide)⟩
  ·
   refine XS.iloadN X0.here hx rfl (hb hby at_4) rfl ?_
   show AT p e below s₁ m 5 #[iv p0, iv (1 : Int32), un, un, un, un, un] [(.int (1 : Int32))] _
   refine st8 _ ?_
   show AT p e below T8 m 8 #[iv p0, iv (1 : Int32), un, un, un, un, un] [(.ref w_SUBTRACT)] _
   refine XS.astoreN X8.here hx rfl (hb hby at_8) rfl rfl (l' := #[iv p0, iv (1 : Int32), rv w_SUBTRACT, un, un, un, un]) rfl ?_
   show AT p e below T8 m 9 #[iv p0, iv (1 : Int32), rv w_SUBTRACT, un, un, un, un] [] _
   refine XS.aloadN X8.here hx rfl (hb hby at_9) rfl rfl ?_
   show AT p e below T8 m 10 #[iv p0, iv (1 : Int32), rv w_SUBTRACT, un, un, un, un] [(.ref w_SUBTRACT)] _
   refine st9.trans ?_
   show AT p e below T9 m 13 #[iv p0, iv (1 : Int32), rv w_SUBTRACT, un, un, un, un] [(.int (1 : Int32))] _
   refine XS.istoreN X9.here hx rfl (hb hby at_13) rfl (l' := #[iv p0, iv (1 : Int32), rv w_SUBTRACT, iv (1 : Int32), un, un, un]) rfl ?_
   show AT p e below T9 m 14 #[iv p0, iv (1 : Int32), rv w_SUBTRACT, iv (1 : Int32), un, un, un] [] _
   refine XS.aloadN X9.here hx rfl (hb hby at_14) rfl rfl ?_
   show AT p e below T9 m 15 #[iv p0, iv (1 : Int32), rv w_SUBTRACT, iv (1 : Int32), un, un, un] [(.ref w_SUBTRACT)] _
   refine st10.trans ?_
   show AT p e below T10 m 18 #[iv p0, iv (1 : Int32), rv w_SUBTRACT, iv (1 : Int32), un, un, un] [(.ref w_SUBTRACT_symbol)] _
   refine XS.astore X10.here hx rfl (hb hby at_18) rfl rfl (l' := #[iv p0, iv (1 : Int32), rv w_SUBTRACT, iv (1 : Int32), rv w_SUBTRACT_symbol, un, un]) rfl ?_
   show AT p e below T10 m 20 #[iv p0, iv (1 : Int32), rv w_SUBTRACT, iv (1 : Int32), rv w_SUBTRACT_symbol, un, un] [] _
   refine XS.aload X10.here hx rfl (hb hby at_20) rfl rfl ?_
   show AT p e below T10 m 22 #[iv p0, iv (1 : Int32), rv w_SUBTRACT, iv (1 : Int32), rv w_SUBTRACT_symbol, un, un] [(.ref w_SUBTRACT_symbol)] _
   refine st11 _ ?_
   show AT p e below T11 m 24 #[iv p0, iv (1 : Int32), rv w_SUBTRACT, iv (1 : Int32), rv w_SUBTRACT_symbol, un, un] [(.ref a11), (.ref w_SUBTRACT_symbol)] _
   refine st12.trans ?_
   show AT p e below T12 m 27 #[iv p0, iv (1 : Int32), rv w_SUBTRACT, iv (1 : Int32), rv w_SUBTRACT_symbol, un, un] [(.int (0 : Int32))] _
   refine XS.ifNo X12.here hx rfl (hb hby at_27) rfl (XT.i0_ne_f ((by decide) : (0 : Int32) = (0 : Int32))) ?_
   show AT p e below T12 m 30 #[iv p0, iv (1 : Int32), rv w_SUBTRACT, iv (1 : Int32), rv w_SUBTRACT_symbol, un, un] [] _
   refine XS.aload X12.here hx rfl (hb hby at_30) rfl rfl ?_
   show AT p e below T12 m 32 #[iv p0, iv (1 : Int32), rv w_SUBTRACT, iv (1 : Int32), rv w_SUBTRACT_symbol, un, un] [(.ref w_SUBTRACT_symbol)] _
   refine st13 _ ?_
   show AT p e below T13 m 34 #[iv p0, iv (1 : Int32), rv w_SUBTRACT, iv (1 : Int32), rv w_SUBTRACT_symbol, un, un] [(.ref a13), (.ref w_SUBTRACT_symbol)] _
   refine st18.trans ?_
   show AT p e below T18 m 37 #[iv p0, iv (1 : Int32), rv w_SUBTRACT, iv (1 : Int32), rv w_SUBTRACT_symbol, un, un] [(.int (1 : Int32))] _
   refine XS.ifNo X18.here hx rfl (hb hby at_37) rfl (XT.i0_eq_f ((by decide) : ¬ ((1 : Int32) = (0 : Int32)))) ?_
   show AT p e below T18 m 40 #[iv p0, iv (1 : Int32), rv w_SUBTRACT, iv (1 : Int32), rv w_SUBTRACT_symbol, un, un] [] _
   refine XS.iconst X18.here hx rfl (hb hby at_40) ?_
   show AT p e below T18 m 41 #[iv p0, iv (1 : Int32), rv w_SUBTRACT, iv (1 : Int32), rv w_SUBTRACT_symbol, un, un] [(.int (1 : Int32))] _
   refine XS.goto X18.here hx rfl (pc0 := 41) (pc' := 45) rfl (hb hby at_41) (by decide) (by decide) ?_
   show AT p e below T18 m 45 #[iv p0, iv (1 : Int32), rv w_SUBTRACT, iv (1 : Int32), rv w_SUBTRACT_symbol, un, un] [(.int (1 : Int32))] _
   refine XS.istore X18.here hx rfl (hb hby at_45) rfl (l' := #[iv p0, iv (1 : Int32), rv w_SUBTRACT, iv (1 : Int32), rv w_SUBTRACT_symbol, iv (1 : Int32), un]) rfl ?_
   show AT p e below T18 m 47 #[iv p0, iv (1 : Int32), rv w_SUBTRACT, iv (1 : Int32), rv w_SUBTRACT_symbol, iv (1 : Int32), un] [] _
   refine XS.iloadN X18.here hx rfl (hb hby at_47) rfl ?_
   show AT p e below T18 m 48 #[iv p0, iv (1 : Int32), rv w_SUBTRACT, iv (1 : Int32), rv w_SUBTRACT_symbol, iv (1 : Int32), un] [(.int (1 : Int32))] _
   refine XS.iconst X18.here hx rfl (hb hby at_48) ?_
   show AT p e below T18 m 49 #[iv p0, iv (1 : Int32), rv w_SUBTRACT, iv (1 : Int32), rv w_SUBTRACT_symbol, iv (1 : Int32), un] [(.int (2 : Int32)), (.int (1 : Int32))] _
   refine XS.icmpNo X18.here hx rfl (hb hby at_49) rfl (XT.ii_ge_f ((by decide) : (1 : Int32) < (2 : Int32))) ?_
   show AT p e below T18 m 52 #[iv p0, iv (1 : Int32), rv w_SUBTRACT, iv (1 : Int32), rv w_SUBTRACT_symbol, iv (1 : Int32), un] [] _
   refine XS.iconst X18.here hx rfl (hb hby at_52) ?_
   show AT p e below T18 m 53 #[iv p0, iv (1 : Int32), rv w_SUBTRACT, iv (1 : Int32), rv w_SUBTRACT_symbol, iv (1 : Int32), un] [(.int (1 : Int32))] _
   refine XS.goto X18.here hx rfl (pc0 := 53) (pc' := 57) rfl (hb hby at_53) (by decide) (by decide) ?_
   show AT p e below T18 m 57 #[iv p0, iv (1 : Int32), rv w_SUBTRACT, iv (1 : Int32), rv w_SUBTRACT_symbol, iv (1 : Int32), un] [(.int (1 : Int32))] _
   refine XS.istore X18.here hx rfl (hb hby at_57) rfl (l' := #[iv p0, iv (1 : Int32), rv w_SUBTRACT, iv (1 : Int32), rv w_SUBTRACT_symbol, iv (1 : Int32), iv (1 : Int32)]) rfl ?_
   show AT p e below T18 m 59 #[iv p0, iv (1 : Int32), rv w_SUBTRACT, iv (1 : Int32), rv w_SUBTRACT_symbol, iv (1 : Int32), iv (1 : Int32)] [] _
   refine XS.iloadN X18.here hx rfl (hb hby at_59) rfl ?_
   show AT p e below T18 m 60 #[iv p0, iv (1 : Int32), rv w_SUBTRACT, iv (1 : Int32), rv w_SUBTRACT_symbol, iv (1 : Int32), iv (1 : Int32)] [(.int (1 : Int32))] _
   refine XS.iload X18.here hx rfl (hb hby at_60) rfl ?_
   show AT p e below T18 m 62 #[iv p0, iv (1 : Int32), rv w_SUBTRACT, iv (1 : Int32), rv w_SUBTRACT_symbol, iv (1 : Int32), iv (1 : Int32)] [(.int (1 : Int32)), (.int (1 : Int32))] _
   refine XS.icmpNo X18.here hx rfl (hb hby at_62) rfl (XT.ii_ne_f ((by decide) : (1 : Int32) = (1 : Int32))) ?_
   show AT p e below T18 m 65 #[iv p0, iv (1 : Int32), rv w_SUBTRACT, iv (1 : Int32), rv w_SUBTRACT_symbol, iv (1 : Int32), iv (1 : Int32)] [] _
   refine XS.iloadN X18.here hx rfl (hb hby at_65) rfl ?_
   show AT p e below T18 m 66 #[iv p0, iv (1 : Int32), rv w_SUBTRACT, iv (1 : Int32), rv w_SUBTRACT_symbol, iv (1 : Int32), iv (1 : Int32)] [(.int (1 : Int32))] _
   refine XS.iload X18.here hx rfl (hb hby at_66) rfl ?_
   show AT p e below T18 m 68 #[iv p0, iv (1 : Int32), rv w_SUBTRACT, iv (1 : Int32), rv w_SUBTRACT_symbol, iv (1 : Int32), iv (1 : Int32)] [(.int (1 : Int32)), (.int (1 : Int32))] _
   refine XS.icmpNo X18.here hx rfl (hb hby at_68) rfl (XT.ii_ne_f ((by decide) : (1 : Int32) = (1 : Int32))) ?_
   show AT p e below T18 m 71 #[iv p0, iv (1 : Int32), rv w_SUBTRACT, iv (1 : Int32), rv w_SUBTRACT_symbol, iv (1 : Int32), iv (1 : Int32)] [] _
   refine XS.iconst X18.here hx rfl (hb hby at_71) ?_
   show AT p e below T18 m 72 #[iv p0, iv (1 : Int32), rv w_SUBTRACT, iv (1 : Int32), rv w_SUBTRACT_symbol, iv (1 : Int32), iv (1 : Int32)] [(.int (1 : Int32))] _
   refine XS.goto X18.here hx rfl (pc0 := 72) (pc' := 76) rfl (hb hby at_72) (by decide) (by decide) ?_
   show AT p e below T18 m 76 #[iv p0, iv (1 : Int32), rv w_SUBTRACT, iv (1 : Int32), rv w_SUBTRACT_symbol, iv (1 : Int32), iv (1 : Int32)] [(.int (1 : Int32))] _
   exact retN X18 hx (t := .boolean) Bd.returns (by simp) (hb hby at_76) hr
  ·
   show Q0 Z p0 w_CS0 w_SF1 w_ADD w_ADD_symbol w_ADD_symbol_value w_DIVIDE w_SUBTRACT w_DIVIDE_symbol w_DIVIDE_symbol_value w_MULTIPLY w_MULTIPLY_symbol w_MULTIPLY_symbol_value w_SUBTRACT_symbol w_SUBTRACT_symbol_value k_ADD_symbol_value k_DIVIDE_symbol_value k_MULTIPLY_symbol_value k_SUBTRACT_symbol_value h0 n0 _ T18.heap _
   rw [e18]
   exact ⟨rfl, N18⟩
 ·
  obtain ⟨_, _, ⟨T19, L19, k19, n19⟩, -, X19, ⟨Lc19, hQ19, l19, y19, z19⟩, st19⟩ := Jvm.LawKit.callS X0 hx (y := y1) hown (mvT hZ (ow hw 0 rfl)) (mvT hZ (ow hw 1 rfl)) (mvT hZ (ow hw 2 rfl)) (mvT hZ (ow hw 3 rfl)) (by decide) (backOf (W := 0) (rm1 l Z ar hw [] (2 : Int32) w_CS0 w_SF1 w_ADD w_ADD_symbol w_ADD_symbol_value w_DIVIDE w_SUBTRACT w_DIVIDE_symbol w_DIVIDE_symbol_value w_MULTIPLY w_MULTIPLY_symbol w_MULTIPLY_symbol_value w_SUBTRACT_symbol w_SUBTRACT_symbol_value k_ADD_symbol_value k_DIVIDE_symbol_value k_MULTIPLY_symbol_value k_SUBTRACT_symbol_value h0 n0 O0 HW) hZ (ow hw 3 rfl) (ow hw 2 rfl) (by decide) (by decide)) (g := (mkF m 5 #[iv p0, iv (2 : Int32), un, un, un, un, un] [(.int (2 : Int32))])) rfl (by rw [hml]; rfl) (argsL := [(.int (2 : Int32))]) (rest := []) (lenOf pd_1 rfl) rfl (by show 2 * 0 + _ ≤ _; exact Nat.le_of_eq rfl) (hb hby at_5) (fun _ _ => ⟨rfl, e0, (by decide : 0 + 0 ≤ _), (by decide : 0 + 0 ≤ _)⟩)
  dsimp only [Pt.U, Pt.locs, Pt.cells, Pt.slots] at X19 l19 y19 z19 st19 hQ19
  subst l19 y19 z19
  obtain ⟨rfl, N19q, e19⟩ := hQ19
  have N19 := Fr.app N0 N19q
  have r19 : (f1 (2 : Int32) w_ADD w_DIVIDE w_SUBTRACT w_MULTIPLY) = w_MULTIPLY := by rw [f1, if_neg ((by decide) : ¬ ((2 : Int32) = (0 : Int32))), if_neg ((by decide) : ¬ ((2 : Int32) = (1 : Int32))), if_pos ((by decide) : (2 : Int32) = (2 : Int32))] <;> decide
  rw [r19] at st19
  obtain ⟨cq20, kq20, q20a, q20b, q20c⟩ := isOf hZ e19 (E_MULTIPLY.ext O0.2)
  obtain ⟨_, _, ⟨T20, L20, k20, n20⟩, -, X20, ⟨Lc20, hQ20, l20, y20, z20⟩, st20⟩ := X19.virtualBack hx (y := y2) (z := y2) hown (mvT hZ (ow hw 7 rfl)) (mvT hZ (ow hw 8 rfl)) (notFace_of_selects (args := #[]) (mvT hZ (ow hw 10 rfl))) (mvT hZ (ow hw 10 rfl)) (mvT hZ (ow hw 9 rfl)) (by decide) (backOf (W := 0) (rm2 l Z ar hw [] w_MULTIPLY w_CS0 w_SF1 w_ADD w_ADD_symbol w_ADD_symbol_value w_DIVIDE w_SUBTRACT w_DIVIDE_symbol w_DIVIDE_symbol_value w_MULTIPLY w_MULTIPLY_symbol w_MULTIPLY_symbol_value w_SUBTRACT_symbol w_SUBTRACT_symbol_value k_ADD_symbol_value k_DIVIDE_symbol_value k_MULTIPLY_symbol_value k_SUBTRACT_symbol_value h0 n0 O0 HW) hZ (ow hw 11 rfl) (ow hw 5 rfl) (by decide) (by decide)) q20a q20c (g := (mkF m 10 #[iv p0, iv (2 : Int32), rv w_MULTIPLY, un, un, un, un] [(.ref w_MULTIPLY)])) rfl (by rw [hml]; rfl) (Steps.refl _) (argsL := []) (rest := []) (lenOf pd_2 rfl) rfl (by show 2 * 0 + _ ≤ _; exact Nat.le_of_eq rfl) (hb hby at_10) (fun _ _ => ⟨rfl, e19, (by decide : 0 + 0 ≤ _), (by decide : 0 + 0 ≤ _)⟩)
  dsimp only [Pt.U, Pt.locs, Pt.cells, Pt.slots] at X20 l20 y20 z20 st20 hQ20
  subst l20 y20 z20
  obtain ⟨rfl, N20q, e20⟩ := hQ20
  have N20 := Fr.app N19 N20q
  have r20 : (f2 w_MULTIPLY w_ADD w_SUBTRACT) = (0 : Int32) := by rw [f2, if_neg ((Fld.ne F_ordinal_MULTIPLY F_ordinal_ADD (by decide)) : ¬ (w_MULTIPLY = w_ADD)), if_neg ((Fld.ne F_ordinal_MULTIPLY F_ordinal_SUBTRACT (by decide)) : ¬ (w_MULTIPLY = w_SUBTRACT))] <;> decide
  rw [r20] at st20
  obtain ⟨cq21, kq21, q21a, q21b, q21c⟩ := isOf hZ e20 (E_MULTIPLY.ext O0.2)
  obtain ⟨_, _, ⟨T21, L21, k21, n21⟩, -, X21, ⟨Lc21, hQ21, l21, y21, z21⟩, st21⟩ := X20.virtualBack hx (y := y3) (z := y3) hown (mvT hZ (ow hw 13 rfl)) (mvT hZ (ow hw 14 rfl)) (notFace_of_selects (args := #[]) (mvT hZ (ow hw 16 rfl))) (mvT hZ (ow hw 16 rfl)) (mvT hZ (ow hw 15 rfl)) (by decide) (backOf (W := 0) (rm3 l Z ar hw [] w_MULTIPLY w_MULTIPLY_symbol h0 n0 O0 (F_symbol_MULTIPLY.ext O0.2)) hZ (ow hw 17 rfl) (ow hw 5 rfl) (by decide) (by decide)) q21a q21c (g := (mkF m 15 #[iv p0, iv (2 : Int32), rv w_MULTIPLY, iv (0 : Int32), un, un, un] [(.ref w_MULTIPLY)])) rfl (by rw [hml]; rfl) (Steps.refl _) (argsL := []) (rest := []) (lenOf pd_3 rfl) rfl (by show 2 * 0 + _ ≤ _; exact Nat.le_of_eq rfl) (hb hby at_15) (fun _ _ => ⟨rfl, e20, (by decide : 0 + 0 ≤ _), (by decide : 0 + 0 ≤ _)⟩)
  dsimp only [Pt.U, Pt.locs, Pt.cells, Pt.slots] at X21 l21 y21 z21 st21 hQ21
  subst l21 y21 z21
  obtain ⟨rfl, N21q, e21⟩ := hQ21
  have N21 := Fr.app N20 N21q
  obtain ⟨a22, T22, h22, q22, b22, kb22, X22, e22, E22, hS, hk, hZ, hown, A22, C22, F22, V22, -, -, CRq22, Li22, Sx22, st22⟩ := ldcCH X21 hx hZ hown (ow hw 20 rfl) (own_sa hw) e21 hS hk hEL (List.mem_of_getElem? (i := 0) rfl) CR0.1 (vs := [(.int (43 : Int32))]) (z := (1 : Int32)) ⟨by decide, by decide⟩ (by decide) rfl (g := (mkF m 22 #[iv p0, iv (2 : Int32), rv w_MULTIPLY, iv (0 : Int32), rv w_MULTIPLY_symbol, un, un] [(.ref w_MULTIPLY_symbol)])) rfl (hb hby at_22) (n := 4) (by decide) (by decide) (by decide) (by decide)
  have K22 := (Keep.refl h0 []).ext E22
  have O22 : Old Z n0 h22 := O0.ext E22
  have CR22 : CHr Z EL0 s.vm h0 T22.vm h22 := CR0.trans CRq22
  obtain ⟨cq23, kq23, q23a, q23b, q23c⟩ := isOf hZ e22 (E_MULTIPLY_symbol.ext O22.2)
  obtain ⟨_, _, ⟨T23, L23, k23, n23⟩, -, X23, ⟨Lc23, hQ23, l23, y23, z23⟩, st23⟩ := X22.virtualBack hx (y := y4) (z := y4) hown (mvT hZ (ow hw 28 rfl)) (mvT hZ (ow hw 29 rfl)) (notFace_of_selects (args := #[]) (mvT hZ (ow hw 31 rfl))) (mvT hZ (ow hw 31 rfl)) (mvT hZ (ow hw 30 rfl)) (by decide) (backOf (W := 0) (rm4 l Z ar hw [] w_MULTIPLY_symbol a22 w_CS0 w_SF1 w_ADD w_ADD_symbol w_ADD_symbol_value w_DIVIDE w_SUBTRACT w_DIVIDE_symbol w_DIVIDE_symbol_value w_MULTIPLY w_MULTIPLY_symbol w_MULTIPLY_symbol_value w_SUBTRACT_symbol w_SUBTRACT_symbol_value k_ADD_symbol_value k_DIVIDE_symbol_value k_MULTIPLY_symbol_value k_SUBTRACT_symbol_value w_MULTIPLY_symbol_value b22 k_MULTIPLY_symbol_value kb22 (42 : Int32) (43 : Int32) h22 n0 O22 HW (E_MULTIPLY_symbol.ext O22.2) A22 (F_coder_MULTIPLY_symbol.ext O22.2) C22 (F_value_MULTIPLY_symbol.ext O22.2) F22 (V_MULTIPLY_symbol_value.ext O22.2) V22) hZ (ow hw 32 rfl) (ow hw 21 rfl) (by decide) (by decide)) q23a q23c (g := (mkF m 24 #[iv p0, iv (2 : Int32), rv w_MULTIPLY, iv (0 : Int32), rv w_MULTIPLY_symbol, un, un] [(.ref a22), (.ref w_MULTIPLY_symbol)])) rfl (by rw [hml]; rfl) (Steps.refl _) (argsL := [(.ref a22)]) (rest := []) (lenOf pd_4 rfl) rfl (by show 2 * 0 + _ ≤ _; exact Nat.le_of_eq rfl) (hb hby at_24) (fun _ _ => ⟨rfl, e22, (by decide : 2 + 0 ≤ _), (by decide : 8 + 0 ≤ _)⟩)
  dsimp only [Pt.U, Pt.locs, Pt.cells, Pt.slots] at X23 l23 y23 z23 st23 hQ23
  subst l23 y23 z23
  obtain ⟨rfl, N23q, e23⟩ := hQ23
  have N23 := Fr.app N21 N23q
  have r23 : (f4 w_MULTIPLY_symbol a22 (42 : Int32) (43 : Int32)) = (0 : Int32) := by rw [f4, if_neg ((own_neS (F_value_MULTIPLY_symbol.ext O22.2) (V_MULTIPLY_symbol_value.ext O22.2) F22 V22 (Or.inr ⟨0, by decide, by decide⟩)) : ¬ (w_MULTIPLY_symbol = a22)), if_pos ((by rw [f5]; rw [if_neg ((by decide) : ¬ ((42 : Int32) = (43 : Int32)))]; (try decide)) : (f5 (42 : Int32) (43 : Int32)) = (0 : Int32))] <;> decide
  rw [r23] at st23
  obtain ⟨a24, T24, h24, q24, b24, kb24, X24, e24, E24, hS, hk, hZ, hown, A24, C24, F24, V24, -, -, CRq24, Li24, Sx24, st24⟩ := ldcCH X23 hx hZ hown (ow hw 46 rfl) (own_sa hw) e23 hS hk hEL (List.mem_of_getElem? (i := 1) rfl) CR22.1 (vs := [(.int (45 : Int32))]) (z := (1 : Int32)) ⟨by decide, by decide⟩ (by decide) rfl (g := (mkF m 32 #[iv p0, iv (2 : Int32), rv w_MULTIPLY, iv (0 : Int32), rv w_MULTIPLY_symbol, un, un] [(.ref w_MULTIPLY_symbol)])) rfl (hb hby at_32) (n := 4) (by decide) (by decide) (by decide) (by decide)
  have E24_25 := A22.ext E24
  have F24_26 := C22.ext E24
  have F24_27 := F22.ext E24
  have V24_28 := V22.ext E24
  have K24 := K22.ext E24
  have O24 : Old Z n0 h24 := O22.ext E24
  have CR24 : CHr Z EL0 s.vm h0 T24.vm h24 := CR22.trans CRq24
  obtain ⟨cq29, kq29, q29a, q29b, q29c⟩ := isOf hZ e24 (E_MULTIPLY_symbol.ext O24.2)
  obtain ⟨_, _, ⟨T29, L29, k29, n29⟩, -, X29, ⟨Lc29, hQ29, l29, y29, z29⟩, st29⟩ := X24.virtualBack hx (y := y4) (z := y4) hown (mvT hZ (ow hw 28 rfl)) (mvT hZ (ow hw 29 rfl)) (notFace_of_selects (args := #[]) (mvT hZ (ow hw 31 rfl))) (mvT hZ (ow hw 31 rfl)) (mvT hZ (ow hw 30 rfl)) (by decide) (backOf (W := 0) (rm4 l Z ar hw [] w_MULTIPLY_symbol a24 w_CS0 w_SF1 w_ADD w_ADD_symbol w_ADD_symbol_value w_DIVIDE w_SUBTRACT w_DIVIDE_symbol w_DIVIDE_symbol_value w_MULTIPLY w_MULTIPLY_symbol w_MULTIPLY_symbol_value w_SUBTRACT_symbol w_SUBTRACT_symbol_value k_ADD_symbol_value k_DIVIDE_symbol_value k_MULTIPLY_symbol_value k_SUBTRACT_symbol_value w_MULTIPLY_symbol_value b24 k_MULTIPLY_symbol_value kb24 (42 : Int32) (45 : Int32) h24 n0 O24 HW (E_MULTIPLY_symbol.ext O24.2) A24 (F_coder_MULTIPLY_symbol.ext O24.2) C24 (F_value_MULTIPLY_symbol.ext O24.2) F24 (V_MULTIPLY_symbol_value.ext O24.2) V24) hZ (ow hw 32 rfl) (ow hw 21 rfl) (by decide) (by decide)) q29a q29c (g := (mkF m 34 #[iv p0, iv (2 : Int32), rv w_MULTIPLY, iv (0 : Int32), rv w_MULTIPLY_symbol, un, un] [(.ref a24), (.ref w_MULTIPLY_symbol)])) rfl (by rw [hml]; rfl) (Steps.refl _) (argsL := [(.ref a24)]) (rest := []) (lenOf pd_4 rfl) rfl (by show 2 * 0 + _ ≤ _; exact Nat.le_of_eq rfl) (hb hby at_34) (fun _ _ => ⟨rfl, e24, (by decide : 4 + 0 ≤ _), (by decide : 16 + 0 ≤ _)⟩)
  dsimp only [Pt.U, Pt.locs, Pt.cells, Pt.slots] at X29 l29 y29 z29 st29 hQ29
  subst l29 y29 z29
  obtain ⟨rfl, N29q, e29⟩ := hQ29
  have N29 := Fr.app N23 N29q
  have r29 : (f4 w_MULTIPLY_symbol a24 (42 : Int32) (45 : Int32)) = (0 : Int32) := by rw [f4, if_neg ((own_neS (F_value_MULTIPLY_symbol.ext O24.2) (V_MULTIPLY_symbol_value.ext O24.2) F24 V24 (Or.inr ⟨0, by decide, by decide⟩)) : ¬ (w_MULTIPLY_symbol = a24)), if_pos ((by rw [f5]; rw [if_neg ((by decide) : ¬ ((42 : Int32) = (45 : Int32)))]; (try decide)) : (f5 (42 : Int32) (45 : Int32)) = (0 : Int32))] <;> decide
  rw [r29] at st29
  obtain ⟨fs, hr, hrun, hended, hRE⟩ := X29.leaveW hS (by rw [e29]; exact hk) (v := some (.int (1 : Int32))) (fun h => by rw [Bd.returns] at h; cases h)
  have CRf : CHr Z EL0 s.vm s.heap (T29.setFrames fs).vm (T29.setFrames fs).heap := by
    show CHr Z EL0 s.vm s.heap T29.vm T29.heap
    rw [hh, e29]
    exact CR24.trans (CHv.at X29 hZ hEL CR24.1)
  subst hS0
  refine ⟨_, _, pre2 _ ?_, hrun, hended, _, _, rfl, ?_, CRf, hRE.1, hRE.2.1, hRE.2.2.1, hRE.2.2.2.mono (by decide) (by decide)⟩
  ·
   refine XS.iloadN X0.here hx rfl (hb hby at_4) rfl ?_
   show AT p e below s₁ m 5 #[iv p0, iv (2 : Int32), un, un, un, un, un] [(.int (2 : Int32))] _
   refine st19 _ ?_
   show AT p e below T19 m 8 #[iv p0, iv (2 : Int32), un, un, un, un, un] [(.ref w_MULTIPLY)] _
   refine XS.astoreN X19.here hx rfl (hb hby at_8) rfl rfl (l' := #[iv p0, iv (2 : Int32), rv w_MULTIPLY, un, un, un, un]) rfl ?_
   show AT p e below T19 m 9 #[iv p0, iv (2 : Int32), rv w_MULTIPLY, un, un, un, un] [] _
   refine XS.aloadN X19.here hx rfl (hb hby at_9) rfl rfl ?_
   show AT p e below T19 m 10 #[iv p0, iv (2 : Int32), rv w_MULTIPLY, un, un, un, un] [(.ref w_MULTIPLY)] _
   refine st20.trans ?_
   show AT p e below T20 m 13 #[iv p0, iv (2 : Int32), rv w_MULTIPLY, un, un, un, un] [(.int (0 : Int32))] _
   refine XS.istoreN X20.here hx rfl (hb hby at_13) rfl (l' := #[iv p0, iv (2 : Int32), rv w_MULTIPLY, iv (0 : Int32), un, un, un]) rfl ?_
   show AT p e below T20 m 14 #[iv p0, iv (2 : Int32), rv w_MULTIPLY, iv (0 : Int32), un, un, un] [] _
   refine XS.aloadN X20.here hx rfl (hb hby at_14) rfl rfl ?_
   show AT p e below T20 m 15 #[iv p0, iv (2 : Int32), rv w_MULTIPLY, iv (0 : Int32), un, un, un] [(.ref w_MULTIPLY)] _
   refine st21.trans ?_
   show AT p e below T21 m 18 #[iv p0, iv (2 : Int32), rv w_MULTIPLY, iv (0 : Int32), un, un, un] [(.ref w_MULTIPLY_symbol)] _
   refine XS.astore X21.here hx rfl (hb hby at_18) rfl rfl (l' := #[iv p0, iv (2 : Int32), rv w_MULTIPLY, iv (0 : Int32), rv w_MULTIPLY_symbol, un, un]) rfl ?_
   show AT p e below T21 m 20 #[iv p0, iv (2 : Int32), rv w_MULTIPLY, iv (0 : Int32), rv w_MULTIPLY_symbol, un, un] [] _
   refine XS.aload X21.here hx rfl (hb hby at_20) rfl rfl ?_
   show AT p e below T21 m 22 #[iv p0, iv (2 : Int32), rv w_MULTIPLY, iv (0 : Int32), rv w_MULTIPLY_symbol, un, un] [(.ref w_MULTIPLY_symbol)] _
   refine st22 _ ?_
   show AT p e below T22 m 24 #[iv p0, iv (2 : Int32), rv w_MULTIPLY, iv (0 : Int32), rv w_MULTIPLY_symbol, un, un] [(.ref a22), (.ref w_MULTIPLY_symbol)] _
   refine st23.trans ?_
   show AT p e below T23 m 27 #[iv p0, iv (2 : Int32), rv w_MULTIPLY, iv (0 : Int32), rv w_MULTIPLY_symbol, un, un] [(.int (0 : Int32))] _
   refine XS.ifNo X23.here hx rfl (hb hby at_27) rfl (XT.i0_ne_f ((by decide) : (0 : Int32) = (0 : Int32))) ?_
   show AT p e below T23 m 30 #[iv p0, iv (2 : Int32), rv w_MULTIPLY, iv (0 : Int32), rv w_MULTIPLY_symbol, un, un] [] _
   refine XS.aload X23.here hx rfl (hb hby at_30) rfl rfl ?_
   show AT p e below T23 m 32 #[iv p0, iv (2 : Int32), rv w_MULTIPLY, iv (0 : Int32), rv w_MULTIPLY_symbol, un, un] [(.ref w_MULTIPLY_symbol)] _
   refine st24 _ ?_
   show AT p e below T24 m 34 #[iv p0, iv (2 : Int32), rv w_MULTIPLY, iv (0 : Int32), rv w_MULTIPLY_symbol, un, un] [(.ref a24), (.ref w_MULTIPLY_symbol)] _
   refine st29.trans ?_
   show AT p e below T29 m 37 #[iv p0, iv (2 : Int32), rv w_MULTIPLY, iv (0 : Int32), rv w_MULTIPLY_symbol, un, un] [(.int (0 : Int32))] _
   refine XS.ifYes X29.here hx rfl (pc0 := 37) (pc' := 44) rfl (hb hby at_37) rfl (XT.i0_eq_t ((by decide) : (0 : Int32) = (0 : Int32))) (by decide) (by decide) ?_
   show AT p e below T29 m 44 #[iv p0, iv (2 : Int32), rv w_MULTIPLY, iv (0 : Int32), rv w_MULTIPLY_symbol, un, un] [] _
   refine XS.iconst X29.here hx rfl (hb hby at_44) ?_
   show AT p e below T29 m 45 #[iv p0, iv (2 : Int32), rv w_MULTIPLY, iv (0 : Int32), rv w_MULTIPLY_symbol, un, un] [(.int (0 : Int32))] _
   refine XS.istore X29.here hx rfl (hb hby at_45) rfl (l' := #[iv p0, iv (2 : Int32), rv w_MULTIPLY, iv (0 : Int32), rv w_MULTIPLY_symbol, iv (0 : Int32), un]) rfl ?_
   show AT p e below T29 m 47 #[iv p0, iv (2 : Int32), rv w_MULTIPLY, iv (0 : Int32), rv w_MULTIPLY_symbol, iv (0 : Int32), un] [] _
   refine XS.iloadN X29.here hx rfl (hb hby at_47) rfl ?_
   show AT p e below T29 m 48 #[iv p0, iv (2 : Int32), rv w_MULTIPLY, iv (0 : Int32), rv w_MULTIPLY_symbol, iv (0 : Int32), un] [(.int (2 : Int32))] _
   refine XS.iconst X29.here hx rfl (hb hby at_48) ?_
   show AT p e below T29 m 49 #[iv p0, iv (2 : Int32), rv w_MULTIPLY, iv (0 : Int32), rv w_MULTIPLY_symbol, iv (0 : Int32), un] [(.int (2 : Int32)), (.int (2 : Int32))] _
   refine XS.icmpYes X29.here hx rfl (pc0 := 49) (pc' := 56) rfl (hb hby at_49) rfl (XT.ii_ge_t ((by decide) : ¬ ((2 : Int32) < (2 : Int32)))) (by decide) (by decide) ?_
   show AT p e below T29 m 56 #[iv p0, iv (2 : Int32), rv w_MULTIPLY, iv (0 : Int32), rv w_MULTIPLY_symbol, iv (0 : Int32), un] [] _
   refine XS.iconst X29.here hx rfl (hb hby at_56) ?_
   show AT p e below T29 m 57 #[iv p0, iv (2 : Int32), rv w_MULTIPLY, iv (0 : Int32), rv w_MULTIPLY_symbol, iv (0 : Int32), un] [(.int (0 : Int32))] _
   refine XS.istore X29.here hx rfl (hb hby at_57) rfl (l' := #[iv p0, iv (2 : Int32), rv w_MULTIPLY, iv (0 : Int32), rv w_MULTIPLY_symbol, iv (0 : Int32), iv (0 : Int32)]) rfl ?_
   show AT p e below T29 m 59 #[iv p0, iv (2 : Int32), rv w_MULTIPLY, iv (0 : Int32), rv w_MULTIPLY_symbol, iv (0 : Int32), iv (0 : Int32)] [] _
   refine XS.iloadN X29.here hx rfl (hb hby at_59) rfl ?_
   show AT p e below T29 m 60 #[iv p0, iv (2 : Int32), rv w_MULTIPLY, iv (0 : Int32), rv w_MULTIPLY_symbol, iv (0 : Int32), iv (0 : Int32)] [(.int (0 : Int32))] _
   refine XS.iload X29.here hx rfl (hb hby at_60) rfl ?_
   show AT p e below T29 m 62 #[iv p0, iv (2 : Int32), rv w_MULTIPLY, iv (0 : Int32), rv w_MULTIPLY_symbol, iv (0 : Int32), iv (0 : Int32)] [(.int (0 : Int32)), (.int (0 : Int32))] _
   refine XS.icmpNo X29.here hx rfl (hb hby at_62) rfl (XT.ii_ne_f ((by decide) : (0 : Int32) = (0 : Int32))) ?_
   show AT p e below T29 m 65 #[iv p0, iv (2 : Int32), rv w_MULTIPLY, iv (0 : Int32), rv w_MULTIPLY_symbol, iv (0 : Int32), iv (0 : Int32)] [] _
   refine XS.iloadN X29.here hx rfl (hb hby at_65) rfl ?_
   show AT p e below T29 m 66 #[iv p0, iv (2 : Int32), rv w_MULTIPLY, iv (0 : Int32), rv w_MULTIPLY_symbol, iv (0 : Int32), iv (0 : Int32)] [(.int (0 : Int32))] _
   refine XS.iload X29.here hx rfl (hb hby at_66) rfl ?_
   show AT p e below T29 m 68 #[iv p0, iv (2 : Int32), rv w_MULTIPLY, iv (0 : Int32), rv w_MULTIPLY_symbol, iv (0 : Int32), iv (0 : Int32)] [(.int (0 : Int32)), (.int (0 : Int32))] _
   refine XS.icmpNo X29.here hx rfl (hb hby at_68) rfl (XT.ii_ne_f ((by decide) : (0 : Int32) = (0 : Int32))) ?_
   show AT p e below T29 m 71 #[iv p0, iv (2 : Int32), rv w_MULTIPLY, iv (0 : Int32), rv w_MULTIPLY_symbol, iv (0 : Int32), iv (0 : Int32)] [] _
   refine XS.iconst X29.here hx rfl (hb hby at_71) ?_
   show AT p e below T29 m 72 #[iv p0, iv (2 : Int32), rv w_MULTIPLY, iv (0 : Int32), rv w_MULTIPLY_symbol, iv (0 : Int32), iv (0 : Int32)] [(.int (1 : Int32))] _
   refine XS.goto X29.here hx rfl (pc0 := 72) (pc' := 76) rfl (hb hby at_72) (by decide) (by decide) ?_
   show AT p e below T29 m 76 #[iv p0, iv (2 : Int32), rv w_MULTIPLY, iv (0 : Int32), rv w_MULTIPLY_symbol, iv (0 : Int32), iv (0 : Int32)] [(.int (1 : Int32))] _
   exact retN X29 hx (t := .boolean) Bd.returns (by simp) (hb hby at_76) hr
  ·
   show Q0 Z p0 w_CS0 w_SF1 w_ADD w_ADD_symbol w_ADD_symbol_value w_DIVIDE w_SUBTRACT w_DIVIDE_symbol w_DIVIDE_symbol_value w_MULTIPLY w_MULTIPLY_symbol w_MULTIPLY_symbol_value w_SUBTRACT_symbol w_SUBTRACT_symbol_value k_ADD_symbol_value k_DIVIDE_symbol_value k_MULTIPLY_symbol_value k_SUBTRACT_symbol_value h0 n0 _ T29.heap _
   rw [e29]
   exact ⟨rfl, N29⟩
 ·
  obtain ⟨_, _, ⟨T30, L30, k30, n30⟩, -, X30, ⟨Lc30, hQ30, l30, y30, z30⟩, st30⟩ := Jvm.LawKit.callS X0 hx (y := y1) hown (mvT hZ (ow hw 0 rfl)) (mvT hZ (ow hw 1 rfl)) (mvT hZ (ow hw 2 rfl)) (mvT hZ (ow hw 3 rfl)) (by decide) (backOf (W := 0) (rm1 l Z ar hw [] (3 : Int32) w_CS0 w_SF1 w_ADD w_ADD_symbol w_ADD_symbol_value w_DIVIDE w_SUBTRACT w_DIVIDE_symbol w_DIVIDE_symbol_value w_MULTIPLY w_MULTIPLY_symbol w_MULTIPLY_symbol_value w_SUBTRACT_symbol w_SUBTRACT_symbol_value k_ADD_symbol_value k_DIVIDE_symbol_value k_MULTIPLY_symbol_value k_SUBTRACT_symbol_value h0 n0 O0 HW) hZ (ow hw 3 rfl) (ow hw 2 rfl) (by decide) (by decide)) (g := (mkF m 5 #[iv p0, iv (3 : Int32), un, un, un, un, un] [(.int (3 : Int32))])) rfl (by rw [hml]; rfl) (argsL := [(.int (3 : Int32))]) (rest := []) (lenOf pd_1 rfl) rfl (by show 2 * 0 + _ ≤ _; exact Nat.le_of_eq rfl) (hb hby at_5) (fun _ _ => ⟨rfl, e0, (by decide : 0 + 0 ≤ _), (by decide : 0 + 0 ≤ _)⟩)
  dsimp only [Pt.U, Pt.locs, Pt.cells, Pt.slots] at X30 l30 y30 z30 st30 hQ30
  subst l30 y30 z30
  obtain ⟨rfl, N30q, e30⟩ := hQ30
  have N30 := Fr.app N0 N30q
  have r30 : (f1 (3 : Int32) w_ADD w_DIVIDE w_SUBTRACT w_MULTIPLY) = w_DIVIDE := by rw [f1, if_neg ((by decide) : ¬ ((3 : Int32) = (0 : Int32))), if_neg ((by decide) : ¬ ((3 : Int32) = (1 : Int32))), if_neg ((by decide) : ¬ ((3 : Int32) = (2 : Int32)))] <;> decide
  rw [r30] at st30
  obtain ⟨cq31, kq31, q31a, q31b, q31c⟩ := isOf hZ e30 (E_DIVIDE.ext O0.2)
  obtain ⟨_, _, ⟨T31, L31, k31, n31⟩, -, X31, ⟨Lc31, hQ31, l31, y31, z31⟩, st31⟩ := X30.virtualBack hx (y := y2) (z := y2) hown (mvT hZ (ow hw 7 rfl)) (mvT hZ (ow hw 8 rfl)) (notFace_of_selects (args := #[]) (mvT hZ (ow hw 10 rfl))) (mvT hZ (ow hw 10 rfl)) (mvT hZ (ow hw 9 rfl)) (by decide) (backOf (W := 0) (rm2 l Z ar hw [] w_DIVIDE w_CS0 w_SF1 w_ADD w_ADD_symbol w_ADD_symbol_value w_DIVIDE w_SUBTRACT w_DIVIDE_symbol w_DIVIDE_symbol_value w_MULTIPLY w_MULTIPLY_symbol w_MULTIPLY_symbol_value w_SUBTRACT_symbol w_SUBTRACT_symbol_value k_ADD_symbol_value k_DIVIDE_symbol_value k_MULTIPLY_symbol_value k_SUBTRACT_symbol_value h0 n0 O0 HW) hZ (ow hw 11 rfl) (ow hw 5 rfl) (by decide) (by decide)) q31a q31c (g := (mkF m 10 #[iv p0, iv (3 : Int32), rv w_DIVIDE, un, un, un, un] [(.ref w_DIVIDE)])) rfl (by rw [hml]; rfl) (Steps.refl _) (argsL := []) (rest := []) (lenOf pd_2 rfl) rfl (by show 2 * 0 + _ ≤ _; exact Nat.le_of_eq rfl) (hb hby at_10) (fun _ _ => ⟨rfl, e30, (by decide : 0 + 0 ≤ _), (by decide : 0 + 0 ≤ _)⟩)
  dsimp only [Pt.U, Pt.locs, Pt.cells, Pt.slots] at X31 l31 y31 z31 st31 hQ31
  subst l31 y31 z31
  obtain ⟨rfl, N31q, e31⟩ := hQ31
  have N31 := Fr.app N30 N31q
  have r31 : (f2 w_DIVIDE w_ADD w_SUBTRACT) = (0 : Int32) := by rw [f2, if_neg ((Fld.ne F_ordinal_DIVIDE F_ordinal_ADD (by decide)) : ¬ (w_DIVIDE = w_ADD)), if_neg ((Fld.ne F_ordinal_DIVIDE F_ordinal_SUBTRACT (by decide)) : ¬ (w_DIVIDE = w_SUBTRACT))] <;> decide
  rw [r31] at st31
  obtain ⟨cq32, kq32, q32a, q32b, q32c⟩ := isOf hZ e31 (E_DIVIDE.ext O0.2)
  obtain ⟨_, _, ⟨T32, L32, k32, n32⟩, -, X32, ⟨Lc32, hQ32, l32, y32, z32⟩, st32⟩ := X31.virtualBack hx (y := y3) (z := y3) hown (mvT hZ (ow hw 13 rfl)) (mvT hZ (ow hw 14 rfl)) (notFace_of_selects (args := #[]) (mvT hZ (ow hw 16 rfl))) (mvT hZ (ow hw 16 rfl)) (mvT hZ (ow hw 15 rfl)) (by decide) (backOf (W := 0) (rm3 l Z ar hw [] w_DIVIDE w_DIVIDE_symbol h0 n0 O0 (F_symbol_DIVIDE.ext O0.2)) hZ (ow hw 17 rfl) (ow hw 5 rfl) (by decide) (by decide)) q32a q32c (g := (mkF m 15 #[iv p0, iv (3 : Int32), rv w_DIVIDE, iv (0 : Int32), un, un, un] [(.ref w_DIVIDE)])) rfl (by rw [hml]; rfl) (Steps.refl _) (argsL := []) (rest := []) (lenOf pd_3 rfl) rfl (by show 2 * 0 + _ ≤ _; exact Nat.le_of_eq rfl) (hb hby at_15) (fun _ _ => ⟨rfl, e31, (by decide : 0 + 0 ≤ _), (by decide : 0 + 0 ≤ _)⟩)
  dsimp only [Pt.U, Pt.locs, Pt.cells, Pt.slots] at X32 l32 y32 z32 st32 hQ32
  subst l32 y32 z32
  obtain ⟨rfl, N32q, e32⟩ := hQ32
  have N32 := Fr.app N31 N32q
  obtain ⟨a33, T33, h33, q33, b33, kb33, X33, e33, E33, hS, hk, hZ, hown, A33, C33, F33, V33, -, -, CRq33, Li33, Sx33, st33⟩ := ldcCH X32 hx hZ hown (ow hw 20 rfl) (own_sa hw) e32 hS hk hEL (List.mem_of_getElem? (i := 0) rfl) CR0.1 (vs := [(.int (43 : Int32))]) (z := (1 : Int32)) ⟨by decide, by decide⟩ (by decide) rfl (g := (mkF m 22 #[iv p0, iv (3 : Int32), rv w_DIVIDE, iv (0 : Int32), rv w_DIVIDE_symbol, un, un] [(.ref w_DIVIDE_symbol)])) rfl (hb hby at_22) (n := 4) (by decide) (by decide) (by decide) (by decide)
  have K33 := (Keep.refl h0 []).ext E33
  have O33 : Old Z n0 h33 := O0.ext E33
  have CR33 : CHr Z EL0 s.vm h0 T33.vm h33 := CR0.trans CRq33
  obtain ⟨cq34, kq34, q34a, q34b, q34c⟩ := isOf hZ e33 (E_DIVIDE_symbol.ext O33.2)
  obtain ⟨_, _, ⟨T34, L34, k34, n34⟩, -, X34, ⟨Lc34, hQ34, l34, y34, z34⟩, st34⟩ := X33.virtualBack hx (y := y4) (z := y4) hown (mvT hZ (ow hw 28 rfl)) (mvT hZ (ow hw 29 rfl)) (notFace_of_selects (args := #[]) (mvT hZ (ow hw 31 rfl))) (mvT hZ (ow hw 31 rfl)) (mvT hZ (ow hw 30 rfl)) (by decide) (backOf (W := 0) (rm4 l Z ar hw [] w_DIVIDE_symbol a33 w_CS0 w_SF1 w_ADD w_ADD_symbol w_ADD_symbol_value w_DIVIDE w_SUBTRACT w_DIVIDE_symbol w_DIVIDE_symbol_value w_MULTIPLY w_MULTIPLY_symbol w_MULTIPLY_symbol_value w_SUBTRACT_symbol w_SUBTRACT_symbol_value k_ADD_symbol_value k_DIVIDE_symbol_value k_MULTIPLY_symbol_value k_SUBTRACT_symbol_value w_DIVIDE_symbol_value b33 k_DIVIDE_symbol_value kb33 (47 : Int32) (43 : Int32) h33 n0 O33 HW (E_DIVIDE_symbol.ext O33.2) A33 (F_coder_DIVIDE_symbol.ext O33.2) C33 (F_value_DIVIDE_symbol.ext O33.2) F33 (V_DIVIDE_symbol_value.ext O33.2) V33) hZ (ow hw 32 rfl) (ow hw 21 rfl) (by decide) (by decide)) q34a q34c (g := (mkF m 24 #[iv p0, iv (3 : Int32), rv w_DIVIDE, iv (0 : Int32), rv w_DIVIDE_symbol, un, un] [(.ref a33), (.ref w_DIVIDE_symbol)])) rfl (by rw [hml]; rfl) (Steps.refl _) (argsL := [(.ref a33)]) (rest := []) (lenOf pd_4 rfl) rfl (by show 2 * 0 + _ ≤ _; exact Nat.le_of_eq rfl) (hb hby at_24) (fun _ _ => ⟨rfl, e33, (by decide : 2 + 0 ≤ _), (by decide : 8 + 0 ≤ _)⟩)
  dsimp only [Pt.U, Pt.locs, Pt.cells, Pt.slots] at X34 l34 y34 z34 st34 hQ34
  subst l34 y34 z34
  obtain ⟨rfl, N34q, e34⟩ := hQ34
  have N34 := Fr.app N32 N34q
  have r34 : (f4 w_DIVIDE_symbol a33 (47 : Int32) (43 : Int32)) = (0 : Int32) := by rw [f4, if_neg ((own_neS (F_value_DIVIDE_symbol.ext O33.2) (V_DIVIDE_symbol_value.ext O33.2) F33 V33 (Or.inr ⟨0, by decide, by decide⟩)) : ¬ (w_DIVIDE_symbol = a33)), if_pos ((by rw [f5]; rw [if_neg ((by decide) : ¬ ((47 : Int32) = (43 : Int32)))]; (try decide)) : (f5 (47 : Int32) (43 : Int32)) = (0 : Int32))] <;> decide
  rw [r34] at st34
  obtain ⟨a35, T35, h35, q35, b35, kb35, X35, e35, E35, hS, hk, hZ, hown, A35, C35, F35, V35, -, -, CRq35, Li35, Sx35, st35⟩ := ldcCH X34 hx hZ hown (ow hw 46 rfl) (own_sa hw) e34 hS hk hEL (List.mem_of_getElem? (i := 1) rfl) CR33.1 (vs := [(.int (45 : Int32))]) (z := (1 : Int32)) ⟨by decide, by decide⟩ (by decide) rfl (g := (mkF m 32 #[iv p0, iv (3 : Int32), rv w_DIVIDE, iv (0 : Int32), rv w_DIVIDE_symbol, un, un] [(.ref w_DIVIDE_symbol)])) rfl (hb hby at_32) (n := 4) (by decide) (by decide) (by decide) (by decide)
  have E35_36 := A33.ext E35
  have F35_37 := C33.ext E35
  have F35_38 := F33.ext E35
  have V35_39 := V33.ext E35
  have K35 := K33.ext E35
  have O35 : Old Z n0 h35 := O33.ext E35
  have CR35 : CHr Z EL0 s.vm h0 T35.vm h35 := CR33.trans CRq35
  obtain ⟨cq40, kq40, q40a, q40b, q40c⟩ := isOf hZ e35 (E_DIVIDE_symbol.ext O35.2)
  obtain ⟨_, _, ⟨T40, L40, k40, n40⟩, -, X40, ⟨Lc40, hQ40, l40, y40, z40⟩, st40⟩ := X35.virtualBack hx (y := y4) (z := y4) hown (mvT hZ (ow hw 28 rfl)) (mvT hZ (ow hw 29 rfl)) (notFace_of_selects (args := #[]) (mvT hZ (ow hw 31 rfl))) (mvT hZ (ow hw 31 rfl)) (mvT hZ (ow hw 30 rfl)) (by decide) (backOf (W := 0) (rm4 l Z ar hw [] w_DIVIDE_symbol a35 w_CS0 w_SF1 w_ADD w_ADD_symbol w_ADD_symbol_value w_DIVIDE w_SUBTRACT w_DIVIDE_symbol w_DIVIDE_symbol_value w_MULTIPLY w_MULTIPLY_symbol w_MULTIPLY_symbol_value w_SUBTRACT_symbol w_SUBTRACT_symbol_value k_ADD_symbol_value k_DIVIDE_symbol_value k_MULTIPLY_symbol_value k_SUBTRACT_symbol_value w_DIVIDE_symbol_value b35 k_DIVIDE_symbol_value kb35 (47 : Int32) (45 : Int32) h35 n0 O35 HW (E_DIVIDE_symbol.ext O35.2) A35 (F_coder_DIVIDE_symbol.ext O35.2) C35 (F_value_DIVIDE_symbol.ext O35.2) F35 (V_DIVIDE_symbol_value.ext O35.2) V35) hZ (ow hw 32 rfl) (ow hw 21 rfl) (by decide) (by decide)) q40a q40c (g := (mkF m 34 #[iv p0, iv (3 : Int32), rv w_DIVIDE, iv (0 : Int32), rv w_DIVIDE_symbol, un, un] [(.ref a35), (.ref w_DIVIDE_symbol)])) rfl (by rw [hml]; rfl) (Steps.refl _) (argsL := [(.ref a35)]) (rest := []) (lenOf pd_4 rfl) rfl (by show 2 * 0 + _ ≤ _; exact Nat.le_of_eq rfl) (hb hby at_34) (fun _ _ => ⟨rfl, e35, (by decide : 4 + 0 ≤ _), (by decide : 16 + 0 ≤ _)⟩)
  dsimp only [Pt.U, Pt.locs, Pt.cells, Pt.slots] at X40 l40 y40 z40 st40 hQ40
  subst l40 y40 z40
  obtain ⟨rfl, N40q, e40⟩ := hQ40
  have N40 := Fr.app N34 N40q
  have r40 : (f4 w_DIVIDE_symbol a35 (47 : Int32) (45 : Int32)) = (0 : Int32) := by rw [f4, if_neg ((own_neS (F_value_DIVIDE_symbol.ext O35.2) (V_DIVIDE_symbol_value.ext O35.2) F35 V35 (Or.inr ⟨0, by decide, by decide⟩)) : ¬ (w_DIVIDE_symbol = a35)), if_pos ((by rw [f5]; rw [if_neg ((by decide) : ¬ ((47 : Int32) = (45 : Int32)))]; (try decide)) : (f5 (47 : Int32) (45 : Int32)) = (0 : Int32))] <;> decide
  rw [r40] at st40
  obtain ⟨fs, hr, hrun, hended, hRE⟩ := X40.leaveW hS (by rw [e40]; exact hk) (v := some (.int (1 : Int32))) (fun h => by rw [Bd.returns] at h; cases h)
  have CRf : CHr Z EL0 s.vm s.heap (T40.setFrames fs).vm (T40.setFrames fs).heap := by
    show CHr Z EL0 s.vm s.heap T40.vm T40.heap
    rw [hh, e40]
    exact CR35.trans (CHv.at X40 hZ hEL CR35.1)
  subst hS0
  refine ⟨_, _, pre2 _ ?_, hrun, hended, _, _, rfl, ?_, CRf, hRE.1, hRE.2.1, hRE.2.2.1, hRE.2.2.2.mono (by decide) (by decide)⟩
  ·
   refine XS.iloadN X0.here hx rfl (hb hby at_4) rfl ?_
   show AT p e below s₁ m 5 #[iv p0, iv (3 : Int32), un, un, un, un, un] [(.int (3 : Int32))] _
   refine st30 _ ?_
   show AT p e below T30 m 8 #[iv p0, iv (3 : Int32), un, un, un, un, un] [(.ref w_DIVIDE)] _
   refine XS.astoreN X30.here hx rfl (hb hby at_8) rfl rfl (l' := #[iv p0, iv (3 : Int32), rv w_DIVIDE, un, un, un, un]) rfl ?_
   show AT p e below T30 m 9 #[iv p0, iv (3 : Int32), rv w_DIVIDE, un, un, un, un] [] _
   refine XS.aloadN X30.here hx rfl (hb hby at_9) rfl rfl ?_
   show AT p e below T30 m 10 #[iv p0, iv (3 : Int32), rv w_DIVIDE, un, un, un, un] [(.ref w_DIVIDE)] _
   refine st31.trans ?_
   show AT p e below T31 m 13 #[iv p0, iv (3 : Int32), rv w_DIVIDE, un, un, un, un] [(.int (0 : Int32))] _
   refine XS.istoreN X31.here hx rfl (hb hby at_13) rfl (l' := #[iv p0, iv (3 : Int32), rv w_DIVIDE, iv (0 : Int32), un, un, un]) rfl ?_
   show AT p e below T31 m 14 #[iv p0, iv (3 : Int32), rv w_DIVIDE, iv (0 : Int32), un, un, un] [] _
   refine XS.aloadN X31.here hx rfl (hb hby at_14) rfl rfl ?_
   show AT p e below T31 m 15 #[iv p0, iv (3 : Int32), rv w_DIVIDE, iv (0 : Int32), un, un, un] [(.ref w_DIVIDE)] _
   refine st32.trans ?_
   show AT p e below T32 m 18 #[iv p0, iv (3 : Int32), rv w_DIVIDE, iv (0 : Int32), un, un, un] [(.ref w_DIVIDE_symbol)] _
   refine XS.astore X32.here hx rfl (hb hby at_18) rfl rfl (l' := #[iv p0, iv (3 : Int32), rv w_DIVIDE, iv (0 : Int32), rv w_DIVIDE_symbol, un, un]) rfl ?_
   show AT p e below T32 m 20 #[iv p0, iv (3 : Int32), rv w_DIVIDE, iv (0 : Int32), rv w_DIVIDE_symbol, un, un] [] _
   refine XS.aload X32.here hx rfl (hb hby at_20) rfl rfl ?_
   show AT p e below T32 m 22 #[iv p0, iv (3 : Int32), rv w_DIVIDE, iv (0 : Int32), rv w_DIVIDE_symbol, un, un] [(.ref w_DIVIDE_symbol)] _
   refine st33 _ ?_
   show AT p e below T33 m 24 #[iv p0, iv (3 : Int32), rv w_DIVIDE, iv (0 : Int32), rv w_DIVIDE_symbol, un, un] [(.ref a33), (.ref w_DIVIDE_symbol)] _
   refine st34.trans ?_
   show AT p e below T34 m 27 #[iv p0, iv (3 : Int32), rv w_DIVIDE, iv (0 : Int32), rv w_DIVIDE_symbol, un, un] [(.int (0 : Int32))] _
   refine XS.ifNo X34.here hx rfl (hb hby at_27) rfl (XT.i0_ne_f ((by decide) : (0 : Int32) = (0 : Int32))) ?_
   show AT p e below T34 m 30 #[iv p0, iv (3 : Int32), rv w_DIVIDE, iv (0 : Int32), rv w_DIVIDE_symbol, un, un] [] _
   refine XS.aload X34.here hx rfl (hb hby at_30) rfl rfl ?_
   show AT p e below T34 m 32 #[iv p0, iv (3 : Int32), rv w_DIVIDE, iv (0 : Int32), rv w_DIVIDE_symbol, un, un] [(.ref w_DIVIDE_symbol)] _
   refine st35 _ ?_
   show AT p e below T35 m 34 #[iv p0, iv (3 : Int32), rv w_DIVIDE, iv (0 : Int32), rv w_DIVIDE_symbol, un, un] [(.ref a35), (.ref w_DIVIDE_symbol)] _
   refine st40.trans ?_
   show AT p e below T40 m 37 #[iv p0, iv (3 : Int32), rv w_DIVIDE, iv (0 : Int32), rv w_DIVIDE_symbol, un, un] [(.int (0 : Int32))] _
   refine XS.ifYes X40.here hx rfl (pc0 := 37) (pc' := 44) rfl (hb hby at_37) rfl (XT.i0_eq_t ((by decide) : (0 : Int32) = (0 : Int32))) (by decide) (by decide) ?_
   show AT p e below T40 m 44 #[iv p0, iv (3 : Int32), rv w_DIVIDE, iv (0 : Int32), rv w_DIVIDE_symbol, un, un] [] _
   refine XS.iconst X40.here hx rfl (hb hby at_44) ?_
   show AT p e below T40 m 45 #[iv p0, iv (3 : Int32), rv w_DIVIDE, iv (0 : Int32), rv w_DIVIDE_symbol, un, un] [(.int (0 : Int32))] _
   refine XS.istore X40.here hx rfl (hb hby at_45) rfl (l' := #[iv p0, iv (3 : Int32), rv w_DIVIDE, iv (0 : Int32), rv w_DIVIDE_symbol, iv (0 : Int32), un]) rfl ?_
   show AT p e below T40 m 47 #[iv p0, iv (3 : Int32), rv w_DIVIDE, iv (0 : Int32), rv w_DIVIDE_symbol, iv (0 : Int32), un] [] _
   refine XS.iloadN X40.here hx rfl (hb hby at_47) rfl ?_
   show AT p e below T40 m 48 #[iv p0, iv (3 : Int32), rv w_DIVIDE, iv (0 : Int32), rv w_DIVIDE_symbol, iv (0 : Int32), un] [(.int (3 : Int32))] _
   refine XS.iconst X40.here hx rfl (hb hby at_48) ?_
   show AT p e below T40 m 49 #[iv p0, iv (3 : Int32), rv w_DIVIDE, iv (0 : Int32), rv w_DIVIDE_symbol, iv (0 : Int32), un] [(.int (2 : Int32)), (.int (3 : Int32))] _
   refine XS.icmpYes X40.here hx rfl (pc0 := 49) (pc' := 56) rfl (hb hby at_49) rfl (XT.ii_ge_t ((by decide) : ¬ ((3 : Int32) < (2 : Int32)))) (by decide) (by decide) ?_
   show AT p e below T40 m 56 #[iv p0, iv (3 : Int32), rv w_DIVIDE, iv (0 : Int32), rv w_DIVIDE_symbol, iv (0 : Int32), un] [] _
   refine XS.iconst X40.here hx rfl (hb hby at_56) ?_
   show AT p e below T40 m 57 #[iv p0, iv (3 : Int32), rv w_DIVIDE, iv (0 : Int32), rv w_DIVIDE_symbol, iv (0 : Int32), un] [(.int (0 : Int32))] _
   refine XS.istore X40.here hx rfl (hb hby at_57) rfl (l' := #[iv p0, iv (3 : Int32), rv w_DIVIDE, iv (0 : Int32), rv w_DIVIDE_symbol, iv (0 : Int32), iv (0 : Int32)]) rfl ?_
   show AT p e below T40 m 59 #[iv p0, iv (3 : Int32), rv w_DIVIDE, iv (0 : Int32), rv w_DIVIDE_symbol, iv (0 : Int32), iv (0 : Int32)] [] _
   refine XS.iloadN X40.here hx rfl (hb hby at_59) rfl ?_
   show AT p e below T40 m 60 #[iv p0, iv (3 : Int32), rv w_DIVIDE, iv (0 : Int32), rv w_DIVIDE_symbol, iv (0 : Int32), iv (0 : Int32)] [(.int (0 : Int32))] _
   refine XS.iload X40.here hx rfl (hb hby at_60) rfl ?_
   show AT p e below T40 m 62 #[iv p0, iv (3 : Int32), rv w_DIVIDE, iv (0 : Int32), rv w_DIVIDE_symbol, iv (0 : Int32), iv (0 : Int32)] [(.int (0 : Int32)), (.int (0 : Int32))] _
   refine XS.icmpNo X40.here hx rfl (hb hby at_62) rfl (XT.ii_ne_f ((by decide) : (0 : Int32) = (0 : Int32))) ?_
   show AT p e below T40 m 65 #[iv p0, iv (3 : Int32), rv w_DIVIDE, iv (0 : Int32), rv w_DIVIDE_symbol, iv (0 : Int32), iv (0 : Int32)] [] _
   refine XS.iloadN X40.here hx rfl (hb hby at_65) rfl ?_
   show AT p e below T40 m 66 #[iv p0, iv (3 : Int32), rv w_DIVIDE, iv (0 : Int32), rv w_DIVIDE_symbol, iv (0 : Int32), iv (0 : Int32)] [(.int (0 : Int32))] _
   refine XS.iload X40.here hx rfl (hb hby at_66) rfl ?_
   show AT p e below T40 m 68 #[iv p0, iv (3 : Int32), rv w_DIVIDE, iv (0 : Int32), rv w_DIVIDE_symbol, iv (0 : Int32), iv (0 : Int32)] [(.int (0 : Int32)), (.int (0 : Int32))] _
   refine XS.icmpNo X40.here hx rfl (hb hby at_68) rfl (XT.ii_ne_f ((by decide) : (0 : Int32) = (0 : Int32))) ?_
   show AT p e below T40 m 71 #[iv p0, iv (3 : Int32), rv w_DIVIDE, iv (0 : Int32), rv w_DIVIDE_symbol, iv (0 : Int32), iv (0 : Int32)] [] _
   refine XS.iconst X40.here hx rfl (hb hby at_71) ?_
   show AT p e below T40 m 72 #[iv p0, iv (3 : Int32), rv w_DIVIDE, iv (0 : Int32), rv w_DIVIDE_symbol, iv (0 : Int32), iv (0 : Int32)] [(.int (1 : Int32))] _
   refine XS.goto X40.here hx rfl (pc0 := 72) (pc' := 76) rfl (hb hby at_72) (by decide) (by decide) ?_
   show AT p e below T40 m 76 #[iv p0, iv (3 : Int32), rv w_DIVIDE, iv (0 : Int32), rv w_DIVIDE_symbol, iv (0 : Int32), iv (0 : Int32)] [(.int (1 : Int32))] _
   exact retN X40 hx (t := .boolean) Bd.returns (by simp) (hb hby at_76) hr
  ·
   show Q0 Z p0 w_CS0 w_SF1 w_ADD w_ADD_symbol w_ADD_symbol_value w_DIVIDE w_SUBTRACT w_DIVIDE_symbol w_DIVIDE_symbol_value w_MULTIPLY w_MULTIPLY_symbol w_MULTIPLY_symbol_value w_SUBTRACT_symbol w_SUBTRACT_symbol_value k_ADD_symbol_value k_DIVIDE_symbol_value k_MULTIPLY_symbol_value k_SUBTRACT_symbol_value h0 n0 _ T40.heap _
   rw [e40]
   exact ⟨rfl, N40⟩

set_option maxRecDepth 65536 in
set_option maxHeartbeats 40000000 in
theorem comes_1 {Post : Tables → Env → Array Value → State → Outcome → State → Prop} (hpost : ∀ tb e args s v u, (limb_1_1.after args s (.returned v) u = true ∧ limb_1_2.after args s (.returned v) u = true ∧ True) → ReturnedEndW s (.returned v) u (Jvm.fieldLocs frame_1_writes args s ++ Jvm.arrayLocs frame_1_arrays args s ++ Jvm.staticLocs frame_1_statics s) 8 2112 → Post tb e args s (.returned v) u) :
    ArmFor flags0 classFile x code maxLocals ret World_1 tables_1 room_1 Calls_1 rest_1 Pre_1 Post := by
  intro l hfl _ _ p e ha hc hk s m args below hf hA hF happ hP
  obtain ⟨hcalls, hrest, hpre⟩ := hP
  obtain ⟨-, -, -, hnamed, -, -, -, hat⟩ := (Spec.applies_iff hf).mp happ
  obtain ⟨hg, hn⟩ := and_e (Cond.before_iff.mp (show (Jvm.Cond.and given_1 narrow_1).before args s = true from hpre))
  obtain ⟨hg1, hg2⟩ := and_e hg
  obtain ⟨w0, rfl⟩ : ∃ w0 : Value, args = #[w0] := by
    have hs : args.size = 1 := by simpa [Cond.value, given_1] using hg1
    obtain ⟨L⟩ := args
    match L, hs with
    | [w0], _ => exact ⟨w0, rfl⟩
  have hw := fun d (hd : d ∈ tables_1) => atoms_spec (ws := Jvm.Cond.code x code maxLocals ret :: tables_1) hat d (List.mem_cons_of_mem _ hd)
  have hfit : Fit s := fun {y c} hc i hi => by
    obtain ⟨ha, rfl⟩ := Array.getElem?_eq_some_iff.mp hc
    have q := List.all_eq_true.mp ((Array.all_eq_true_iff_forall_mem.mp hF) _ (Array.getElem_mem ha)) i (List.mem_range.mpr hi)
    simpa [Array.getElem?_eq_getElem hi] using q
  obtain ⟨hsets, hown0⟩ := atoms_of _ (rest_1_c_eq ▸ (show rest_1_c.before _ s = true from hrest))
  have hr0 := Cond.before_iff.mp hown0
  obtain ⟨i0, ei0⟩ := is_v hg2
  obtain rfl : w0 = (.int i0) := Option.some.inj ei0
  obtain ⟨hn1, hn2⟩ := and_e hn
  obtain ⟨hn21, hn22⟩ := and_e hn2
  obtain ⟨hn221, hn222⟩ := and_e hn22
  obtain ⟨hn2221, hn2222⟩ := and_e hn222
  obtain ⟨hn22221, hn22222⟩ := and_e hn2222
  obtain ⟨hn222221, hn222222⟩ := and_e hn22222
  obtain ⟨hn2222221, hn2222222⟩ := and_e hn222222
  obtain ⟨hn22222221, hn22222222⟩ := and_e hn2222222
  obtain ⟨hn222222221, hn222222222⟩ := and_e hn22222222
  obtain ⟨hn2222222221, hn2222222222⟩ := and_e hn222222222
  obtain ⟨hn22222222221, hn22222222222⟩ := and_e hn2222222222
  obtain ⟨hn222222222221, hn222222222222⟩ := and_e hn22222222222
  obtain ⟨hn2222222222221, hn2222222222222⟩ := and_e hn222222222222
  obtain ⟨hn22222222222221, hn22222222222222⟩ := and_e hn2222222222222
  obtain ⟨hn222222222222221, hn222222222222222⟩ := and_e hn22222222222222
  obtain ⟨hn2222222222222221, hn2222222222222222⟩ := and_e hn222222222222222
  obtain ⟨hn22222222222222221, hn22222222222222222⟩ := and_e hn2222222222222222
  obtain ⟨hn222222222222222221, hn222222222222222222⟩ := and_e hn22222222222222222
  obtain ⟨hn2222222222222222221, hn2222222222222222222⟩ := and_e hn222222222222222222
  obtain ⟨hn22222222222222222221, hn22222222222222222222⟩ := and_e hn2222222222222222222
  obtain ⟨hn222222222222222222221, hn222222222222222222222⟩ := and_e hn22222222222222222222
  obtain ⟨hn2222222222222222222221, hn2222222222222222222222⟩ := and_e hn222222222222222222222
  obtain ⟨hn22222222222222222222221, hn22222222222222222222222⟩ := and_e hn2222222222222222222222
  obtain ⟨hn222222222222222222222221, hn222222222222222222222222⟩ := and_e hn22222222222222222222222
  obtain ⟨hn2222222222222222222222221, hn2222222222222222222222222⟩ := and_e hn222222222222222222222222
  obtain ⟨hn22222222222222222222222221, hn22222222222222222222222222⟩ := and_e hn2222222222222222222222222
  obtain ⟨hn222222222222222222222222221, hn222222222222222222222222222⟩ := and_e hn22222222222222222222222222
  have hs1 := Cond.before_iff.mp (hsets _ (List.mem_of_getElem? (i := 1) rfl))
  have hs2 := Cond.before_iff.mp (hsets _ (List.mem_of_getElem? (i := 2) rfl))
  have hs8 := Cond.before_iff.mp (hsets _ (List.mem_of_getElem? (i := 8) rfl))
  obtain ⟨w_CS0, ev_w_CS0⟩ := is_v hs1
  have S_COMPACT_STRINGS : Sta s s.heap "java/lang/String" "COMPACT_STRINGS" "Z" (.int w_CS0) := Sta.start ev_w_CS0 (Or.inl (hsets _ (List.mem_of_getElem? (i := 0) rfl)))
  have hz_w_CS0 : ¬ w_CS0 = (0 : Int32) := own_neInt ev_w_CS0 hs2
  obtain ⟨w_SF1, ev_w_SF1, ir_w_SF1⟩ := isR_v hs8
  have S_SIOOBE_FORMATTER : Sta s s.heap "jdk/internal/util/Preconditions" "SIOOBE_FORMATTER" "Ljava/util/function/BiFunction;" w_SF1 := Sta.start ev_w_SF1 (Or.inl (hsets _ (List.mem_of_getElem? (i := 7) rfl)))
  obtain ⟨w_ADD, ev_w_ADD⟩ := exa_v hn1
  have S_ADD : Sta s s.heap "com/example/pushplan/pushplan/expr/Arithmetic$Op" "ADD" "Lcom/example/pushplan/pushplan/expr/Arithmetic$Op;" (.ref w_ADD) := Sta.start ev_w_ADD (Or.inr ⟨(ow hw 5 rfl), (ow hw 6 rfl)⟩)
  have E_ADD : Exa s s.heap w_ADD "com/example/pushplan/pushplan/expr/Arithmetic$Op" := Exa.start ev_w_ADD hn1
  obtain ⟨w_ADD_symbol, ev_w_ADD_symbol⟩ := exa_v hn21
  have F_symbol_ADD : Fld s s.heap w_ADD "com/example/pushplan/pushplan/expr/Arithmetic$Op" "symbol" "Ljava/lang/String;" (.ref w_ADD_symbol) := Fld.start ((fld_at ev_w_ADD).symm.trans ev_w_ADD_symbol)
  have E_ADD_symbol : Exa s s.heap w_ADD_symbol "java/lang/String" := Exa.start ev_w_ADD_symbol hn21
  have evhn221 := own_eqInt hn221
  have F_coder_ADD_symbol : Fld s s.heap w_ADD_symbol "java/lang/String" "coder" "B" (.int (0 : Int32)) := Fld.start ((fld_at ev_w_ADD_symbol).symm.trans evhn221)
  obtain ⟨w_ADD_symbol_value, ev_w_ADD_symbol_value⟩ := arr_v hn2221
  have F_value_ADD_symbol : Fld s s.heap w_ADD_symbol "java/lang/String" "value" "[B" (.ref w_ADD_symbol_value) := Fld.start ((fld_at ev_w_ADD_symbol).symm.trans ev_w_ADD_symbol_value)
  obtain ⟨w_DIVIDE, ev_w_DIVIDE⟩ := exa_v hn2222221
  have S_DIVIDE : Sta s s.heap "com/example/pushplan/pushplan/expr/Arithmetic$Op" "DIVIDE" "Lcom/example/pushplan/pushplan/expr/Arithmetic$Op;" (.ref w_DIVIDE) := Sta.start ev_w_DIVIDE (Or.inr ⟨(ow hw 5 rfl), (ow hw 43 rfl)⟩)
  have E_DIVIDE : Exa s s.heap w_DIVIDE "com/example/pushplan/pushplan/expr/Arithmetic$Op" := Exa.start ev_w_DIVIDE hn2222221
  have evhn22222221 := own_eqInt hn22222221
  have F_ordinal_DIVIDE : Fld s s.heap w_DIVIDE "java/lang/Enum" "ordinal" "I" (.int (3 : Int32)) := Fld.start ((fld_at ev_w_DIVIDE).symm.trans evhn22222221)
  have evhn222222221 := own_eqInt hn222222221
  have F_ordinal_ADD : Fld s s.heap w_ADD "java/lang/Enum" "ordinal" "I" (.int (0 : Int32)) := Fld.start ((fld_at ev_w_ADD).symm.trans evhn222222221)
  obtain ⟨w_SUBTRACT, ev_w_SUBTRACT⟩ := exa_v hn2222222221
  have S_SUBTRACT : Sta s s.heap "com/example/pushplan/pushplan/expr/Arithmetic$Op" "SUBTRACT" "Lcom/example/pushplan/pushplan/expr/Arithmetic$Op;" (.ref w_SUBTRACT) := Sta.start ev_w_SUBTRACT (Or.inr ⟨(ow hw 5 rfl), (ow hw 45 rfl)⟩)
  have E_SUBTRACT : Exa s s.heap w_SUBTRACT "com/example/pushplan/pushplan/expr/Arithmetic$Op" := Exa.start ev_w_SUBTRACT hn2222222221
  have evhn22222222221 := own_eqInt hn22222222221
  have F_ordinal_SUBTRACT : Fld s s.heap w_SUBTRACT "java/lang/Enum" "ordinal" "I" (.int (1 : Int32)) := Fld.start ((fld_at ev_w_SUBTRACT).symm.trans evhn22222222221)
  obtain ⟨w_DIVIDE_symbol, ev_w_DIVIDE_symbol⟩ := exa_v hn222222222221
  have F_symbol_DIVIDE : Fld s s.heap w_DIVIDE "com/example/pushplan/pushplan/expr/Arithmetic$Op" "symbol" "Ljava/lang/String;" (.ref w_DIVIDE_symbol) := Fld.start ((fld_at ev_w_DIVIDE).symm.trans ev_w_DIVIDE_symbol)
  have E_DIVIDE_symbol : Exa s s.heap w_DIVIDE_symbol "java/lang/String" := Exa.start ev_w_DIVIDE_symbol hn222222222221
  have evhn2222222222221 := own_eqInt hn2222222222221
  have F_coder_DIVIDE_symbol : Fld s s.heap w_DIVIDE_symbol "java/lang/String" "coder" "B" (.int (0 : Int32)) := Fld.start ((fld_at ev_w_DIVIDE_symbol).symm.trans evhn2222222222221)
  obtain ⟨w_DIVIDE_symbol_value, ev_w_DIVIDE_symbol_value⟩ := arr_v hn22222222222221
  have F_value_DIVIDE_symbol : Fld s s.heap w_DIVIDE_symbol "java/lang/String" "value" "[B" (.ref w_DIVIDE_symbol_value) := Fld.start ((fld_at ev_w_DIVIDE_symbol).symm.trans ev_w_DIVIDE_symbol_value)
  obtain ⟨w_MULTIPLY, ev_w_MULTIPLY⟩ := exa_v hn22222222222222221
  have S_MULTIPLY : Sta s s.heap "com/example/pushplan/pushplan/expr/Arithmetic$Op" "MULTIPLY" "Lcom/example/pushplan/pushplan/expr/Arithmetic$Op;" (.ref w_MULTIPLY) := Sta.start ev_w_MULTIPLY (Or.inr ⟨(ow hw 5 rfl), (ow hw 48 rfl)⟩)
  have E_MULTIPLY : Exa s s.heap w_MULTIPLY "com/example/pushplan/pushplan/expr/Arithmetic$Op" := Exa.start ev_w_MULTIPLY hn22222222222222221
  have evhn222222222222222221 := own_eqInt hn222222222222222221
  have F_ordinal_MULTIPLY : Fld s s.heap w_MULTIPLY "java/lang/Enum" "ordinal" "I" (.int (2 : Int32)) := Fld.start ((fld_at ev_w_MULTIPLY).symm.trans evhn222222222222222221)
  obtain ⟨w_MULTIPLY_symbol, ev_w_MULTIPLY_symbol⟩ := exa_v hn2222222222222222221
  have F_symbol_MULTIPLY : Fld s s.heap w_MULTIPLY "com/example/pushplan/pushplan/expr/Arithmetic$Op" "symbol" "Ljava/lang/String;" (.ref w_MULTIPLY_symbol) := Fld.start ((fld_at ev_w_MULTIPLY).symm.trans ev_w_MULTIPLY_symbol)
  have E_MULTIPLY_symbol : Exa s s.heap w_MULTIPLY_symbol "java/lang/String" := Exa.start ev_w_MULTIPLY_symbol hn2222222222222222221
  have evhn22222222222222222221 := own_eqInt hn22222222222222222221
  have F_coder_MULTIPLY_symbol : Fld s s.heap w_MULTIPLY_symbol "java/lang/String" "coder" "B" (.int (0 : Int32)) := Fld.start ((fld_at ev_w_MULTIPLY_symbol).symm.trans evhn22222222222222222221)
  obtain ⟨w_MULTIPLY_symbol_value, ev_w_MULTIPLY_symbol_value⟩ := arr_v hn222222222222222222221
  have F_value_MULTIPLY_symbol : Fld s s.heap w_MULTIPLY_symbol "java/lang/String" "value" "[B" (.ref w_MULTIPLY_symbol_value) := Fld.start ((fld_at ev_w_MULTIPLY_symbol).symm.trans ev_w_MULTIPLY_symbol_value)
  obtain ⟨w_SUBTRACT_symbol, ev_w_SUBTRACT_symbol⟩ := exa_v hn222222222222222222222221
  have F_symbol_SUBTRACT : Fld s s.heap w_SUBTRACT "com/example/pushplan/pushplan/expr/Arithmetic$Op" "symbol" "Ljava/lang/String;" (.ref w_SUBTRACT_symbol) := Fld.start ((fld_at ev_w_SUBTRACT).symm.trans ev_w_SUBTRACT_symbol)
  have E_SUBTRACT_symbol : Exa s s.heap w_SUBTRACT_symbol "java/lang/String" := Exa.start ev_w_SUBTRACT_symbol hn222222222222222222222221
  have evhn2222222222222222222222221 := own_eqInt hn2222222222222222222222221
  have F_coder_SUBTRACT_symbol : Fld s s.heap w_SUBTRACT_symbol "java/lang/String" "coder" "B" (.int (0 : Int32)) := Fld.start ((fld_at ev_w_SUBTRACT_symbol).symm.trans evhn2222222222222222222222221)
  obtain ⟨w_SUBTRACT_symbol_value, ev_w_SUBTRACT_symbol_value⟩ := arr_v hn22222222222222222222222221
  have F_value_SUBTRACT_symbol : Fld s s.heap w_SUBTRACT_symbol "java/lang/String" "value" "[B" (.ref w_SUBTRACT_symbol_value) := Fld.start ((fld_at ev_w_SUBTRACT_symbol).symm.trans ev_w_SUBTRACT_symbol_value)
  obtain ⟨cl_w_ADD_symbol_value, Ar_w_ADD_symbol_value⟩ := Arr.start ev_w_ADD_symbol_value hn2221
  have lv_w_ADD_symbol_value := own_eqInt hn22221
  obtain ⟨lq_w_ADD_symbol_value, le_w_ADD_symbol_value⟩ := own_len ev_w_ADD_symbol_value Ar_w_ADD_symbol_value lv_w_ADD_symbol_value
  have el_w_ADD_symbol_value_0 := elem_in (j := 0) (own_eqInt hn222221) ev_w_ADD_symbol_value rfl Ar_w_ADD_symbol_value.1
  obtain ⟨k_ADD_symbol_value, hk_w_ADD_symbol_value⟩ : ∃ z, z = cl_w_ADD_symbol_value.cls := ⟨_, rfl⟩
  have V_ADD_symbol_value : Arv s s.heap w_ADD_symbol_value k_ADD_symbol_value .byte (1 : Int32) [(.int (43 : Int32))] (.int (0 : Int32)) := by rw [hk_w_ADD_symbol_value]; exact Arv.start hfit Ar_w_ADD_symbol_value lq_w_ADD_symbol_value le_w_ADD_symbol_value (by decide) rfl ⟨el_w_ADD_symbol_value_0.2, trivial⟩
  obtain ⟨cl_w_DIVIDE_symbol_value, Ar_w_DIVIDE_symbol_value⟩ := Arr.start ev_w_DIVIDE_symbol_value hn22222222222221
  have lv_w_DIVIDE_symbol_value := own_eqInt hn222222222222221
  obtain ⟨lq_w_DIVIDE_symbol_value, le_w_DIVIDE_symbol_value⟩ := own_len ev_w_DIVIDE_symbol_value Ar_w_DIVIDE_symbol_value lv_w_DIVIDE_symbol_value
  have el_w_DIVIDE_symbol_value_0 := elem_in (j := 0) (own_eqInt hn2222222222222221) ev_w_DIVIDE_symbol_value rfl Ar_w_DIVIDE_symbol_value.1
  obtain ⟨k_DIVIDE_symbol_value, hk_w_DIVIDE_symbol_value⟩ : ∃ z, z = cl_w_DIVIDE_symbol_value.cls := ⟨_, rfl⟩
  have V_DIVIDE_symbol_value : Arv s s.heap w_DIVIDE_symbol_value k_DIVIDE_symbol_value .byte (1 : Int32) [(.int (47 : Int32))] (.int (0 : Int32)) := by rw [hk_w_DIVIDE_symbol_value]; exact Arv.start hfit Ar_w_DIVIDE_symbol_value lq_w_DIVIDE_symbol_value le_w_DIVIDE_symbol_value (by decide) rfl ⟨el_w_DIVIDE_symbol_value_0.2, trivial⟩
  obtain ⟨cl_w_MULTIPLY_symbol_value, Ar_w_MULTIPLY_symbol_value⟩ := Arr.start ev_w_MULTIPLY_symbol_value hn222222222222222222221
  have lv_w_MULTIPLY_symbol_value := own_eqInt hn2222222222222222222221
  obtain ⟨lq_w_MULTIPLY_symbol_value, le_w_MULTIPLY_symbol_value⟩ := own_len ev_w_MULTIPLY_symbol_value Ar_w_MULTIPLY_symbol_value lv_w_MULTIPLY_symbol_value
  have el_w_MULTIPLY_symbol_value_0 := elem_in (j := 0) (own_eqInt hn22222222222222222222221) ev_w_MULTIPLY_symbol_value rfl Ar_w_MULTIPLY_symbol_value.1
  obtain ⟨k_MULTIPLY_symbol_value, hk_w_MULTIPLY_symbol_value⟩ : ∃ z, z = cl_w_MULTIPLY_symbol_value.cls := ⟨_, rfl⟩
  have V_MULTIPLY_symbol_value : Arv s s.heap w_MULTIPLY_symbol_value k_MULTIPLY_symbol_value .byte (1 : Int32) [(.int (42 : Int32))] (.int (0 : Int32)) := by rw [hk_w_MULTIPLY_symbol_value]; exact Arv.start hfit Ar_w_MULTIPLY_symbol_value lq_w_MULTIPLY_symbol_value le_w_MULTIPLY_symbol_value (by decide) rfl ⟨el_w_MULTIPLY_symbol_value_0.2, trivial⟩
  obtain ⟨cl_w_SUBTRACT_symbol_value, Ar_w_SUBTRACT_symbol_value⟩ := Arr.start ev_w_SUBTRACT_symbol_value hn22222222222222222222222221
  have lv_w_SUBTRACT_symbol_value := own_eqInt hn222222222222222222222222221
  obtain ⟨lq_w_SUBTRACT_symbol_value, le_w_SUBTRACT_symbol_value⟩ := own_len ev_w_SUBTRACT_symbol_value Ar_w_SUBTRACT_symbol_value lv_w_SUBTRACT_symbol_value
  have el_w_SUBTRACT_symbol_value_0 := elem_in (j := 0) (own_eqInt hn222222222222222222222222222) ev_w_SUBTRACT_symbol_value rfl Ar_w_SUBTRACT_symbol_value.1
  obtain ⟨k_SUBTRACT_symbol_value, hk_w_SUBTRACT_symbol_value⟩ : ∃ z, z = cl_w_SUBTRACT_symbol_value.cls := ⟨_, rfl⟩
  have V_SUBTRACT_symbol_value : Arv s s.heap w_SUBTRACT_symbol_value k_SUBTRACT_symbol_value .byte (1 : Int32) [(.int (45 : Int32))] (.int (0 : Int32)) := by rw [hk_w_SUBTRACT_symbol_value]; exact Arv.start hfit Ar_w_SUBTRACT_symbol_value lq_w_SUBTRACT_symbol_value le_w_SUBTRACT_symbol_value (by decide) rfl ⟨el_w_SUBTRACT_symbol_value_0.2, trivial⟩
  have HW : Wd s w_CS0 w_SF1 w_ADD w_ADD_symbol w_ADD_symbol_value w_DIVIDE w_SUBTRACT w_DIVIDE_symbol w_DIVIDE_symbol_value w_MULTIPLY w_MULTIPLY_symbol w_MULTIPLY_symbol_value w_SUBTRACT_symbol w_SUBTRACT_symbol_value k_ADD_symbol_value k_DIVIDE_symbol_value k_MULTIPLY_symbol_value k_SUBTRACT_symbol_value := ⟨S_COMPACT_STRINGS, hz_w_CS0, S_SIOOBE_FORMATTER, ir_w_SF1, S_ADD, E_ADD, F_symbol_ADD, E_ADD_symbol, F_coder_ADD_symbol, F_value_ADD_symbol, S_DIVIDE, E_DIVIDE, F_ordinal_DIVIDE, F_ordinal_ADD, S_SUBTRACT, E_SUBTRACT, F_ordinal_SUBTRACT, F_symbol_DIVIDE, E_DIVIDE_symbol, F_coder_DIVIDE_symbol, F_value_DIVIDE_symbol, S_MULTIPLY, E_MULTIPLY, F_ordinal_MULTIPLY, F_symbol_MULTIPLY, E_MULTIPLY_symbol, F_coder_MULTIPLY_symbol, F_value_MULTIPLY_symbol, F_symbol_SUBTRACT, E_SUBTRACT_symbol, F_coder_SUBTRACT_symbol, F_value_SUBTRACT_symbol, V_ADD_symbol_value, V_DIVIDE_symbol_value, V_MULTIPLY_symbol_value, V_SUBTRACT_symbol_value⟩
  have hEL : EW s _ EL0 := (EW.cons (ow hw 20 rfl) (by decide) (EW.cons (ow hw 46 rfl) (by decide) EW.nil))
  have hCH : CHv s EL0 s.vm s.heap := CHv.start hEL (fun p hp => hcalls.1 p hp) (hsets _ (List.mem_of_getElem? (i := 2) rfl)) (ow hw 23 rfl) (ow hw 22 rfl)
  obtain ⟨n, o, h1, h2, h3, _, L, rfl, ⟨rfl, N⟩, hCR, hq⟩ := rm0 l s _ hw tables_1 i0 w_CS0 w_SF1 w_ADD w_ADD_symbol w_ADD_symbol_value w_DIVIDE w_SUBTRACT w_DIVIDE_symbol w_DIVIDE_symbol_value w_MULTIPLY w_MULTIPLY_symbol w_MULTIPLY_symbol_value w_SUBTRACT_symbol w_SUBTRACT_symbol_value k_ADD_symbol_value k_DIVIDE_symbol_value k_MULTIPLY_symbol_value k_SUBTRACT_symbol_value s.heap s.heap.size (Old.start s) hEL HW p e ha hc hk s m _ below hf ((Spec.applies_iff_loose hf).mp happ).1 ⟨rfl, State.Warmed39.refl s, rfl, hCH⟩ trivial
  refine ⟨n, _, h1, h2, h3, hpost _ _ _ _ _ _ ⟨Cond.after_iff.mpr rfl, Cond.after_iff.mpr (eq_i res_at (Term.int_eval (1)) rfl), trivial⟩ ⟨hq.1, hq.2.1, hq.2.2.1, (hq.2.2.2.sift fun y hy => Or.inr (N y hy)).mono (by decide) (by decide)⟩⟩
theorem main_1_1 : Claimed_1_1 := comes_1 fun _ _ _ _ _ _ h hF => ⟨h.1, hF⟩
theorem main_1_2 : Claimed_1_2 := comes_1 fun _ _ _ _ _ _ h hF => ⟨h.2.1, hF⟩
end Jvm.Pilot.@@N@@
namespace Jvm.Pilot.@@N@@
open Jvm Jvm.ClassFile Sem Op Lib Jvm.Free Jvm.Stand Jvm.Pilot.@@N@@.Jvm.D
/-! MADE BY PROGRAM (witnessworld.py) out of the Statement's table words and the real class files: 18 classes; the members and pool entries that the words name. The judged class is class 1, her method 2. -/
namespace start1
open Jvm.ClassFile
def u (s : String) : CpInfo := .utf8 (stringToUtf16 s)
/-- a pool by its gaps: so many unusable entries, then the entry; so many at the end -/
def gap : Nat → List CpInfo → List CpInfo
  | 0, r => r
  | n + 1, r => .unusable :: gap n r
def poolList (es : List (Nat × CpInfo)) (last : Nat) : List CpInfo := es.foldr (fun e r => gap e.1 (e.2 :: r)) (gap last [])
def pool (es : List (Nat × CpInfo)) (last : Nat) : Array CpInfo := ⟨poolList es last⟩
def fileOf (pool : Array CpInfo) (this : Nat) (attrs : Array Attribute := #[]) (ms : Array MethodInfo := #[]) (fl : Nat := 33) (sup : Nat := 0) (ifs : Array Nat := #[]) (fds : Array FieldInfo := #[]) : ClassFile where
  minorVersion := 0
  majorVersion := 65
  constantPool := pool
  accessFlags := fl
  thisClass := this
  superClass := sup
  interfaces := ifs
  fields := fds
  methods := ms
  attributes := attrs
def plain (name : String) (sup : Option ClassId) : Class where
  name := name
  kind := .ordinary
  loader := none
  accessFlags := 33
  super := sup
  interfaces := #[]
  cf := none
  fields := #[]
  methods := #[]
  instanceTypes := #[]
  staticTypes := #[]
  resolved := #[]
  callSites := []
  init := .initialized
  statics := none
  mirror := none

def pool0 : Array CpInfo := pool [(5, u "<init>"), (0, u "()V"), (1, .class_ 10), (1, u "java/lang/Object")] 113

def k0m0 : Method := { name := "<init>", desc := "()V", sig := { parameters := [], returnType := none }, accessFlags := 1, code := none }
/-- java/lang/Object -/
def k0 : Class := { plain "java/lang/Object" none with
  accessFlags := 33
  interfaces := #[]
  cf := some (fileOf pool0 8 #[] #[{ accessFlags := 1, nameIndex := 5, descriptorIndex := 6, attributes := #[] }] 33 0 #[] #[])
  fields := #[]
  methods := #[k0m0]
  instanceTypes := #[]
  staticTypes := #[]
  resolved := Array.replicate 124 none
  statics := none }

def pool1 : Array CpInfo := pool [(2, .class_ 4), (1, u "java/lang/Object"), (0, u "<init>"), (0, u "()V"), (0, .fieldref 8 9), (0, .class_ 10), (0, .nameAndType 11 12), (0, u "com/example/pushplan/pushplan/expr/Arithmetic$Op"), (0, u "ADD"), (0, u "Lcom/example/pushplan/pushplan/expr/Arithmetic$Op;"), (0, .fieldref 8 14), (0, .nameAndType 15 12), (0, u "SUBTRACT"), (0, .fieldref 8 17), (0, .nameAndType 18 12), (0, u "MULTIPLY"), (0, .fieldref 8 20), (0, .nameAndType 21 12), (0, u "DIVIDE"), (0, .methodref 23 24), (0, .class_ 25), (0, .nameAndType 26 27), (0, u "com/example/pushplan/pushplan/expr/OpIsAdditivePinLaw"), (0, u "pick"), (0, u "(I)Lcom/example/pushplan/pushplan/expr/Arithmetic$Op;"), (0, .methodref 8 29), (0, .nameAndType 30 31), (0, u "isAdditive"), (0, u "()Z"), (0, .methodref 8 33), (0, .nameAndType 34 35), (0, u "toString"), (0, u "()Ljava/lang/String;"), (0, .string 37), (0, u "+"), (0, .methodref 39 40), (0, .class_ 41), (0, .nameAndType 42 43), (0, u "java/lang/String"), (0, u "equals"), (0, u "(Ljava/lang/Object;)Z"), (0, .string 45), (0, u "-"), (3, u "law"), (0, u "(I)Z")] 6

def k1m0 : Method := { name := "<init>", desc := "()V", sig := { parameters := [], returnType := none }, accessFlags := 2, code := none }
def k1c1 : Code := { maxStack := 2, maxLocals := 1, code := method_2_code, exceptionTable := #[], attributes := #[] }
def k1m1 : Method := { name := "pick", desc := "(I)Lcom/example/pushplan/pushplan/expr/Arithmetic$Op;", sig := { parameters := [.int], returnType := some (.object "com/example/pushplan/pushplan/expr/Arithmetic$Op") }, accessFlags := 10, code := some k1c1 }
def k1c2 : Code := { maxStack := 2, maxLocals := 7, code := code, exceptionTable := #[], attributes := #[] }
def k1m2 : Method := { name := "law", desc := "(I)Z", sig := { parameters := [.int], returnType := some .boolean }, accessFlags := 9, code := some k1c2 }
/-- com/example/pushplan/pushplan/expr/OpIsAdditivePinLaw -/
def k1 : Class := { plain "com/example/pushplan/pushplan/expr/OpIsAdditivePinLaw" (some 0) with
  accessFlags := 49
  interfaces := #[]
  cf := some (fileOf pool1 23 #[] #[{ accessFlags := 2, nameIndex := 5, descriptorIndex := 6, attributes := #[] }, { accessFlags := 10, nameIndex := 26, descriptorIndex := 27, attributes := #[] }, { accessFlags := 9, nameIndex := 49, descriptorIndex := 50, attributes := #[] }] 49 2 #[] #[])
  fields := #[]
  methods := #[k1m0, k1m1, k1m2]
  instanceTypes := #[]
  staticTypes := #[]
  resolved := Array.replicate 57 none
  statics := none }

def pool2 : Array CpInfo := pool [(1, .class_ 2), (0, u "java/lang/constant/Constable"), (0, .class_ 4), (0, u "java/lang/Object")] 6

/-- java/lang/constant/Constable -/
def k2 : Class := { plain "java/lang/constant/Constable" (some 0) with
  accessFlags := 1537
  interfaces := #[]
  cf := some (fileOf pool2 1 #[] #[] 1537 3 #[] #[])
  fields := #[]
  methods := #[]
  instanceTypes := #[]
  staticTypes := #[]
  resolved := Array.replicate 11 none
  statics := none }

def pool3 : Array CpInfo := pool [(1, .class_ 2), (0, u "java/lang/Comparable"), (0, .class_ 4), (0, u "java/lang/Object")] 7

/-- java/lang/Comparable -/
def k3 : Class := { plain "java/lang/Comparable" (some 0) with
  accessFlags := 1537
  interfaces := #[]
  cf := some (fileOf pool3 1 #[] #[] 1537 3 #[] #[])
  fields := #[]
  methods := #[]
  instanceTypes := #[]
  staticTypes := #[]
  resolved := Array.replicate 12 none
  statics := none }

def pool4 : Array CpInfo := pool [(1, .class_ 2), (0, u "java/io/Serializable"), (0, .class_ 4), (0, u "java/lang/Object")] 2

/-- java/io/Serializable -/
def k4 : Class := { plain "java/io/Serializable" (some 0) with
  accessFlags := 1537
  interfaces := #[]
  cf := some (fileOf pool4 1 #[] #[] 1537 3 #[] #[])
  fields := #[]
  methods := #[]
  instanceTypes := #[]
  staticTypes := #[]
  resolved := Array.replicate 7 none
  statics := none }

def pool5 : Array CpInfo := pool [(2, .class_ 4), (1, u "java/lang/Enum"), (0, u "name"), (0, u "Ljava/lang/String;"), (2, u "ordinal"), (0, u "I"), (1, .class_ 14), (1, u "java/lang/Object"), (4, u "hash"), (86, .class_ 108), (1, u "java/lang/Enum$EnumDesc"), (2, .class_ 112), (0, u "java/lang/constant/Constable"), (0, .class_ 114), (0, u "java/lang/Comparable"), (0, .class_ 116), (0, u "java/io/Serializable")] 87

/-- java/lang/Enum -/
def k5 : Class := { plain "java/lang/Enum" (some 0) with
  accessFlags := 1057
  interfaces := #[2, 3, 4]
  cf := some (fileOf pool5 2 #[.nestMembers #[106]] #[] 1057 12 #[111, 113, 115] #[{ accessFlags := 18, nameIndex := 5, descriptorIndex := 6, attributes := #[] }, { accessFlags := 18, nameIndex := 9, descriptorIndex := 10, attributes := #[] }, { accessFlags := 2, nameIndex := 19, descriptorIndex := 10, attributes := #[] }])
  fields := #[{ name := "name", type := (.object "java/lang/String"), accessFlags := 18, slot := 0, constantValue := 0 }, { name := "ordinal", type := .int, accessFlags := 18, slot := 1, constantValue := 0 }, { name := "hash", type := .int, accessFlags := 2, slot := 2, constantValue := 0 }]
  methods := #[]
  instanceTypes := #[(.object "java/lang/String"), .int, .int]
  staticTypes := #[]
  resolved := Array.replicate 204 none
  statics := none }

def pool6 : Array CpInfo := pool [(1, .class_ 2), (0, u "com/example/pushplan/pushplan/expr/Arithmetic$Op"), (0, .fieldref 1 4), (0, .nameAndType 5 6), (0, u "ADD"), (0, u "Lcom/example/pushplan/pushplan/expr/Arithmetic$Op;"), (0, .fieldref 1 8), (0, .nameAndType 9 6), (0, u "SUBTRACT"), (2, u "MULTIPLY"), (2, u "DIVIDE"), (2, u "$VALUES"), (0, u "[Lcom/example/pushplan/pushplan/expr/Arithmetic$Op;"), (6, .class_ 28), (1, u "java/lang/Enum"), (6, .fieldref 1 36), (0, .nameAndType 37 38), (0, u "symbol"), (0, u "Ljava/lang/String;"), (26, u "isAdditive"), (0, u "()Z"), (1, u "toString"), (0, u "()Ljava/lang/String;"), (6, .class_ 77), (0, u "com/example/pushplan/pushplan/expr/Arithmetic")] 2

def k6c0 : Code := { maxStack := 2, maxLocals := 1, code := prog_20_method_4_code, exceptionTable := #[], attributes := #[] }
def k6m0 : Method := { name := "isAdditive", desc := "()Z", sig := { parameters := [], returnType := some .boolean }, accessFlags := 1, code := some k6c0 }
def k6c1 : Code := { maxStack := 1, maxLocals := 1, code := prog_20_method_5_code, exceptionTable := #[], attributes := #[] }
def k6m1 : Method := { name := "toString", desc := "()Ljava/lang/String;", sig := { parameters := [], returnType := some (.object "java/lang/String") }, accessFlags := 1, code := some k6c1 }
/-- com/example/pushplan/pushplan/expr/Arithmetic$Op -/
def k6 : Class := { plain "com/example/pushplan/pushplan/expr/Arithmetic$Op" (some 5) with
  accessFlags := 16433
  interfaces := #[]
  cf := some (fileOf pool6 1 #[.nestHost 76] #[{ accessFlags := 1, nameIndex := 65, descriptorIndex := 66, attributes := #[] }, { accessFlags := 1, nameIndex := 68, descriptorIndex := 69, attributes := #[] }] 16433 26 #[] #[{ accessFlags := 16409, nameIndex := 5, descriptorIndex := 6, attributes := #[] }, { accessFlags := 16409, nameIndex := 9, descriptorIndex := 6, attributes := #[] }, { accessFlags := 16409, nameIndex := 12, descriptorIndex := 6, attributes := #[] }, { accessFlags := 16409, nameIndex := 15, descriptorIndex := 6, attributes := #[] }, { accessFlags := 18, nameIndex := 37, descriptorIndex := 38, attributes := #[] }, { accessFlags := 4122, nameIndex := 18, descriptorIndex := 19, attributes := #[] }])
  fields := #[{ name := "ADD", type := (.object "com/example/pushplan/pushplan/expr/Arithmetic$Op"), accessFlags := 16409, slot := 0, constantValue := 0 }, { name := "SUBTRACT", type := (.object "com/example/pushplan/pushplan/expr/Arithmetic$Op"), accessFlags := 16409, slot := 1, constantValue := 0 }, { name := "MULTIPLY", type := (.object "com/example/pushplan/pushplan/expr/Arithmetic$Op"), accessFlags := 16409, slot := 2, constantValue := 0 }, { name := "DIVIDE", type := (.object "com/example/pushplan/pushplan/expr/Arithmetic$Op"), accessFlags := 16409, slot := 3, constantValue := 0 }, { name := "symbol", type := (.object "java/lang/String"), accessFlags := 18, slot := 3, constantValue := 0 }, { name := "$VALUES", type := (.array (.object "com/example/pushplan/pushplan/expr/Arithmetic$Op")), accessFlags := 4122, slot := 4, constantValue := 0 }]
  methods := #[k6m0, k6m1]
  instanceTypes := #[(.object "java/lang/String"), .int, .int, (.object "java/lang/String")]
  staticTypes := #[(.object "com/example/pushplan/pushplan/expr/Arithmetic$Op"), (.object "com/example/pushplan/pushplan/expr/Arithmetic$Op"), (.object "com/example/pushplan/pushplan/expr/Arithmetic$Op"), (.object "com/example/pushplan/pushplan/expr/Arithmetic$Op"), (.array (.object "com/example/pushplan/pushplan/expr/Arithmetic$Op"))]
  resolved := Array.replicate 80 none
  statics := some 0 }

def pool7 : Array CpInfo := pool [(2, .class_ 4), (1, u "java/lang/CharSequence"), (42, .class_ 48), (0, u "java/lang/CharSequence$1CodePointIterator"), (10, .class_ 60), (0, u "java/lang/CharSequence$1CharIterator"), (5, .class_ 67), (0, u "java/lang/Object")] 63

/-- java/lang/CharSequence -/
def k7 : Class := { plain "java/lang/CharSequence" (some 0) with
  accessFlags := 1537
  interfaces := #[]
  cf := some (fileOf pool7 2 #[.nestMembers #[47, 59]] #[] 1537 66 #[] #[])
  fields := #[]
  methods := #[]
  instanceTypes := #[]
  staticTypes := #[]
  resolved := Array.replicate 131 none
  statics := none }

def pool8 : Array CpInfo := pool [(1, .class_ 2), (0, u "java/lang/constant/ConstantDesc"), (0, .class_ 4), (0, u "java/lang/Object")] 32

/-- java/lang/constant/ConstantDesc -/
def k8 : Class := { plain "java/lang/constant/ConstantDesc" (some 0) with
  accessFlags := 1537
  interfaces := #[]
  cf := some (fileOf pool8 1 #[] #[] 1537 3 #[] #[])
  fields := #[]
  methods := #[]
  instanceTypes := #[]
  staticTypes := #[]
  resolved := Array.replicate 37 none
  statics := none }

def pool9 : Array CpInfo := pool [(2, .class_ 4), (1, u "java/lang/Object"), (0, u "<init>"), (0, u "()V"), (2, .fieldref 10 11), (0, .class_ 12), (0, .nameAndType 13 14), (0, u "java/lang/String"), (0, u "value"), (0, u "[B"), (0, .fieldref 10 16), (0, .nameAndType 17 18), (0, u "coder"), (0, u "B"), (2, u "hash"), (0, u "I"), (2, u "hashIsZero"), (0, u "Z"), (11, .fieldref 10 39), (0, .nameAndType 40 26), (0, u "COMPACT_STRINGS"), (66, .class_ 109), (1, u "java/lang/StringLatin1"), (431, .methodref 107 542), (0, .nameAndType 543 544), (0, u "equals"), (0, u "([B[B)Z"), (28, u "(Ljava/lang/Object;)Z"), (1, .class_ 576), (0, u "java/lang/CharSequence"), (22, u "CASE_INSENSITIVE_ORDER"), (0, u "Ljava/util/Comparator;"), (500, u "serialPersistentFields"), (0, u "[Ljava/io/ObjectStreamField;"), (0, .class_ 1104), (0, u "java/lang/String$CaseInsensitiveComparator"), (1, .class_ 1107), (0, u "java/io/Serializable"), (0, .class_ 1109), (0, u "java/lang/Comparable"), (0, .class_ 1111), (0, u "java/lang/constant/Constable"), (0, .class_ 1113), (0, u "java/lang/constant/ConstantDesc"), (2, u "serialVersionUID"), (0, u "J"), (3, u "REPL"), (0, u "C"), (2, u "LATIN1"), (1, u "UTF16")] 323

def k9m0 : Method := { name := "<init>", desc := "()V", sig := { parameters := [], returnType := none }, accessFlags := 1, code := none }
def k9c1 : Code := { maxStack := 2, maxLocals := 3, code := jdk_42_method_66_code, exceptionTable := #[], attributes := #[] }
def k9m1 : Method := { name := "equals", desc := "(Ljava/lang/Object;)Z", sig := { parameters := [(.object "java/lang/Object")], returnType := some .boolean }, accessFlags := 1, code := some k9c1 }
/-- java/lang/String -/
def k9 : Class := { plain "java/lang/String" (some 0) with
  accessFlags := 49
  interfaces := #[4, 3, 7, 2, 8]
  cf := some (fileOf pool9 10 #[.nestMembers #[1103]] #[{ accessFlags := 1, nameIndex := 5, descriptorIndex := 6, attributes := #[] }, { accessFlags := 1, nameIndex := 543, descriptorIndex := 573, attributes := #[] }] 49 2 #[1106, 1108, 575, 1110, 1112] #[{ accessFlags := 18, nameIndex := 13, descriptorIndex := 14, attributes := #[] }, { accessFlags := 18, nameIndex := 17, descriptorIndex := 18, attributes := #[] }, { accessFlags := 2, nameIndex := 21, descriptorIndex := 22, attributes := #[] }, { accessFlags := 2, nameIndex := 25, descriptorIndex := 26, attributes := #[] }, { accessFlags := 26, nameIndex := 1116, descriptorIndex := 1117, attributes := #[] }, { accessFlags := 24, nameIndex := 40, descriptorIndex := 26, attributes := #[] }, { accessFlags := 26, nameIndex := 1101, descriptorIndex := 1102, attributes := #[] }, { accessFlags := 26, nameIndex := 1121, descriptorIndex := 1122, attributes := #[] }, { accessFlags := 25, nameIndex := 599, descriptorIndex := 600, attributes := #[] }, { accessFlags := 24, nameIndex := 1125, descriptorIndex := 18, attributes := #[] }, { accessFlags := 24, nameIndex := 1127, descriptorIndex := 18, attributes := #[] }])
  fields := #[{ name := "value", type := (.array .byte), accessFlags := 18, slot := 0, constantValue := 0 }, { name := "coder", type := .byte, accessFlags := 18, slot := 1, constantValue := 0 }, { name := "hash", type := .int, accessFlags := 2, slot := 2, constantValue := 0 }, { name := "hashIsZero", type := .boolean, accessFlags := 2, slot := 3, constantValue := 0 }, { name := "serialVersionUID", type := .long, accessFlags := 26, slot := 0, constantValue := 0 }, { name := "COMPACT_STRINGS", type := .boolean, accessFlags := 24, slot := 1, constantValue := 0 }, { name := "serialPersistentFields", type := (.array (.object "java/io/ObjectStreamField")), accessFlags := 26, slot := 2, constantValue := 0 }, { name := "REPL", type := .char, accessFlags := 26, slot := 3, constantValue := 0 }, { name := "CASE_INSENSITIVE_ORDER", type := (.object "java/util/Comparator"), accessFlags := 25, slot := 4, constantValue := 0 }, { name := "LATIN1", type := .byte, accessFlags := 24, slot := 5, constantValue := 0 }, { name := "UTF16", type := .byte, accessFlags := 24, slot := 6, constantValue := 0 }]
  methods := #[k9m0, k9m1]
  instanceTypes := #[(.array .byte), .byte, .int, .boolean]
  staticTypes := #[.long, .boolean, (.array (.object "java/io/ObjectStreamField")), .char, (.object "java/util/Comparator"), .byte, .byte]
  resolved := Array.replicate 1451 none
  statics := some 1 }

def pool10 : Array CpInfo := pool [(4, .class_ 6), (1, u "java/lang/Object"), (0, u "<init>"), (0, u "()V"), (5, .class_ 16), (1, u "java/lang/StringLatin1"), (104, u "$assertionsDisabled"), (0, u "Z"), (98, .class_ 223), (1, u "java/lang/StringLatin1$LinesSpliterator"), (57, u "equals"), (0, u "([B[B)Z"), (107, .class_ 391), (0, u "java/lang/StringLatin1$CharsSpliterator")] 3

def k10m0 : Method := { name := "<init>", desc := "()V", sig := { parameters := [], returnType := none }, accessFlags := 0, code := none }
def k10c1 : Code := { maxStack := 3, maxLocals := 3, code := jdk_43_method_13_code, exceptionTable := #[], attributes := #[] }
def k10m1 : Method := { name := "equals", desc := "([B[B)Z", sig := { parameters := [(.array .byte), (.array .byte)], returnType := some .boolean }, accessFlags := 9, code := some k10c1 }
/-- java/lang/StringLatin1 -/
def k10 : Class := { plain "java/lang/StringLatin1" (some 0) with
  accessFlags := 48
  interfaces := #[]
  cf := some (fileOf pool10 14 #[.nestMembers #[390, 221]] #[{ accessFlags := 0, nameIndex := 7, descriptorIndex := 8, attributes := #[] }, { accessFlags := 9, nameIndex := 281, descriptorIndex := 282, attributes := #[] }] 48 4 #[] #[{ accessFlags := 4120, nameIndex := 121, descriptorIndex := 122, attributes := #[] }])
  fields := #[{ name := "$assertionsDisabled", type := .boolean, accessFlags := 4120, slot := 0, constantValue := 0 }]
  methods := #[k10m0, k10m1]
  instanceTypes := #[]
  staticTypes := #[.boolean]
  resolved := Array.replicate 395 none
  statics := none }

def pool11 : Array CpInfo := pool [(2, .class_ 4), (1, u "java/lang/Object"), (0, u "<init>"), (0, u "()V"), (17, .class_ 26), (1, u "jdk/internal/util/Preconditions"), (28, .class_ 56), (0, u "jdk/internal/util/Preconditions$4"), (57, .class_ 115), (0, u "jdk/internal/util/Preconditions$1"), (7, u "SIOOBE_FORMATTER"), (0, u "Ljava/util/function/BiFunction;"), (0, .class_ 126), (0, u "jdk/internal/util/Preconditions$2"), (3, u "AIOOBE_FORMATTER"), (0, .class_ 132), (0, u "jdk/internal/util/Preconditions$3"), (3, u "IOOBE_FORMATTER")] 57

def k11m0 : Method := { name := "<init>", desc := "()V", sig := { parameters := [], returnType := none }, accessFlags := 1, code := none }
/-- jdk/internal/util/Preconditions -/
def k11 : Class := { plain "jdk/internal/util/Preconditions" (some 0) with
  accessFlags := 33
  interfaces := #[]
  cf := some (fileOf pool11 24 #[.nestMembers #[55, 131, 125, 114]] #[{ accessFlags := 1, nameIndex := 5, descriptorIndex := 6, attributes := #[] }] 33 2 #[] #[{ accessFlags := 25, nameIndex := 123, descriptorIndex := 124, attributes := #[] }, { accessFlags := 25, nameIndex := 130, descriptorIndex := 124, attributes := #[] }, { accessFlags := 25, nameIndex := 136, descriptorIndex := 124, attributes := #[] }])
  fields := #[{ name := "SIOOBE_FORMATTER", type := (.object "java/util/function/BiFunction"), accessFlags := 25, slot := 0, constantValue := 0 }, { name := "AIOOBE_FORMATTER", type := (.object "java/util/function/BiFunction"), accessFlags := 25, slot := 1, constantValue := 0 }, { name := "IOOBE_FORMATTER", type := (.object "java/util/function/BiFunction"), accessFlags := 25, slot := 2, constantValue := 0 }]
  methods := #[k11m0]
  instanceTypes := #[]
  staticTypes := #[(.object "java/util/function/BiFunction"), (.object "java/util/function/BiFunction"), (.object "java/util/function/BiFunction")]
  resolved := Array.replicate 194 none
  statics := some 2 }

def pool12 : Array CpInfo := pool [(9, u "<init>"), (6, .class_ 18), (1, u "java/lang/Object"), (0, u "()V"), (1, .class_ 23), (1, u "jdk/internal/util/ArraysSupport"), (0, u "LOG2_ARRAY_LONG_INDEX_SCALE"), (0, u "I"), (2, u "U"), (0, u "Ljdk/internal/misc/Unsafe;"), (8, u "BIG_ENDIAN"), (0, u "Z"), (8, u "LOG2_BYTE_BIT_SIZE"), (4, u "LOG2_ARRAY_INT_INDEX_SCALE"), (54, u "JLA"), (0, u "Ljdk/internal/access/JavaLangAccess;"), (11, u "LOG2_ARRAY_BOOLEAN_INDEX_SCALE"), (9, u "LOG2_ARRAY_BYTE_INDEX_SCALE"), (5, u "LOG2_ARRAY_CHAR_INDEX_SCALE"), (5, u "LOG2_ARRAY_SHORT_INDEX_SCALE"), (18, u "LOG2_ARRAY_FLOAT_INDEX_SCALE"), (24, u "LOG2_ARRAY_DOUBLE_INDEX_SCALE"), (89, u "T_BOOLEAN"), (2, u "T_CHAR"), (1, u "T_FLOAT"), (1, u "T_DOUBLE"), (1, u "T_BYTE"), (1, u "T_SHORT"), (1, u "T_INT"), (1, u "T_LONG"), (1, u "SOFT_MAX_ARRAY_LENGTH")] 83

def k12m0 : Method := { name := "<init>", desc := "()V", sig := { parameters := [], returnType := none }, accessFlags := 2, code := none }
/-- jdk/internal/util/ArraysSupport -/
def k12 : Class := { plain "jdk/internal/util/ArraysSupport" (some 0) with
  accessFlags := 33
  interfaces := #[]
  cf := some (fileOf pool12 21 #[] #[{ accessFlags := 2, nameIndex := 9, descriptorIndex := 19, attributes := #[] }] 33 16 #[] #[{ accessFlags := 24, nameIndex := 28, descriptorIndex := 29, attributes := #[] }, { accessFlags := 26, nameIndex := 38, descriptorIndex := 39, attributes := #[] }, { accessFlags := 25, nameIndex := 121, descriptorIndex := 25, attributes := #[] }, { accessFlags := 25, nameIndex := 131, descriptorIndex := 25, attributes := #[] }, { accessFlags := 25, nameIndex := 137, descriptorIndex := 25, attributes := #[] }, { accessFlags := 25, nameIndex := 143, descriptorIndex := 25, attributes := #[] }, { accessFlags := 25, nameIndex := 53, descriptorIndex := 25, attributes := #[] }, { accessFlags := 25, nameIndex := 24, descriptorIndex := 25, attributes := #[] }, { accessFlags := 25, nameIndex := 162, descriptorIndex := 25, attributes := #[] }, { accessFlags := 25, nameIndex := 187, descriptorIndex := 25, attributes := #[] }, { accessFlags := 26, nameIndex := 48, descriptorIndex := 25, attributes := #[] }, { accessFlags := 25, nameIndex := 277, descriptorIndex := 25, attributes := #[] }, { accessFlags := 25, nameIndex := 280, descriptorIndex := 25, attributes := #[] }, { accessFlags := 25, nameIndex := 282, descriptorIndex := 25, attributes := #[] }, { accessFlags := 25, nameIndex := 284, descriptorIndex := 25, attributes := #[] }, { accessFlags := 25, nameIndex := 286, descriptorIndex := 25, attributes := #[] }, { accessFlags := 25, nameIndex := 288, descriptorIndex := 25, attributes := #[] }, { accessFlags := 25, nameIndex := 290, descriptorIndex := 25, attributes := #[] }, { accessFlags := 25, nameIndex := 292, descriptorIndex := 25, attributes := #[] }, { accessFlags := 26, nameIndex := 108, descriptorIndex := 109, attributes := #[] }, { accessFlags := 25, nameIndex := 294, descriptorIndex := 25, attributes := #[] }])
  fields := #[{ name := "U", type := (.object "jdk/internal/misc/Unsafe"), accessFlags := 24, slot := 0, constantValue := 0 }, { name := "BIG_ENDIAN", type := .boolean, accessFlags := 26, slot := 1, constantValue := 0 }, { name := "LOG2_ARRAY_BOOLEAN_INDEX_SCALE", type := .int, accessFlags := 25, slot := 2, constantValue := 0 }, { name := "LOG2_ARRAY_BYTE_INDEX_SCALE", type := .int, accessFlags := 25, slot := 3, constantValue := 0 }, { name := "LOG2_ARRAY_CHAR_INDEX_SCALE", type := .int, accessFlags := 25, slot := 4, constantValue := 0 }, { name := "LOG2_ARRAY_SHORT_INDEX_SCALE", type := .int, accessFlags := 25, slot := 5, constantValue := 0 }, { name := "LOG2_ARRAY_INT_INDEX_SCALE", type := .int, accessFlags := 25, slot := 6, constantValue := 0 }, { name := "LOG2_ARRAY_LONG_INDEX_SCALE", type := .int, accessFlags := 25, slot := 7, constantValue := 0 }, { name := "LOG2_ARRAY_FLOAT_INDEX_SCALE", type := .int, accessFlags := 25, slot := 8, constantValue := 0 }, { name := "LOG2_ARRAY_DOUBLE_INDEX_SCALE", type := .int, accessFlags := 25, slot := 9, constantValue := 0 }, { name := "LOG2_BYTE_BIT_SIZE", type := .int, accessFlags := 26, slot := 10, constantValue := 0 }, { name := "T_BOOLEAN", type := .int, accessFlags := 25, slot := 11, constantValue := 0 }, { name := "T_CHAR", type := .int, accessFlags := 25, slot := 12, constantValue := 0 }, { name := "T_FLOAT", type := .int, accessFlags := 25, slot := 13, constantValue := 0 }, { name := "T_DOUBLE", type := .int, accessFlags := 25, slot := 14, constantValue := 0 }, { name := "T_BYTE", type := .int, accessFlags := 25, slot := 15, constantValue := 0 }, { name := "T_SHORT", type := .int, accessFlags := 25, slot := 16, constantValue := 0 }, { name := "T_INT", type := .int, accessFlags := 25, slot := 17, constantValue := 0 }, { name := "T_LONG", type := .int, accessFlags := 25, slot := 18, constantValue := 0 }, { name := "JLA", type := (.object "jdk/internal/access/JavaLangAccess"), accessFlags := 26, slot := 19, constantValue := 0 }, { name := "SOFT_MAX_ARRAY_LENGTH", type := .int, accessFlags := 25, slot := 20, constantValue := 0 }]
  methods := #[k12m0]
  instanceTypes := #[]
  staticTypes := #[(.object "jdk/internal/misc/Unsafe"), .boolean, .int, .int, .int, .int, .int, .int, .int, .int, .int, .int, .int, .int, .int, .int, .int, .int, .int, (.object "jdk/internal/access/JavaLangAccess"), .int]
  resolved := Array.replicate 378 none
  statics := none }

def pool13 : Array CpInfo := pool [(1, u "java/lang/Cloneable"), (0, .class_ 1), (0, u "java/lang/Object"), (0, .class_ 3)] 3

/-- java/lang/Cloneable -/
def k13 : Class := { plain "java/lang/Cloneable" (some 0) with
  accessFlags := 1537
  interfaces := #[]
  cf := some (fileOf pool13 2 #[] #[] 1537 4 #[] #[])
  fields := #[]
  methods := #[]
  instanceTypes := #[]
  staticTypes := #[]
  resolved := Array.replicate 8 none
  statics := none }

/-- the primitive byte -/
def k14 : Class := { plain "byte" none with kind := .primitive 'B', accessFlags := 0x411 }
/-- [B -/
def k15 : Class := { plain "[B" (some 0) with kind := .array 14 .byte, interfaces := #[13, 4], accessFlags := 1041 }

/-- the primitive int -/
def k16 : Class := { plain "int" none with kind := .primitive 'I', accessFlags := 0x411 }
/-- [I -/
def k17 : Class := { plain "[I" (some 0) with kind := .array 16 .int, interfaces := #[13, 4], accessFlags := 1041 }

def heap : Heap := #[{ cls := 6, slots := #[.ref 3, .ref 6, .ref 8, .ref 5, .null], vm := .statics 6 },
  { cls := 9, slots := #[.long 0, .int 1, .null, .int 0, .null, .int 0, .int 0], vm := .statics 9 },
  { cls := 11, slots := #[.null, .null, .null], vm := .statics 11 },
  { cls := 6, slots := #[.null, .int 0, .int 0, .ref 4], vm := .none },
  { cls := 9, slots := #[.ref 11, .int 0, .int 0, .int 0], vm := .none },
  { cls := 6, slots := #[.null, .int 3, .int 0, .ref 7], vm := .none },
  { cls := 6, slots := #[.null, .int 1, .int 0, .ref 10], vm := .none },
  { cls := 9, slots := #[.ref 12, .int 0, .int 0, .int 0], vm := .none },
  { cls := 6, slots := #[.null, .int 2, .int 0, .ref 9], vm := .none },
  { cls := 9, slots := #[.ref 13, .int 0, .int 0, .int 0], vm := .none },
  { cls := 9, slots := #[.ref 14, .int 0, .int 0, .int 0], vm := .none },
  { cls := 15, slots := #[.int 43], vm := .none },
  { cls := 15, slots := #[.int 47], vm := .none },
  { cls := 15, slots := #[.int 42], vm := .none },
  { cls := 15, slots := #[.int 45], vm := .none }]
def classes : Array Class := #[k0, k1, k2, k3, k4, k5, k6, k7, k8, k9, k10, k11, k12, k13, k14, k15, k16, k17]
def interned : List (Array UInt16 × Addr) := []
def slotsUsed : Nat := 51
def theMethod : MethodId := ⟨1, 2⟩
def args0 : Array Value := #[.int 5]
def aboutOver (below : List Frame) : State where
  vm := { classes := classes, interned := interned.toArray }
  heap := heap
  slotsUsed := slotsUsed
  threads := #[{ frames := .invoking theMethod args0 :: below }]
def below0 : List Frame := [.native { method := ⟨0, 0⟩, args := #[] }]
def about1 : State := aboutOver below0
def p0 : Program := .bare "" "" ""
def e0 : Env := launch0.env 0 0 0
theorem w_frames : about1.frames = Frame.invoking theMethod args0 :: below0 := rfl
set_option maxRecDepth 65536 in
theorem w_args : argsFit about1.vm theMethod args0 = true := by decide +kernel
set_option maxRecDepth 65536 in
theorem w_heap : heapFits about1 = true := by decide +kernel
set_option maxRecDepth 65536 in
theorem w_runnable : about1.curStatus? = some .runnable := by decide +kernel
set_option maxRecDepth 65536 in
theorem w_alone : about1.alone = true := by decide +kernel
set_option maxRecDepth 65536 in
theorem w_named : about1.methodNamed? x = some theMethod := by decide +kernel
set_option maxRecDepth 65536 in
theorem w_hears : about1.hears theMethod below0 = true := by decide +kernel
set_option maxRecDepth 65536 in
theorem w_ripe : about1.ripe theMethod args0 below0 = true := by decide +kernel
theorem w_running : about1.status = .running := rfl
set_option maxRecDepth 65536 in
theorem w_room : about1.hasRoom e0.platform room_1 = true :=
  launch0.hasRoom_least _ room_1 (by decide +kernel) (by decide +kernel) (by decide +kernel) (by decide +kernel) (by decide +kernel) (by decide +kernel)
theorem allAtoms_all (ts : List Jvm.Cond) (a : Array Jvm.Value) (st : Jvm.State) : (allAtoms ts).before a st = ts.all (fun c => c.before a st) := by
  induction ts with
  | nil => rfl
  | cons c t ih =>
    show (Jvm.Cond.and c (allAtoms t)).before a st = _
    rw [Jvm.Cond.before_and, ih, List.all_cons]
def words1 : List Jvm.Cond := Jvm.Cond.code x code maxLocals ret :: tables_1
/-- a 'code' word, met by the world's own term for the bytes: nothing is compared byte by byte -/
theorem code_word {y : MethodName} {bytes : ByteArray} {mx : Nat} {rt : Option FieldType} {a : Array Value} {s : State} {m : MethodId} {meth : Method} {c : Code} (h1 : s.methodNamed? y = some m) (h2 : s.vm.method? m = some meth) (h3 : meth.code = some c) (h4 : c.code = bytes)
    (h5 : (c.maxLocals == mx && c.exceptionTable.isEmpty && decide (c.maxStack ≤ mostOperands) && decide (meth.sig.returnType = rt) && !meth.locks && decide (parseMethodDescriptor y.desc = some meth.sig)) = true) : (Jvm.Cond.code y bytes mx rt).before a s = true := by
  simp only [Bool.and_eq_true, beq_iff_eq, Bool.not_eq_true', decide_eq_true_eq] at h5
  obtain ⟨⟨⟨⟨⟨g1, g2⟩, g3⟩, g4⟩, g5⟩, g6⟩ := h5
  simp [Cond.before, Cond.holds, Cond.value, h1, h2, h3, h4, g1, g2, g3, g4, g5, g6]
def isCode : Jvm.Cond → Bool
  | .code _ _ _ _ => true
  | _ => false
theorem all_split {L : List Jvm.Cond} {P : Jvm.Cond → Bool} (h1 : L.all (fun c => isCode c || P c) = true) (h2 : ∀ c ∈ L.filter isCode, P c = true) : L.all P = true := by
  refine List.all_eq_true.mpr fun c hc => ?_
  have h := List.all_eq_true.mp h1 c hc
  rcases Bool.eq_false_or_eq_true (isCode c) with hi | hi
  · exact h2 c (List.mem_filter.mpr ⟨hc, hi⟩)
  · simpa [hi] using h
set_option maxRecDepth 65536 in
theorem w_c0 : (Jvm.Cond.code x code maxLocals ret).before args0 about1 = true := code_word (m := ⟨1, 2⟩) (meth := k1m2) (c := k1c2) (by decide +kernel) rfl rfl rfl (by decide +kernel)
set_option maxRecDepth 65536 in
theorem w_c1 : (Jvm.Cond.code ({ cls := "com/example/pushplan/pushplan/expr/OpIsAdditivePinLaw", name := "pick", desc := "(I)Lcom/example/pushplan/pushplan/expr/Arithmetic$Op;" } : Jvm.MethodName) method_2_code (1 : Nat) (Option.some (Jvm.ClassFile.FieldType.object "com/example/pushplan/pushplan/expr/Arithmetic$Op"))).before args0 about1 = true := code_word (m := ⟨1, 1⟩) (meth := k1m1) (c := k1c1) (by decide +kernel) rfl rfl rfl (by decide +kernel)
set_option maxRecDepth 65536 in
theorem w_c2 : (Jvm.Cond.code ({ cls := "com/example/pushplan/pushplan/expr/Arithmetic$Op", name := "isAdditive", desc := "()Z" } : Jvm.MethodName) prog_20_method_4_code (1 : Nat) (Option.some Jvm.ClassFile.FieldType.boolean)).before args0 about1 = true := code_word (m := ⟨6, 0⟩) (meth := k6m0) (c := k6c0) (by decide +kernel) rfl rfl rfl (by decide +kernel)
set_option maxRecDepth 65536 in
theorem w_c3 : (Jvm.Cond.code ({ cls := "com/example/pushplan/pushplan/expr/Arithmetic$Op", name := "toString", desc := "()Ljava/lang/String;" } : Jvm.MethodName) prog_20_method_5_code (1 : Nat) (Option.some (Jvm.ClassFile.FieldType.object "java/lang/String"))).before args0 about1 = true := code_word (m := ⟨6, 1⟩) (meth := k6m1) (c := k6c1) (by decide +kernel) rfl rfl rfl (by decide +kernel)
set_option maxRecDepth 65536 in
theorem w_c4 : (Jvm.Cond.code ({ cls := "java/lang/String", name := "equals", desc := "(Ljava/lang/Object;)Z" } : Jvm.MethodName) jdk_42_method_66_code (3 : Nat) (Option.some Jvm.ClassFile.FieldType.boolean)).before args0 about1 = true := code_word (m := ⟨9, 1⟩) (meth := k9m1) (c := k9c1) (by decide +kernel) rfl rfl rfl (by decide +kernel)
set_option maxRecDepth 65536 in
theorem w_c5 : (Jvm.Cond.code ({ cls := "java/lang/StringLatin1", name := "equals", desc := "([B[B)Z" } : Jvm.MethodName) jdk_43_method_13_code (3 : Nat) (Option.some Jvm.ClassFile.FieldType.boolean)).before args0 about1 = true := code_word (m := ⟨10, 1⟩) (meth := k10m1) (c := k10c1) (by decide +kernel) rfl rfl rfl (by decide +kernel)
def codes1 : List Jvm.Cond := [Jvm.Cond.code x code maxLocals ret, Jvm.Cond.code ({ cls := "com/example/pushplan/pushplan/expr/OpIsAdditivePinLaw", name := "pick", desc := "(I)Lcom/example/pushplan/pushplan/expr/Arithmetic$Op;" } : Jvm.MethodName) method_2_code (1 : Nat) (Option.some (Jvm.ClassFile.FieldType.object "com/example/pushplan/pushplan/expr/Arithmetic$Op")), Jvm.Cond.code ({ cls := "com/example/pushplan/pushplan/expr/Arithmetic$Op", name := "isAdditive", desc := "()Z" } : Jvm.MethodName) prog_20_method_4_code (1 : Nat) (Option.some Jvm.ClassFile.FieldType.boolean), Jvm.Cond.code ({ cls := "com/example/pushplan/pushplan/expr/Arithmetic$Op", name := "toString", desc := "()Ljava/lang/String;" } : Jvm.MethodName) prog_20_method_5_code (1 : Nat) (Option.some (Jvm.ClassFile.FieldType.object "java/lang/String")), Jvm.Cond.code ({ cls := "java/lang/String", name := "equals", desc := "(Ljava/lang/Object;)Z" } : Jvm.MethodName) jdk_42_method_66_code (3 : Nat) (Option.some Jvm.ClassFile.FieldType.boolean), Jvm.Cond.code ({ cls := "java/lang/StringLatin1", name := "equals", desc := "([B[B)Z" } : Jvm.MethodName) jdk_43_method_13_code (3 : Nat) (Option.some Jvm.ClassFile.FieldType.boolean)]
set_option maxRecDepth 65536 in
theorem codes_eq : words1.filter isCode = codes1 := rfl
theorem w_codes : ∀ c ∈ words1.filter isCode, c.before args0 about1 = true := by
  rw [codes_eq]
  intro c hc
  simp only [codes1, List.mem_cons, List.not_mem_nil, or_false] at hc
  rcases hc with rfl | rfl | rfl | rfl | rfl | rfl
  · exact w_c0
  · exact w_c1
  · exact w_c2
  · exact w_c3
  · exact w_c4
  · exact w_c5
set_option maxRecDepth 65536 in
theorem w_t1 : (words1.take 24).all (fun c => isCode c || c.before args0 about1) = true := by decide +kernel
set_option maxRecDepth 65536 in
theorem w_t2 : ((words1.drop 24).take 24).all (fun c => isCode c || c.before args0 about1) = true := by decide +kernel
set_option maxRecDepth 65536 in
theorem w_t3 : ((words1.drop 24).drop 24).all (fun c => isCode c || c.before args0 about1) = true := by decide +kernel
theorem w_tables : (allAtoms (Jvm.Cond.code x code maxLocals ret :: tables_1)).before args0 about1 = true := by
  rw [allAtoms_all]
  show words1.all (fun c => c.before args0 about1) = true
  refine all_split ?_ w_codes
  rw [← List.take_append_drop 24 words1, List.all_append, w_t1, ← List.take_append_drop 24 (words1.drop 24), List.all_append, w_t2, w_t3]
  rfl
set_option maxRecDepth 65536 in
theorem w_rest : rest_1_c.before args0 about1 = true := by decide +kernel
set_option maxRecDepth 65536 in
theorem w_case : (Jvm.Cond.and given_1 narrow_1).before args0 about1 = true := by decide +kernel
set_option maxRecDepth 65536 in
theorem w_consts : constsHeld consts_1 about1 := Jvm.Lit.constsHeldB_iff.mp (by decide +kernel)
theorem w_applies : (headSpec (Jvm.Cond.code x code maxLocals ret :: tables_1) room_1).applies x e0.platform about1 = true :=
  (Spec.applies_iff w_frames).mpr ⟨w_running, w_runnable, w_alone, w_named, w_hears, w_ripe, w_room, w_tables⟩
theorem atStart : AtStart classFile x code maxLocals ret World_1 tables_1 room_1 Calls_1 rest_1 Pre_1 launch0 p0 e0 about1 theMethod args0 below0 :=
  ⟨lists_1, trivial, launch0.admits_env _ _ _, launch0.least_env, fairChoices_fair.cas, fairChoices_fair.clock, w_frames, w_args, w_heap, w_applies, ⟨w_consts, trivial⟩, w_rest, w_case⟩
end start1
theorem witness_1 : WitnessClaimed_1 := ⟨start1.p0, start1.e0, start1.about1, start1.theMethod, start1.args0, start1.below0, start1.atStart⟩
end Jvm.Pilot.@@N@@
