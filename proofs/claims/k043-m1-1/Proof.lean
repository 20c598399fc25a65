import JvmDerived
import JvmDerived.Pilot.@@N@@Statement
import JvmDerived.Pilot.@@N@@Code
set_option linter.unusedVariables false
set_option linter.unusedSimpArgs false
namespace Jvm.Pilot.@@N@@
open Jvm Jvm.ClassFile Sem Op Lib Jvm.Free Jvm.Stand Jvm.LawKit Jvm.RoadKit Bundle Jvm.Pilot.@@N@@.Jvm.D
abbrev y1 : MethodName := ⟨"com/example/polity/polity/model/KindIsGroupPinLaw", "pick", "(I)Lcom/example/polity/polity/model/Entry$Kind;"⟩
abbrev y2 : MethodName := ⟨"com/example/polity/polity/model/Entry$Kind", "isGroup", "()Z"⟩

abbrev jv (x : Int64) : Slot := .val (.long x)
abbrev un : Slot := .unset
abbrev se : Slot := .second
abbrev AT (p : Program) (e : Env) (below : List Frame) (T : State) (m : MethodId) (pc : Nat) (ls : Array Slot) (st : List Value) (tg : State) : Prop := Steps p.tables e below (T.setTop (mkF m pc ls st)) tg
theorem ow {Z : State} {a0 : Array Value} (hw : ∀ d ∈ tables_1, d.before a0 Z = true) (i : Nat) {d : Jvm.Cond} (h : tables_1[i]? = some d) : d.before a0 Z = true := hw _ (List.mem_of_getElem? h)
theorem own_lrem {p : Program} {l : Launch} {e : Env} {R : Room} {s : State} {m : MethodId} {args : Array Value} {below : List Frame} {meth : Method} {c : Code} {T : State} {locs : List Loc} {cells slots : Nat} {g : JFrame} {target : State} (X : Stand p l e R s m args below meth c T locs cells slots) (hx : p.tables.exec = Jvm.exec) (hg : g.method = m) {x y : Int64} {rest : List Value} (hd : decode c.code g.pc = .ok (.lrem, 1)) (hs : g.stack = .long y :: .long x :: rest) (hy : y ≠ 0)
    (hr : Steps p.tables e below (T.setTop { g with pc := g.pc + 1, stack := .long (x % y) :: rest }) target) : Steps p.tables e below (T.setTop g) target :=
  XS.lrem X.here hx hg hd hs hy (by rw [lrem_mod]; exact hr)
theorem own_eqInt {args : Array Value} {first s : State} {o : Option Outcome} {idx : List Nat} {t : Term} {n : Int32} (h : (Jvm.Cond.eq t (.int n)).value args first o s idx = some true) : t.eval args first o idx s = some (.int n) := by
  simp only [Cond.value, Term.eval] at h
  cases ht : t.eval args first o idx s with
  | none => simp [ht] at h
  | some v => cases v <;> simp [ht] at h ⊢; exact h
theorem own_eqLong {args : Array Value} {first s : State} {o : Option Outcome} {idx : List Nat} {t : Term} {n : Int64} (h : (Jvm.Cond.eq t (.long n)).value args first o s idx = some true) : t.eval args first o idx s = some (.long n) := by
  simp only [Cond.value, Term.eval] at h
  cases ht : t.eval args first o idx s with
  | none => simp [ht] at h
  | some v => cases v <;> simp [ht] at h ⊢; exact h
theorem own_eqRef {args : Array Value} {first s : State} {o : Option Outcome} {idx : List Nat} {t u : Term} {a : Addr} (hu : u.eval args first o idx s = some (.ref a)) (h : (Jvm.Cond.eq t u).value args first o s idx = some true) : t.eval args first o idx s = some (.ref a) := by
  simp only [Cond.value, hu] at h
  cases ht : t.eval args first o idx s with
  | none => simp [ht] at h
  | some v => cases v <;> simp [ht] at h ⊢; exact h

theorem own_in {c : Cell} {n : Int32} (j : Int32) (S : c.slots.size = n.toNatClampNeg) (q : ¬ j < 0 ∧ j < n) : ¬ (j < 0 ∨ c.slots.size ≤ j.toNatClampNeg) := inb_of S q
theorem own_up {x a b : Int32} (h : x < a) (q : a.toInt ≤ b.toInt) : x < b := Int32.lt_iff_toInt_lt.mpr (Int.lt_of_lt_of_le (Int32.lt_iff_toInt_lt.mp h) q)
theorem own_dn {x a b : Int32} (h : ¬ x < a) (q : b.toInt ≤ a.toInt) : ¬ x < b := fun z => h (own_up z q)
theorem own_neInt {args : Array Value} {first s : State} {o : Option Outcome} {idx : List Nat} {t : Term} {x n : Int32} (ht : t.eval args first o idx s = some (.int x)) (h : (Jvm.Cond.not (Jvm.Cond.eq t (.int n))).value args first o s idx = some true) : ¬ x = n := by
  simpa [Cond.value, Term.eval, ht] using h

theorem own_len {Z : State} {args : Array Value} {t : Term} {a : Addr} {cl : Cell} {ty : FieldType} {n : Int32} (ev : t.eval args Z none [] Z = some (.ref a)) (A : Arr Z Z.heap a cl ty) (h : (Term.length t).eval args Z none [] Z = some (.int n)) : cl.slots.size < 2 ^ 31 ∧ cl.slots.size.toInt32 = n := by
  have q := A.fin (U := Z) (Vm.Alike.refl _)
  simp only [Term.eval, ev, q, Option.bind_eq_bind, Option.bind_some, Option.pure_def] at h
  split at h
  · rename_i hlt; exact ⟨hlt, by simpa using h⟩
  · simp at h

theorem own_nar {v : Value} {c : String} (h : v.isRef = true) : narrow (.object c) v = v := by cases v <;> first | rfl | simp [Value.isRef] at h
theorem own_fits {v : Value} {c : String} (h : v.isRef = true) : fits (.object c) v = true := by cases v <;> first | rfl | simp [Value.isRef] at h
theorem own_cat {v : Value} (h : v.isRef = true) : v.category = 1 := by cases v <;> first | rfl | simp [Value.isRef] at h

theorem own_notOf {Z : State} {a0 : Array Value} {C S K : String} {n : Nat} (w : (Jvm.Cond.superclass C S).before a0 Z = true) (w0 : (Jvm.Cond.noSuperclass S).before a0 Z = true) (wk : (Jvm.Cond.instantiable K n).before a0 Z = true) (h1 : C ≠ K) (h2 : S ≠ K) :
    ∃ c t, Z.vm.findClass C = some c ∧ Z.vm.findClass K = some t ∧ Z.vm.assignable c t = false := by
  obtain ⟨t, k', g0, g2, g5, g7, -⟩ := Cond.instantiable_spec wk
  obtain ⟨c, h0⟩ := found_sup w
  obtain ⟨p, k, kp, q1, q2, q3, q4, q5, q6, q7⟩ := Cond.superclass_spec h0 w
  obtain ⟨c0, k0, r1, r2, r3, -, -⟩ := Cond.noSuperclass_spec w0
  cases q1.symm.trans r1
  have ne1 := ids_ne h0 g0 h1
  have ne2 := ids_ne r1 g0 h2
  have g8 := (Bool.or_eq_false_iff.mp g7).1
  have n3 : ∀ fuel, Z.vm.isSubclassAux fuel c t = false := by
    intro fuel
    cases fuel with
    | zero => rfl
    | succ f =>
      cases f with
      | zero => simp [Vm.isSubclassAux, ne1, q2, q4]
      | succ g => simp [Vm.isSubclassAux, ne1, ne2, q2, q4, r2, r3]
  refine ⟨c, t, h0, g0, ?_⟩
  show Z.vm.assignableAux (255 + 1) c t = false
  simp [Vm.assignableAux, ne1, q2, g2, q5, g5, g8, Vm.isSubclass, n3]

theorem own_selP {Z s : State} {a0 args : Array Value} {y : MethodName} {n : Nat} (hZ : Z.Warmed39 s.vm) (wi : (Jvm.Cond.instantiable y.cls n).before a0 Z = true) (wp : (Jvm.Cond.privateMethod y).before a0 Z = true) (wm : (Jvm.Cond.instanceMethod y).before a0 Z = true) (hy : y.cls ≠ "java/lang/invoke/MethodHandle" ∧ y.cls ≠ "java/lang/invoke/VarHandle") : (Jvm.Cond.selects y.cls y y).before args s = true := by
  obtain ⟨c, k, hc, hk, -, hni, -⟩ := Cond.instantiable_spec (mvT (s := s) (args := args) hZ wi)
  exact selects_self_of_private hc hk (Bool.or_eq_false_iff.mp hni).1 (Cond.privateMethod_at (mvP hZ wp (args := #[]))) (mvT hZ wm) hy

theorem own_neS {Z : State} {h : Heap} {a b u w : Addr} {C f d : String} {k k' : ClassId} {ty : FieldType} {z z' : Int32} {vs vs' : List Value} {dv dv' : Value} (Fa : Fld Z h a C f d (.ref u)) (Va : Arv Z h u k ty z vs dv) (Fb : Fld Z h b C f d (.ref w)) (Vb : Arv Z h w k' ty z' vs' dv') (hn : z ≠ z' ∨ ∃ i : Nat, i < z.toNatClampNeg ∧ vs.getD i dv ≠ vs'.getD i dv') : a ≠ b := fun e => by
  subst e
  have hu : u = w := by
    rcases Decidable.em (u = w) with q | q
    · exact q
    · exact absurd rfl (Fld.ne Fa Fb (fun x => q (Value.ref.inj x)))
  subst hu
  obtain ⟨c1, A1, -, S1, N1, H1, -⟩ := Va
  obtain ⟨c2, A2, -, S2, N2, H2, -⟩ := Vb
  cases A1.1.symm.trans A2.1
  rcases hn with hn | ⟨i, hi, hn⟩
  · exact hn ((len_of S1 N1).symm.trans (len_of S2 N2))
  · have q1 := H1 i (by rw [S1]; exact hi)
    have q2 := H2 i (by rw [S1]; exact hi)
    exact hn (Option.some.inj (q1.symm.trans q2))
def Wd (Z : State) (w_COMMUNITY : Addr) (w_USER_GROUP : Addr) (w_OBJECT_GROUP : Addr) (w_ACTION_GROUP : Addr) (w_NAMESPACE : Addr) (w_USER : Addr) (w_TRUST_ANCHOR : Addr) (w_SERVICE_TYPE : Addr) (w_OBJECT : Addr) : Prop :=
  Sta Z Z.heap "com/example/polity/polity/model/Entry$Kind" "COMMUNITY" "Lcom/example/polity/polity/model/Entry$Kind;" (.ref w_COMMUNITY) ∧
  Exa Z Z.heap w_COMMUNITY "com/example/polity/polity/model/Entry$Kind" ∧
  Sta Z Z.heap "com/example/polity/polity/model/Entry$Kind" "USER_GROUP" "Lcom/example/polity/polity/model/Entry$Kind;" (.ref w_USER_GROUP) ∧
  Exa Z Z.heap w_USER_GROUP "com/example/polity/polity/model/Entry$Kind" ∧
  Fld Z Z.heap w_COMMUNITY "java/lang/Enum" "ordinal" "I" (.int (0 : Int32)) ∧
  Fld Z Z.heap w_USER_GROUP "java/lang/Enum" "ordinal" "I" (.int (6 : Int32)) ∧
  Sta Z Z.heap "com/example/polity/polity/model/Entry$Kind" "OBJECT_GROUP" "Lcom/example/polity/polity/model/Entry$Kind;" (.ref w_OBJECT_GROUP) ∧
  Exa Z Z.heap w_OBJECT_GROUP "com/example/polity/polity/model/Entry$Kind" ∧
  Fld Z Z.heap w_OBJECT_GROUP "java/lang/Enum" "ordinal" "I" (.int (7 : Int32)) ∧
  Sta Z Z.heap "com/example/polity/polity/model/Entry$Kind" "ACTION_GROUP" "Lcom/example/polity/polity/model/Entry$Kind;" (.ref w_ACTION_GROUP) ∧
  Exa Z Z.heap w_ACTION_GROUP "com/example/polity/polity/model/Entry$Kind" ∧
  Fld Z Z.heap w_ACTION_GROUP "java/lang/Enum" "ordinal" "I" (.int (8 : Int32)) ∧
  Sta Z Z.heap "com/example/polity/polity/model/Entry$Kind" "NAMESPACE" "Lcom/example/polity/polity/model/Entry$Kind;" (.ref w_NAMESPACE) ∧
  Exa Z Z.heap w_NAMESPACE "com/example/polity/polity/model/Entry$Kind" ∧
  Fld Z Z.heap w_NAMESPACE "java/lang/Enum" "ordinal" "I" (.int (3 : Int32)) ∧
  Sta Z Z.heap "com/example/polity/polity/model/Entry$Kind" "USER" "Lcom/example/polity/polity/model/Entry$Kind;" (.ref w_USER) ∧
  Exa Z Z.heap w_USER "com/example/polity/polity/model/Entry$Kind" ∧
  Fld Z Z.heap w_USER "java/lang/Enum" "ordinal" "I" (.int (2 : Int32)) ∧
  Sta Z Z.heap "com/example/polity/polity/model/Entry$Kind" "TRUST_ANCHOR" "Lcom/example/polity/polity/model/Entry$Kind;" (.ref w_TRUST_ANCHOR) ∧
  Exa Z Z.heap w_TRUST_ANCHOR "com/example/polity/polity/model/Entry$Kind" ∧
  Fld Z Z.heap w_TRUST_ANCHOR "java/lang/Enum" "ordinal" "I" (.int (1 : Int32)) ∧
  Sta Z Z.heap "com/example/polity/polity/model/Entry$Kind" "SERVICE_TYPE" "Lcom/example/polity/polity/model/Entry$Kind;" (.ref w_SERVICE_TYPE) ∧
  Exa Z Z.heap w_SERVICE_TYPE "com/example/polity/polity/model/Entry$Kind" ∧
  Fld Z Z.heap w_SERVICE_TYPE "java/lang/Enum" "ordinal" "I" (.int (4 : Int32)) ∧
  Sta Z Z.heap "com/example/polity/polity/model/Entry$Kind" "OBJECT" "Lcom/example/polity/polity/model/Entry$Kind;" (.ref w_OBJECT) ∧
  Exa Z Z.heap w_OBJECT "com/example/polity/polity/model/Entry$Kind" ∧
  Fld Z Z.heap w_OBJECT "java/lang/Enum" "ordinal" "I" (.int (5 : Int32))
theorem pn_0 : plainName "com/example/polity/polity/model/KindIsGroupPinLaw" = true := by first | (simp [plainName, overriddenIn]; done) | decide +kernel
theorem pn_1 : plainName "com/example/polity/polity/model/Entry$Kind" = true := by first | (simp [plainName, overriddenIn]; done) | decide +kernel
theorem pd_0 : parseMethodDescriptor "(I)Lcom/example/polity/polity/model/Entry$Kind;" = some ⟨[.int], some (.object "com/example/polity/polity/model/Entry$Kind")⟩ := by decide +kernel
theorem pd_1 : parseMethodDescriptor "()Z" = some ⟨[], some .boolean⟩ := by decide +kernel
theorem own_k (x : Int32) : (x &&& (2147483647 : Int32)) % (9 : Int32) = (0 : Int32) ∨ (x &&& (2147483647 : Int32)) % (9 : Int32) = (1 : Int32) ∨ (x &&& (2147483647 : Int32)) % (9 : Int32) = (2 : Int32) ∨ (x &&& (2147483647 : Int32)) % (9 : Int32) = (3 : Int32) ∨ (x &&& (2147483647 : Int32)) % (9 : Int32) = (4 : Int32) ∨ (x &&& (2147483647 : Int32)) % (9 : Int32) = (5 : Int32) ∨ (x &&& (2147483647 : Int32)) % (9 : Int32) = (6 : Int32) ∨ (x &&& (2147483647 : Int32)) % (9 : Int32) = (7 : Int32) ∨ (x &&& (2147483647 : Int32)) % (9 : Int32) = (8 : Int32) := by
  have h1 := c_mask x (2147483647 : Int32) 31 (by decide) (by decide)
  have h0 : 0 ≤ x.toInt % (2 ^ 31 : Nat) := Int.emod_nonneg _ (by decide)
  have h2 := (c_irem (x &&& (2147483647 : Int32)) (9 : Int32) 9 rfl).1 (by rw [h1]; exact h0)
  have l0 : ((0 : Int32)).toInt = 0 := rfl
  have l1 : ((1 : Int32)).toInt = 1 := rfl
  have l2 : ((2 : Int32)).toInt = 2 := rfl
  have l3 : ((3 : Int32)).toInt = 3 := rfl
  have l4 : ((4 : Int32)).toInt = 4 := rfl
  have l5 : ((5 : Int32)).toInt = 5 := rfl
  have l6 : ((6 : Int32)).toInt = 6 := rfl
  have l7 : ((7 : Int32)).toInt = 7 := rfl
  have l8 : ((8 : Int32)).toInt = 8 := rfl
  simp only [← Int32.toInt_inj, l0, l1, l2, l3, l4, l5, l6, l7, l8]
  omega

theorem d1_0 : decode method_3_code 0 = .ok (.iload_n 0, 1) := by decide +kernel
theorem d1_1 : decode method_3_code 1 = .ok (.ifCond .ne 7, 3) := by decide +kernel
theorem d1_4 : decode method_3_code 4 = .ok (.getstatic 20, 3) := by decide +kernel
theorem d1_7 : decode method_3_code 7 = .ok (.areturn, 1) := by decide +kernel
theorem d1_8 : decode method_3_code 8 = .ok (.iload_n 0, 1) := by decide +kernel
theorem d1_9 : decode method_3_code 9 = .ok (.iconst 1, 1) := by decide +kernel
theorem d1_10 : decode method_3_code 10 = .ok (.if_icmp .ne 7, 3) := by decide +kernel
theorem d1_13 : decode method_3_code 13 = .ok (.getstatic 24, 3) := by decide +kernel
theorem d1_16 : decode method_3_code 16 = .ok (.areturn, 1) := by decide +kernel
theorem d1_17 : decode method_3_code 17 = .ok (.iload_n 0, 1) := by decide +kernel
theorem d1_18 : decode method_3_code 18 = .ok (.iconst 2, 1) := by decide +kernel
theorem d1_19 : decode method_3_code 19 = .ok (.if_icmp .ne 7, 3) := by decide +kernel
theorem d1_22 : decode method_3_code 22 = .ok (.getstatic 27, 3) := by decide +kernel
theorem d1_25 : decode method_3_code 25 = .ok (.areturn, 1) := by decide +kernel
theorem d1_26 : decode method_3_code 26 = .ok (.iload_n 0, 1) := by decide +kernel
theorem d1_27 : decode method_3_code 27 = .ok (.iconst 3, 1) := by decide +kernel
theorem d1_28 : decode method_3_code 28 = .ok (.if_icmp .ne 7, 3) := by decide +kernel
theorem d1_31 : decode method_3_code 31 = .ok (.getstatic 30, 3) := by decide +kernel
theorem d1_34 : decode method_3_code 34 = .ok (.areturn, 1) := by decide +kernel
theorem d1_35 : decode method_3_code 35 = .ok (.iload_n 0, 1) := by decide +kernel
theorem d1_36 : decode method_3_code 36 = .ok (.iconst 4, 1) := by decide +kernel
theorem d1_37 : decode method_3_code 37 = .ok (.if_icmp .ne 7, 3) := by decide +kernel
theorem d1_40 : decode method_3_code 40 = .ok (.getstatic 33, 3) := by decide +kernel
theorem d1_43 : decode method_3_code 43 = .ok (.areturn, 1) := by decide +kernel
theorem d1_44 : decode method_3_code 44 = .ok (.iload_n 0, 1) := by decide +kernel
theorem d1_45 : decode method_3_code 45 = .ok (.iconst 5, 1) := by decide +kernel
theorem d1_46 : decode method_3_code 46 = .ok (.if_icmp .ne 7, 3) := by decide +kernel
theorem d1_49 : decode method_3_code 49 = .ok (.getstatic 36, 3) := by decide +kernel
theorem d1_52 : decode method_3_code 52 = .ok (.areturn, 1) := by decide +kernel
theorem d1_53 : decode method_3_code 53 = .ok (.iload_n 0, 1) := by decide +kernel
theorem d1_54 : decode method_3_code 54 = .ok (.bipush 6, 2) := by decide +kernel
theorem d1_56 : decode method_3_code 56 = .ok (.if_icmp .ne 7, 3) := by decide +kernel
theorem d1_59 : decode method_3_code 59 = .ok (.getstatic 39, 3) := by decide +kernel
theorem d1_62 : decode method_3_code 62 = .ok (.areturn, 1) := by decide +kernel
theorem d1_63 : decode method_3_code 63 = .ok (.iload_n 0, 1) := by decide +kernel
theorem d1_64 : decode method_3_code 64 = .ok (.bipush 7, 2) := by decide +kernel
theorem d1_66 : decode method_3_code 66 = .ok (.if_icmp .ne 7, 3) := by decide +kernel
theorem d1_69 : decode method_3_code 69 = .ok (.getstatic 42, 3) := by decide +kernel
theorem d1_72 : decode method_3_code 72 = .ok (.areturn, 1) := by decide +kernel
theorem d1_73 : decode method_3_code 73 = .ok (.getstatic 45, 3) := by decide +kernel
theorem d1_76 : decode method_3_code 76 = .ok (.areturn, 1) := by decide +kernel
theorem ef_1 (m : MethodId) (p0 : Int32) : entryFrame m #[(.int p0)] 1 = mkF m 0 #[iv p0] [] := by first | (simp [entryFrame, mkF, argsToLocals, Value.category]; done) | rfl
def f1 (p0 : Int32) (w_COMMUNITY : Addr) (w_USER_GROUP : Addr) (w_OBJECT_GROUP : Addr) (w_ACTION_GROUP : Addr) (w_NAMESPACE : Addr) (w_USER : Addr) (w_TRUST_ANCHOR : Addr) (w_SERVICE_TYPE : Addr) (w_OBJECT : Addr) : Addr := if p0 = (0 : Int32) then w_COMMUNITY else (if p0 = (1 : Int32) then w_TRUST_ANCHOR else (if p0 = (2 : Int32) then w_USER else (if p0 = (3 : Int32) then w_NAMESPACE else (if p0 = (4 : Int32) then w_SERVICE_TYPE else (if p0 = (5 : Int32) then w_OBJECT else (if p0 = (6 : Int32) then w_USER_GROUP else (if p0 = (7 : Int32) then w_OBJECT_GROUP else w_ACTION_GROUP)))))))
def Q1 (Z : State) (p0 : Int32) (w_COMMUNITY : Addr) (w_USER_GROUP : Addr) (w_OBJECT_GROUP : Addr) (w_ACTION_GROUP : Addr) (w_NAMESPACE : Addr) (w_USER : Addr) (w_TRUST_ANCHOR : Addr) (w_SERVICE_TYPE : Addr) (w_OBJECT : Addr) (h0 : Heap) (n0 : Nat) (v : Option Value) (h : Heap) (L : List Loc) : Prop := v = some (.ref (f1 p0 w_COMMUNITY w_USER_GROUP w_OBJECT_GROUP w_ACTION_GROUP w_NAMESPACE w_USER w_TRUST_ANCHOR w_SERVICE_TYPE w_OBJECT)) ∧ Fr n0 L ∧ h = h0
set_option maxRecDepth 65536 in
set_option maxHeartbeats 40000000 in
theorem rm1 (l : Launch) (Z : State) (ar : Array Value) (hw : ∀ d ∈ tables_1, d.before ar Z = true) (ws : List Jvm.Cond) (p0 : Int32) (w_COMMUNITY : Addr) (w_USER_GROUP : Addr) (w_OBJECT_GROUP : Addr) (w_ACTION_GROUP : Addr) (w_NAMESPACE : Addr) (w_USER : Addr) (w_TRUST_ANCHOR : Addr) (w_SERVICE_TYPE : Addr) (w_OBJECT : Addr) (h0 : Heap) (n0 : Nat) (O0 : Old Z n0 h0) (HW : Wd Z w_COMMUNITY w_USER_GROUP w_OBJECT_GROUP w_ACTION_GROUP w_NAMESPACE w_USER w_TRUST_ANCHOR w_SERVICE_TYPE w_OBJECT) :
    MetFree l y1 (head1 (Jvm.Cond.code y1 method_3_code 1 (some (.object "com/example/polity/polity/model/Entry$Kind")) :: ws) ({ frames := 0, cells := 0, slots := 0, locals := 0 } : Room)) (fun a U => a = #[(.int p0)] ∧ Z.Warmed39 U.vm ∧ U.heap = h0) (fun _ _ _ _ _ => True) (fun _ U o U' => ∃ v L, o = .returned v ∧ Q1 Z p0 w_COMMUNITY w_USER_GROUP w_OBJECT_GROUP w_ACTION_GROUP w_NAMESPACE w_USER w_TRUST_ANCHOR w_SERVICE_TYPE w_OBJECT h0 n0 v U'.heap L ∧ FrameEnd U o U' L ({ frames := 0, cells := 0, slots := 0, locals := 0 } : Room).cells ({ frames := 0, cells := 0, slots := 0, locals := 0 } : Room).slots) := by
 refine MetFree.of_bodySF (plainFor_of_name pn_0) hisR ?_
 intro p e s m args below meth c s₁ Bd hml0 hP hK
 obtain ⟨rfl, hZ, hh⟩ := hP
 have hx := Bd.exec
 have hby := Bd.bytes
 have hml : c.maxLocals = 1 := hml0
 have hown : s.vm.findClass "com/example/polity/polity/model/KindIsGroupPinLaw" = some m.cls := findClass_of_methodNamed Bd.named
 have hnm := (name_of_methodNamed Bd.named Bd.method).1
 have X0 : Stand p l e ({ frames := 0, cells := 0, slots := 0, locals := 0 } : Room) s m #[(.int p0)] below meth c s₁ [] 0 0 := Stand.of_body Bd
 have e0 : s₁.heap = h0 := by rw [← hh, Bd.state]; rfl
 have N0 := Fr.nil n0
 have Z0 : n0 ≤ h0.size := Nat.le_trans (Nat.le_of_eq O0.1.symm) O0.2.1
 obtain ⟨S0, hS0⟩ : ∃ z, z = s₁.setTop (entryFrame m #[(.int p0)] 1) := ⟨_, rfl⟩
 have pre0 : ∀ tg, AT p e below s₁ m 0 #[iv p0] [] tg → Steps p.tables e below S0 tg := fun tg kg => by rw [hS0]; exact castTop (ef_1 m p0) kg
 obtain ⟨S_COMMUNITY, E_COMMUNITY, S_USER_GROUP, E_USER_GROUP, F_ordinal_COMMUNITY, F_ordinal_USER_GROUP, S_OBJECT_GROUP, E_OBJECT_GROUP, F_ordinal_OBJECT_GROUP, S_ACTION_GROUP, E_ACTION_GROUP, F_ordinal_ACTION_GROUP, S_NAMESPACE, E_NAMESPACE, F_ordinal_NAMESPACE, S_USER, E_USER, F_ordinal_USER, S_TRUST_ANCHOR, E_TRUST_ANCHOR, F_ordinal_TRUST_ANCHOR, S_SERVICE_TYPE, E_SERVICE_TYPE, F_ordinal_SERVICE_TYPE, S_OBJECT, E_OBJECT, F_ordinal_OBJECT⟩ := id HW
 have pre1 : ∀ tg, AT p e below s₁ m 1 #[iv p0] [(.int p0)] tg → Steps p.tables e below S0 tg := fun tg kg => pre0 tg (by
  refine XS.iloadN X0.here hx rfl (hb hby d1_0) rfl ?_
  exact kg)
 rcases Decidable.em (p0 = (0 : Int32)) with hc2 | hc2
 ·
  obtain ⟨T3, X3, e3, st3⟩ := getS2 X0 hx hZ hown (host := "") (Or.inl (ow hw 5 rfl)) Via.refl e0 (S_COMMUNITY.ext O0.2) (g := (mkF m 4 #[iv p0] [])) rfl (hb hby d1_4)
  obtain ⟨fs, hr, hrun, hended, hW, hsame⟩ := X3.leave (v := some (.ref w_COMMUNITY)) (fun h => by rw [Bd.returns] at h; cases h)
  subst hS0
  refine ⟨_, _, pre1 _ ?_, hrun, hended, _, _, rfl, ?_, ⟨_, rfl⟩, hW, hsame.mono (by decide) (by decide)⟩
  ·
   refine XS.ifNo X0.here hx rfl (hb hby d1_1) rfl (XT.i0_ne_f hc2) ?_
   show AT p e below s₁ m 4 #[iv p0] [] _
   refine st3 _ ?_
   show AT p e below T3 m 7 #[iv p0] [(.ref w_COMMUNITY)] _
   exact retOut X3 hx (t := (.object "com/example/polity/polity/model/Entry$Kind")) (i := .areturn) Bd.returns rfl (Or.inr (Or.inr (Or.inr (Or.inr ⟨rfl, rfl, rfl⟩)))) (hb hby d1_7) hr
  ·
   show Q1 Z p0 w_COMMUNITY w_USER_GROUP w_OBJECT_GROUP w_ACTION_GROUP w_NAMESPACE w_USER w_TRUST_ANCHOR w_SERVICE_TYPE w_OBJECT h0 n0 _ T3.heap _
   rw [e3]
   exact ⟨(by rw [f1, if_pos hc2]), N0, rfl⟩
 ·
  have pre4 : ∀ tg, AT p e below s₁ m 10 #[iv p0] [(.int (1 : Int32)), (.int p0)] tg → Steps p.tables e below S0 tg := fun tg kg => pre1 tg (by
   refine XS.ifYes X0.here hx rfl (pc0 := 1) (pc' := 8) rfl (hb hby d1_1) rfl (XT.i0_ne_t hc2) (by decide) (by decide) ?_
   show AT p e below s₁ m 8 #[iv p0] [] _
   refine XS.iloadN X0.here hx rfl (hb hby d1_8) rfl ?_
   show AT p e below s₁ m 9 #[iv p0] [(.int p0)] _
   refine XS.iconst X0.here hx rfl (hb hby d1_9) ?_
   exact kg)
  rcases Decidable.em (p0 = (1 : Int32)) with hc5 | hc5
  ·
   obtain ⟨T6, X6, e6, st6⟩ := getS2 X0 hx hZ hown (host := "") (Or.inl (ow hw 23 rfl)) Via.refl e0 (S_TRUST_ANCHOR.ext O0.2) (g := (mkF m 13 #[iv p0] [])) rfl (hb hby d1_13)
   obtain ⟨fs, hr, hrun, hended, hW, hsame⟩ := X6.leave (v := some (.ref w_TRUST_ANCHOR)) (fun h => by rw [Bd.returns] at h; cases h)
   subst hS0
   refine ⟨_, _, pre4 _ ?_, hrun, hended, _, _, rfl, ?_, ⟨_, rfl⟩, hW, hsame.mono (by decide) (by decide)⟩
   ·
    refine XS.icmpNo X0.here hx rfl (hb hby d1_10) rfl (XT.ii_ne_f hc5) ?_
    show AT p e below s₁ m 13 #[iv p0] [] _
    refine st6 _ ?_
    show AT p e below T6 m 16 #[iv p0] [(.ref w_TRUST_ANCHOR)] _
    exact retOut X6 hx (t := (.object "com/example/polity/polity/model/Entry$Kind")) (i := .areturn) Bd.returns rfl (Or.inr (Or.inr (Or.inr (Or.inr ⟨rfl, rfl, rfl⟩)))) (hb hby d1_16) hr
   ·
    show Q1 Z p0 w_COMMUNITY w_USER_GROUP w_OBJECT_GROUP w_ACTION_GROUP w_NAMESPACE w_USER w_TRUST_ANCHOR w_SERVICE_TYPE w_OBJECT h0 n0 _ T6.heap _
    rw [e6]
    exact ⟨(by rw [f1, if_neg hc2, if_pos hc5]), N0, rfl⟩
  ·
   have pre7 : ∀ tg, AT p e below s₁ m 19 #[iv p0] [(.int (2 : Int32)), (.int p0)] tg → Steps p.tables e below S0 tg := fun tg kg => pre4 tg (by
    refine XS.icmpYes X0.here hx rfl (pc0 := 10) (pc' := 17) rfl (hb hby d1_10) rfl (XT.ii_ne_t hc5) (by decide) (by decide) ?_
    show AT p e below s₁ m 17 #[iv p0] [] _
    refine XS.iloadN X0.here hx rfl (hb hby d1_17) rfl ?_
    show AT p e below s₁ m 18 #[iv p0] [(.int p0)] _
    refine XS.iconst X0.here hx rfl (hb hby d1_18) ?_
    exact kg)
   rcases Decidable.em (p0 = (2 : Int32)) with hc8 | hc8
   ·
    obtain ⟨T9, X9, e9, st9⟩ := getS2 X0 hx hZ hown (host := "") (Or.inl (ow hw 21 rfl)) Via.refl e0 (S_USER.ext O0.2) (g := (mkF m 22 #[iv p0] [])) rfl (hb hby d1_22)
    obtain ⟨fs, hr, hrun, hended, hW, hsame⟩ := X9.leave (v := some (.ref w_USER)) (fun h => by rw [Bd.returns] at h; cases h)
    subst hS0
    refine ⟨_, _, pre7 _ ?_, hrun, hended, _, _, rfl, ?_, ⟨_, rfl⟩, hW, hsame.mono (by decide) (by decide)⟩
    ·
     refine XS.icmpNo X0.here hx rfl (hb hby d1_19) rfl (XT.ii_ne_f hc8) ?_
     show AT p e below s₁ m 22 #[iv p0] [] _
     refine st9 _ ?_
     show AT p e below T9 m 25 #[iv p0] [(.ref w_USER)] _
     exact retOut X9 hx (t := (.object "com/example/polity/polity/model/Entry$Kind")) (i := .areturn) Bd.returns rfl (Or.inr (Or.inr (Or.inr (Or.inr ⟨rfl, rfl, rfl⟩)))) (hb hby d1_25) hr
    ·
     show Q1 Z p0 w_COMMUNITY w_USER_GROUP w_OBJECT_GROUP w_ACTION_GROUP w_NAMESPACE w_USER w_TRUST_ANCHOR w_SERVICE_TYPE w_OBJECT h0 n0 _ T9.heap _
     rw [e9]
     exact ⟨(by rw [f1, if_neg hc2, if_neg hc5, if_pos hc8]), N0, rfl⟩
   ·
    have pre10 : ∀ tg, AT p e below s₁ m 28 #[iv p0] [(.int (3 : Int32)), (.int p0)] tg → Steps p.tables e below S0 tg := fun tg kg => pre7 tg (by
     refine XS.icmpYes X0.here hx rfl (pc0 := 19) (pc' := 26) rfl (hb hby d1_19) rfl (XT.ii_ne_t hc8) (by decide) (by decide) ?_
     show AT p e below s₁ m 26 #[iv p0] [] _
     refine XS.iloadN X0.here hx rfl (hb hby d1_26) rfl ?_
     show AT p e below s₁ m 27 #[iv p0] [(.int p0)] _
     refine XS.iconst X0.here hx rfl (hb hby d1_27) ?_
     exact kg)
    rcases Decidable.em (p0 = (3 : Int32)) with hc11 | hc11
    ·
     obtain ⟨T12, X12, e12, st12⟩ := getS2 X0 hx hZ hown (host := "") (Or.inl (ow hw 19 rfl)) Via.refl e0 (S_NAMESPACE.ext O0.2) (g := (mkF m 31 #[iv p0] [])) rfl (hb hby d1_31)
     obtain ⟨fs, hr, hrun, hended, hW, hsame⟩ := X12.leave (v := some (.ref w_NAMESPACE)) (fun h => by rw [Bd.returns] at h; cases h)
     subst hS0
     refine ⟨_, _, pre10 _ ?_, hrun, hended, _, _, rfl, ?_, ⟨_, rfl⟩, hW, hsame.mono (by decide) (by decide)⟩
     ·
      refine XS.icmpNo X0.here hx rfl (hb hby d1_28) rfl (XT.ii_ne_f hc11) ?_
      show AT p e below s₁ m 31 #[iv p0] [] _
      refine st12 _ ?_
      show AT p e below T12 m 34 #[iv p0] [(.ref w_NAMESPACE)] _
      exact retOut X12 hx (t := (.object "com/example/polity/polity/model/Entry$Kind")) (i := .areturn) Bd.returns rfl (Or.inr (Or.inr (Or.inr (Or.inr ⟨rfl, rfl, rfl⟩)))) (hb hby d1_34) hr
     ·
      show Q1 Z p0 w_COMMUNITY w_USER_GROUP w_OBJECT_GROUP w_ACTION_GROUP w_NAMESPACE w_USER w_TRUST_ANCHOR w_SERVICE_TYPE w_OBJECT h0 n0 _ T12.heap _
      rw [e12]
      exact ⟨(by rw [f1, if_neg hc2, if_neg hc5, if_neg hc8, if_pos hc11]), N0, rfl⟩
    ·
     have pre13 : ∀ tg, AT p e below s₁ m 37 #[iv p0] [(.int (4 : Int32)), (.int p0)] tg → Steps p.tables e below S0 tg := fun tg kg => pre10 tg (by
      refine XS.icmpYes X0.here hx rfl (pc0 := 28) (pc' := 35) rfl (hb hby d1_28) rfl (XT.ii_ne_t hc11) (by decide) (by decide) ?_
      show AT p e below s₁ m 35 #[iv p0] [] _
      refine XS.iloadN X0.here hx rfl (hb hby d1_35) rfl ?_
      show AT p e below s₁ m 36 #[iv p0] [(.int p0)] _
      refine XS.iconst X0.here hx rfl (hb hby d1_36) ?_
      exact kg)
     rcases Decidable.em (p0 = (4 : Int32)) with hc14 | hc14
     ·
      obtain ⟨T15, X15, e15, st15⟩ := getS2 X0 hx hZ hown (host := "") (Or.inl (ow hw 26 rfl)) Via.refl e0 (S_SERVICE_TYPE.ext O0.2) (g := (mkF m 40 #[iv p0] [])) rfl (hb hby d1_40)
      obtain ⟨fs, hr, hrun, hended, hW, hsame⟩ := X15.leave (v := some (.ref w_SERVICE_TYPE)) (fun h => by rw [Bd.returns] at h; cases h)
      subst hS0
      refine ⟨_, _, pre13 _ ?_, hrun, hended, _, _, rfl, ?_, ⟨_, rfl⟩, hW, hsame.mono (by decide) (by decide)⟩
      ·
       refine XS.icmpNo X0.here hx rfl (hb hby d1_37) rfl (XT.ii_ne_f hc14) ?_
       show AT p e below s₁ m 40 #[iv p0] [] _
       refine st15 _ ?_
       show AT p e below T15 m 43 #[iv p0] [(.ref w_SERVICE_TYPE)] _
       exact retOut X15 hx (t := (.object "com/example/polity/polity/model/Entry$Kind")) (i := .areturn) Bd.returns rfl (Or.inr (Or.inr (Or.inr (Or.inr ⟨rfl, rfl, rfl⟩)))) (hb hby d1_43) hr
      ·
       show Q1 Z p0 w_COMMUNITY w_USER_GROUP w_OBJECT_GROUP w_ACTION_GROUP w_NAMESPACE w_USER w_TRUST_ANCHOR w_SERVICE_TYPE w_OBJECT h0 n0 _ T15.heap _
       rw [e15]
       exact ⟨(by rw [f1, if_neg hc2, if_neg hc5, if_neg hc8, if_neg hc11, if_pos hc14]), N0, rfl⟩
     ·
      have pre16 : ∀ tg, AT p e below s₁ m 46 #[iv p0] [(.int (5 : Int32)), (.int p0)] tg → Steps p.tables e below S0 tg := fun tg kg => pre13 tg (by
       refine XS.icmpYes X0.here hx rfl (pc0 := 37) (pc' := 44) rfl (hb hby d1_37) rfl (XT.ii_ne_t hc14) (by decide) (by decide) ?_
       show AT p e below s₁ m 44 #[iv p0] [] _
       refine XS.iloadN X0.here hx rfl (hb hby d1_44) rfl ?_
       show AT p e below s₁ m 45 #[iv p0] [(.int p0)] _
       refine XS.iconst X0.here hx rfl (hb hby d1_45) ?_
       exact kg)
      rcases Decidable.em (p0 = (5 : Int32)) with hc17 | hc17
      ·
       obtain ⟨T18, X18, e18, st18⟩ := getS2 X0 hx hZ hown (host := "") (Or.inl (ow hw 30 rfl)) Via.refl e0 (S_OBJECT.ext O0.2) (g := (mkF m 49 #[iv p0] [])) rfl (hb hby d1_49)
       obtain ⟨fs, hr, hrun, hended, hW, hsame⟩ := X18.leave (v := some (.ref w_OBJECT)) (fun h => by rw [Bd.returns] at h; cases h)
       subst hS0
       refine ⟨_, _, pre16 _ ?_, hrun, hended, _, _, rfl, ?_, ⟨_, rfl⟩, hW, hsame.mono (by decide) (by decide)⟩
       ·
        refine XS.icmpNo X0.here hx rfl (hb hby d1_46) rfl (XT.ii_ne_f hc17) ?_
        show AT p e below s₁ m 49 #[iv p0] [] _
        refine st18 _ ?_
        show AT p e below T18 m 52 #[iv p0] [(.ref w_OBJECT)] _
        exact retOut X18 hx (t := (.object "com/example/polity/polity/model/Entry$Kind")) (i := .areturn) Bd.returns rfl (Or.inr (Or.inr (Or.inr (Or.inr ⟨rfl, rfl, rfl⟩)))) (hb hby d1_52) hr
       ·
        show Q1 Z p0 w_COMMUNITY w_USER_GROUP w_OBJECT_GROUP w_ACTION_GROUP w_NAMESPACE w_USER w_TRUST_ANCHOR w_SERVICE_TYPE w_OBJECT h0 n0 _ T18.heap _
        rw [e18]
        exact ⟨(by rw [f1, if_neg hc2, if_neg hc5, if_neg hc8, if_neg hc11, if_neg hc14, if_pos hc17]), N0, rfl⟩
      ·
       have pre19 : ∀ tg, AT p e below s₁ m 56 #[iv p0] [(.int (6 : Int32)), (.int p0)] tg → Steps p.tables e below S0 tg := fun tg kg => pre16 tg (by
        refine XS.icmpYes X0.here hx rfl (pc0 := 46) (pc' := 53) rfl (hb hby d1_46) rfl (XT.ii_ne_t hc17) (by decide) (by decide) ?_
        show AT p e below s₁ m 53 #[iv p0] [] _
        refine XS.iloadN X0.here hx rfl (hb hby d1_53) rfl ?_
        show AT p e below s₁ m 54 #[iv p0] [(.int p0)] _
        refine XS.bipush X0.here hx rfl (hb hby d1_54) ?_
        exact kg)
       rcases Decidable.em (p0 = (6 : Int32)) with hc20 | hc20
       ·
        obtain ⟨T21, X21, e21, st21⟩ := getS2 X0 hx hZ hown (host := "") (Or.inl (ow hw 29 rfl)) Via.refl e0 (S_USER_GROUP.ext O0.2) (g := (mkF m 59 #[iv p0] [])) rfl (hb hby d1_59)
        obtain ⟨fs, hr, hrun, hended, hW, hsame⟩ := X21.leave (v := some (.ref w_USER_GROUP)) (fun h => by rw [Bd.returns] at h; cases h)
        subst hS0
        refine ⟨_, _, pre19 _ ?_, hrun, hended, _, _, rfl, ?_, ⟨_, rfl⟩, hW, hsame.mono (by decide) (by decide)⟩
        ·
         refine XS.icmpNo X0.here hx rfl (hb hby d1_56) rfl (XT.ii_ne_f hc20) ?_
         show AT p e below s₁ m 59 #[iv p0] [] _
         refine st21 _ ?_
         show AT p e below T21 m 62 #[iv p0] [(.ref w_USER_GROUP)] _
         exact retOut X21 hx (t := (.object "com/example/polity/polity/model/Entry$Kind")) (i := .areturn) Bd.returns rfl (Or.inr (Or.inr (Or.inr (Or.inr ⟨rfl, rfl, rfl⟩)))) (hb hby d1_62) hr
        ·
         show Q1 Z p0 w_COMMUNITY w_USER_GROUP w_OBJECT_GROUP w_ACTION_GROUP w_NAMESPACE w_USER w_TRUST_ANCHOR w_SERVICE_TYPE w_OBJECT h0 n0 _ T21.heap _
         rw [e21]
         exact ⟨(by rw [f1, if_neg hc2, if_neg hc5, if_neg hc8, if_neg hc11, if_neg hc14, if_neg hc17, if_pos hc20]), N0, rfl⟩
       ·
        have pre22 : ∀ tg, AT p e below s₁ m 66 #[iv p0] [(.int (7 : Int32)), (.int p0)] tg → Steps p.tables e below S0 tg := fun tg kg => pre19 tg (by
         refine XS.icmpYes X0.here hx rfl (pc0 := 56) (pc' := 63) rfl (hb hby d1_56) rfl (XT.ii_ne_t hc20) (by decide) (by decide) ?_
         show AT p e below s₁ m 63 #[iv p0] [] _
         refine XS.iloadN X0.here hx rfl (hb hby d1_63) rfl ?_
         show AT p e below s₁ m 64 #[iv p0] [(.int p0)] _
         refine XS.bipush X0.here hx rfl (hb hby d1_64) ?_
         exact kg)
        rcases Decidable.em (p0 = (7 : Int32)) with hc23 | hc23
        ·
         obtain ⟨T24, X24, e24, st24⟩ := getS2 X0 hx hZ hown (host := "") (Or.inl (ow hw 25 rfl)) Via.refl e0 (S_OBJECT_GROUP.ext O0.2) (g := (mkF m 69 #[iv p0] [])) rfl (hb hby d1_69)
         obtain ⟨fs, hr, hrun, hended, hW, hsame⟩ := X24.leave (v := some (.ref w_OBJECT_GROUP)) (fun h => by rw [Bd.returns] at h; cases h)
         subst hS0
         refine ⟨_, _, pre22 _ ?_, hrun, hended, _, _, rfl, ?_, ⟨_, rfl⟩, hW, hsame.mono (by decide) (by decide)⟩
         ·
          refine XS.icmpNo X0.here hx rfl (hb hby d1_66) rfl (XT.ii_ne_f hc23) ?_
          show AT p e below s₁ m 69 #[iv p0] [] _
          refine st24 _ ?_
          show AT p e below T24 m 72 #[iv p0] [(.ref w_OBJECT_GROUP)] _
          exact retOut X24 hx (t := (.object "com/example/polity/polity/model/Entry$Kind")) (i := .areturn) Bd.returns rfl (Or.inr (Or.inr (Or.inr (Or.inr ⟨rfl, rfl, rfl⟩)))) (hb hby d1_72) hr
         ·
          show Q1 Z p0 w_COMMUNITY w_USER_GROUP w_OBJECT_GROUP w_ACTION_GROUP w_NAMESPACE w_USER w_TRUST_ANCHOR w_SERVICE_TYPE w_OBJECT h0 n0 _ T24.heap _
          rw [e24]
          exact ⟨(by rw [f1, if_neg hc2, if_neg hc5, if_neg hc8, if_neg hc11, if_neg hc14, if_neg hc17, if_neg hc20, if_pos hc23]), N0, rfl⟩
        ·
         obtain ⟨T25, X25, e25, st25⟩ := getS2 X0 hx hZ hown (host := "") (Or.inl (ow hw 28 rfl)) Via.refl e0 (S_ACTION_GROUP.ext O0.2) (g := (mkF m 73 #[iv p0] [])) rfl (hb hby d1_73)
         obtain ⟨fs, hr, hrun, hended, hW, hsame⟩ := X25.leave (v := some (.ref w_ACTION_GROUP)) (fun h => by rw [Bd.returns] at h; cases h)
         subst hS0
         refine ⟨_, _, pre22 _ ?_, hrun, hended, _, _, rfl, ?_, ⟨_, rfl⟩, hW, hsame.mono (by decide) (by decide)⟩
         ·
          refine XS.icmpYes X0.here hx rfl (pc0 := 66) (pc' := 73) rfl (hb hby d1_66) rfl (XT.ii_ne_t hc23) (by decide) (by decide) ?_
          show AT p e below s₁ m 73 #[iv p0] [] _
          refine st25 _ ?_
          show AT p e below T25 m 76 #[iv p0] [(.ref w_ACTION_GROUP)] _
          exact retOut X25 hx (t := (.object "com/example/polity/polity/model/Entry$Kind")) (i := .areturn) Bd.returns rfl (Or.inr (Or.inr (Or.inr (Or.inr ⟨rfl, rfl, rfl⟩)))) (hb hby d1_76) hr
         ·
          show Q1 Z p0 w_COMMUNITY w_USER_GROUP w_OBJECT_GROUP w_ACTION_GROUP w_NAMESPACE w_USER w_TRUST_ANCHOR w_SERVICE_TYPE w_OBJECT h0 n0 _ T25.heap _
          rw [e25]
          exact ⟨(by rw [f1, if_neg hc2, if_neg hc5, if_neg hc8, if_neg hc11, if_neg hc14, if_neg hc17, if_neg hc20, if_neg hc23]), N0, rfl⟩

theorem d2_0 : decode prog_30_method_5_code 0 = .ok (.aload_n 0, 1) := by decide +kernel
theorem d2_1 : decode prog_30_method_5_code 1 = .ok (.getstatic 22, 3) := by decide +kernel
theorem d2_4 : decode prog_30_method_5_code 4 = .ok (.if_acmp .eq 17, 3) := by decide +kernel
theorem d2_7 : decode prog_30_method_5_code 7 = .ok (.aload_n 0, 1) := by decide +kernel
theorem d2_8 : decode prog_30_method_5_code 8 = .ok (.getstatic 25, 3) := by decide +kernel
theorem d2_11 : decode prog_30_method_5_code 11 = .ok (.if_acmp .eq 10, 3) := by decide +kernel
theorem d2_14 : decode prog_30_method_5_code 14 = .ok (.aload_n 0, 1) := by decide +kernel
theorem d2_15 : decode prog_30_method_5_code 15 = .ok (.getstatic 28, 3) := by decide +kernel
theorem d2_18 : decode prog_30_method_5_code 18 = .ok (.if_acmp .ne 7, 3) := by decide +kernel
theorem d2_21 : decode prog_30_method_5_code 21 = .ok (.iconst 1, 1) := by decide +kernel
theorem d2_22 : decode prog_30_method_5_code 22 = .ok (.goto 4, 3) := by decide +kernel
theorem d2_25 : decode prog_30_method_5_code 25 = .ok (.iconst 0, 1) := by decide +kernel
theorem d2_26 : decode prog_30_method_5_code 26 = .ok (.ireturn, 1) := by decide +kernel
theorem ef_2 (m : MethodId) (a0 : Addr) : entryFrame m #[(.ref a0)] 1 = mkF m 0 #[rv a0] [] := by first | (simp [entryFrame, mkF, argsToLocals, Value.category]; done) | rfl
def f2 (a0 : Addr) (w_USER_GROUP : Addr) (w_OBJECT_GROUP : Addr) (w_ACTION_GROUP : Addr) : Int32 := if a0 = w_USER_GROUP then (1 : Int32) else (if a0 = w_OBJECT_GROUP then (1 : Int32) else (if a0 = w_ACTION_GROUP then (1 : Int32) else (0 : Int32)))
def Q2 (Z : State) (a0 : Addr) (w_COMMUNITY : Addr) (w_USER_GROUP : Addr) (w_OBJECT_GROUP : Addr) (w_ACTION_GROUP : Addr) (w_NAMESPACE : Addr) (w_USER : Addr) (w_TRUST_ANCHOR : Addr) (w_SERVICE_TYPE : Addr) (w_OBJECT : Addr) (h0 : Heap) (n0 : Nat) (v : Option Value) (h : Heap) (L : List Loc) : Prop := v = some (.int (f2 a0 w_USER_GROUP w_OBJECT_GROUP w_ACTION_GROUP)) ∧ Fr n0 L ∧ h = h0
set_option maxRecDepth 65536 in
set_option maxHeartbeats 40000000 in
theorem rm2 (l : Launch) (Z : State) (ar : Array Value) (hw : ∀ d ∈ tables_1, d.before ar Z = true) (ws : List Jvm.Cond) (a0 : Addr) (w_COMMUNITY : Addr) (w_USER_GROUP : Addr) (w_OBJECT_GROUP : Addr) (w_ACTION_GROUP : Addr) (w_NAMESPACE : Addr) (w_USER : Addr) (w_TRUST_ANCHOR : Addr) (w_SERVICE_TYPE : Addr) (w_OBJECT : Addr) (h0 : Heap) (n0 : Nat) (O0 : Old Z n0 h0) (HW : Wd Z w_COMMUNITY w_USER_GROUP w_OBJECT_GROUP w_ACTION_GROUP w_NAMESPACE w_USER w_TRUST_ANCHOR w_SERVICE_TYPE w_OBJECT) :
    MetFree l y2 (head1 (Jvm.Cond.code y2 prog_30_method_5_code 1 (some .boolean) :: ws) ({ frames := 0, cells := 0, slots := 0, locals := 0 } : Room)) (fun a U => a = #[(.ref a0)] ∧ Z.Warmed39 U.vm ∧ U.heap = h0) (fun _ _ _ _ _ => True) (fun _ U o U' => ∃ v L, o = .returned v ∧ Q2 Z a0 w_COMMUNITY w_USER_GROUP w_OBJECT_GROUP w_ACTION_GROUP w_NAMESPACE w_USER w_TRUST_ANCHOR w_SERVICE_TYPE w_OBJECT h0 n0 v U'.heap L ∧ FrameEnd U o U' L ({ frames := 0, cells := 0, slots := 0, locals := 0 } : Room).cells ({ frames := 0, cells := 0, slots := 0, locals := 0 } : Room).slots) := by
 refine MetFree.of_bodySF (plainFor_of_name pn_1) hisR ?_
 intro p e s m args below meth c s₁ Bd hml0 hP hK
 obtain ⟨rfl, hZ, hh⟩ := hP
 have hx := Bd.exec
 have hby := Bd.bytes
 have hml : c.maxLocals = 1 := hml0
 have hown : s.vm.findClass "com/example/polity/polity/model/Entry$Kind" = some m.cls := findClass_of_methodNamed Bd.named
 have hnm := (name_of_methodNamed Bd.named Bd.method).1
 have X0 : Stand p l e ({ frames := 0, cells := 0, slots := 0, locals := 0 } : Room) s m #[(.ref a0)] below meth c s₁ [] 0 0 := Stand.of_body Bd
 have e0 : s₁.heap = h0 := by rw [← hh, Bd.state]; rfl
 have N0 := Fr.nil n0
 have Z0 : n0 ≤ h0.size := Nat.le_trans (Nat.le_of_eq O0.1.symm) O0.2.1
 obtain ⟨S0, hS0⟩ : ∃ z, z = s₁.setTop (entryFrame m #[(.ref a0)] 1) := ⟨_, rfl⟩
 have pre0 : ∀ tg, AT p e below s₁ m 0 #[rv a0] [] tg → Steps p.tables e below S0 tg := fun tg kg => by rw [hS0]; exact castTop (ef_2 m a0) kg
 obtain ⟨S_COMMUNITY, E_COMMUNITY, S_USER_GROUP, E_USER_GROUP, F_ordinal_COMMUNITY, F_ordinal_USER_GROUP, S_OBJECT_GROUP, E_OBJECT_GROUP, F_ordinal_OBJECT_GROUP, S_ACTION_GROUP, E_ACTION_GROUP, F_ordinal_ACTION_GROUP, S_NAMESPACE, E_NAMESPACE, F_ordinal_NAMESPACE, S_USER, E_USER, F_ordinal_USER, S_TRUST_ANCHOR, E_TRUST_ANCHOR, F_ordinal_TRUST_ANCHOR, S_SERVICE_TYPE, E_SERVICE_TYPE, F_ordinal_SERVICE_TYPE, S_OBJECT, E_OBJECT, F_ordinal_OBJECT⟩ := id HW
 obtain ⟨T1, X1, e1, st1⟩ := getS2 X0 hx hZ hown (host := "") (Or.inl (ow hw 13 rfl)) Via.refl e0 (S_USER_GROUP.ext O0.2) (g := (mkF m 1 #[rv a0] [(.ref a0)])) rfl (hb hby d2_1)
 have pre2 : ∀ tg, AT p e below T1 m 4 #[rv a0] [(.ref w_USER_GROUP), (.ref a0)] tg → Steps p.tables e below S0 tg := fun tg kg => pre0 tg (by
  refine XS.aloadN X0.here hx rfl (hb hby d2_0) rfl rfl ?_
  show AT p e below s₁ m 1 #[rv a0] [(.ref a0)] _
  refine st1 _ ?_
  exact kg)
 rcases Decidable.em (a0 = w_USER_GROUP) with hc3 | hc3
 ·
  obtain ⟨fs, hr, hrun, hended, hW, hsame⟩ := X1.leave (v := some (.int (1 : Int32))) (fun h => by rw [Bd.returns] at h; cases h)
  subst hS0
  refine ⟨_, _, pre2 _ ?_, hrun, hended, _, _, rfl, ?_, ⟨_, rfl⟩, hW, hsame.mono (by decide) (by decide)⟩
  ·
   refine Jvm.RoadKit.acmp (g := (mkF m 4 #[rv a0] [(.ref w_USER_GROUP), (.ref a0)])) X1 hx rfl rfl rfl (pc0 := 4) (pc' := 21) (same := true) rfl (hb hby d2_4) rfl (decide_eq_true (congrArg Value.ref hc3)) (by decide) (by decide) ?_
   show AT p e below T1 m 21 #[rv a0] [] _
   refine XS.iconst X1.here hx rfl (hb hby d2_21) ?_
   show AT p e below T1 m 22 #[rv a0] [(.int (1 : Int32))] _
   refine XS.goto X1.here hx rfl (pc0 := 22) (pc' := 26) rfl (hb hby d2_22) (by decide) (by decide) ?_
   show AT p e below T1 m 26 #[rv a0] [(.int (1 : Int32))] _
   exact retN X1 hx (t := .boolean) Bd.returns (by simp) (hb hby d2_26) hr
  ·
   show Q2 Z a0 w_COMMUNITY w_USER_GROUP w_OBJECT_GROUP w_ACTION_GROUP w_NAMESPACE w_USER w_TRUST_ANCHOR w_SERVICE_TYPE w_OBJECT h0 n0 _ T1.heap _
   rw [e1]
   exact ⟨(by rw [f2, if_pos hc3]), N0, rfl⟩
 ·
  obtain ⟨T4, X4, e4, st4⟩ := getS2 X1 hx hZ hown (host := "") (Or.inl (ow hw 15 rfl)) Via.refl e1 (S_OBJECT_GROUP.ext O0.2) (g := (mkF m 8 #[rv a0] [(.ref a0)])) rfl (hb hby d2_8)
  have pre5 : ∀ tg, AT p e below T4 m 11 #[rv a0] [(.ref w_OBJECT_GROUP), (.ref a0)] tg → Steps p.tables e below S0 tg := fun tg kg => pre2 tg (by
   refine Jvm.RoadKit.acmp (g := (mkF m 4 #[rv a0] [(.ref w_USER_GROUP), (.ref a0)])) X1 hx rfl rfl rfl (pc0 := 4) (pc' := 7) (same := false) rfl (hb hby d2_4) rfl (decide_eq_false fun q => hc3 (Value.ref.inj q)) (by decide) (by decide) ?_
   show AT p e below T1 m 7 #[rv a0] [] _
   refine XS.aloadN X1.here hx rfl (hb hby d2_7) rfl rfl ?_
   show AT p e below T1 m 8 #[rv a0] [(.ref a0)] _
   refine st4 _ ?_
   exact kg)
  rcases Decidable.em (a0 = w_OBJECT_GROUP) with hc6 | hc6
  ·
   obtain ⟨fs, hr, hrun, hended, hW, hsame⟩ := X4.leave (v := some (.int (1 : Int32))) (fun h => by rw [Bd.returns] at h; cases h)
   subst hS0
   refine ⟨_, _, pre5 _ ?_, hrun, hended, _, _, rfl, ?_, ⟨_, rfl⟩, hW, hsame.mono (by decide) (by decide)⟩
   ·
    refine Jvm.RoadKit.acmp (g := (mkF m 11 #[rv a0] [(.ref w_OBJECT_GROUP), (.ref a0)])) X4 hx rfl rfl rfl (pc0 := 11) (pc' := 21) (same := true) rfl (hb hby d2_11) rfl (decide_eq_true (congrArg Value.ref hc6)) (by decide) (by decide) ?_
    show AT p e below T4 m 21 #[rv a0] [] _
    refine XS.iconst X4.here hx rfl (hb hby d2_21) ?_
    show AT p e below T4 m 22 #[rv a0] [(.int (1 : Int32))] _
    refine XS.goto X4.here hx rfl (pc0 := 22) (pc' := 26) rfl (hb hby d2_22) (by decide) (by decide) ?_
    show AT p e below T4 m 26 #[rv a0] [(.int (1 : Int32))] _
    exact retN X4 hx (t := .boolean) Bd.returns (by simp) (hb hby d2_26) hr
   ·
    show Q2 Z a0 w_COMMUNITY w_USER_GROUP w_OBJECT_GROUP w_ACTION_GROUP w_NAMESPACE w_USER w_TRUST_ANCHOR w_SERVICE_TYPE w_OBJECT h0 n0 _ T4.heap _
    rw [e4]
    exact ⟨(by rw [f2, if_neg hc3, if_pos hc6]), N0, rfl⟩
  ·
   obtain ⟨T7, X7, e7, st7⟩ := getS2 X4 hx hZ hown (host := "") (Or.inl (ow hw 17 rfl)) Via.refl e4 (S_ACTION_GROUP.ext O0.2) (g := (mkF m 15 #[rv a0] [(.ref a0)])) rfl (hb hby d2_15)
   have pre8 : ∀ tg, AT p e below T7 m 18 #[rv a0] [(.ref w_ACTION_GROUP), (.ref a0)] tg → Steps p.tables e below S0 tg := fun tg kg => pre5 tg (by
    refine Jvm.RoadKit.acmp (g := (mkF m 11 #[rv a0] [(.ref w_OBJECT_GROUP), (.ref a0)])) X4 hx rfl rfl rfl (pc0 := 11) (pc' := 14) (same := false) rfl (hb hby d2_11) rfl (decide_eq_false fun q => hc6 (Value.ref.inj q)) (by decide) (by decide) ?_
    show AT p e below T4 m 14 #[rv a0] [] _
    refine XS.aloadN X4.here hx rfl (hb hby d2_14) rfl rfl ?_
    show AT p e below T4 m 15 #[rv a0] [(.ref a0)] _
    refine st7 _ ?_
    exact kg)
   rcases Decidable.em (a0 = w_ACTION_GROUP) with hc9 | hc9
   ·
    obtain ⟨fs, hr, hrun, hended, hW, hsame⟩ := X7.leave (v := some (.int (1 : Int32))) (fun h => by rw [Bd.returns] at h; cases h)
    subst hS0
    refine ⟨_, _, pre8 _ ?_, hrun, hended, _, _, rfl, ?_, ⟨_, rfl⟩, hW, hsame.mono (by decide) (by decide)⟩
    ·
     refine Jvm.RoadKit.acmp (g := (mkF m 18 #[rv a0] [(.ref w_ACTION_GROUP), (.ref a0)])) X7 hx rfl rfl rfl (pc0 := 18) (pc' := 21) (same := true) rfl (hb hby d2_18) rfl (decide_eq_true (congrArg Value.ref hc9)) (by decide) (by decide) ?_
     show AT p e below T7 m 21 #[rv a0] [] _
     refine XS.iconst X7.here hx rfl (hb hby d2_21) ?_
     show AT p e below T7 m 22 #[rv a0] [(.int (1 : Int32))] _
     refine XS.goto X7.here hx rfl (pc0 := 22) (pc' := 26) rfl (hb hby d2_22) (by decide) (by decide) ?_
     show AT p e below T7 m 26 #[rv a0] [(.int (1 : Int32))] _
     exact retN X7 hx (t := .boolean) Bd.returns (by simp) (hb hby d2_26) hr
    ·
     show Q2 Z a0 w_COMMUNITY w_USER_GROUP w_OBJECT_GROUP w_ACTION_GROUP w_NAMESPACE w_USER w_TRUST_ANCHOR w_SERVICE_TYPE w_OBJECT h0 n0 _ T7.heap _
     rw [e7]
     exact ⟨(by rw [f2, if_neg hc3, if_neg hc6, if_pos hc9]), N0, rfl⟩
   ·
    obtain ⟨fs, hr, hrun, hended, hW, hsame⟩ := X7.leave (v := some (.int (0 : Int32))) (fun h => by rw [Bd.returns] at h; cases h)
    subst hS0
    refine ⟨_, _, pre8 _ ?_, hrun, hended, _, _, rfl, ?_, ⟨_, rfl⟩, hW, hsame.mono (by decide) (by decide)⟩
    ·
     refine Jvm.RoadKit.acmp (g := (mkF m 18 #[rv a0] [(.ref w_ACTION_GROUP), (.ref a0)])) X7 hx rfl rfl rfl (pc0 := 18) (pc' := 25) (same := false) rfl (hb hby d2_18) rfl (decide_eq_false fun q => hc9 (Value.ref.inj q)) (by decide) (by decide) ?_
     show AT p e below T7 m 25 #[rv a0] [] _
     refine XS.iconst X7.here hx rfl (hb hby d2_25) ?_
     show AT p e below T7 m 26 #[rv a0] [(.int (0 : Int32))] _
     exact retN X7 hx (t := .boolean) Bd.returns (by simp) (hb hby d2_26) hr
    ·
     show Q2 Z a0 w_COMMUNITY w_USER_GROUP w_OBJECT_GROUP w_ACTION_GROUP w_NAMESPACE w_USER w_TRUST_ANCHOR w_SERVICE_TYPE w_OBJECT h0 n0 _ T7.heap _
     rw [e7]
     exact ⟨(by rw [f2, if_neg hc3, if_neg hc6, if_neg hc9]), N0, rfl⟩

theorem ef_0 (m : MethodId) (p0 : Int32) : entryFrame m #[(.int p0)] maxLocals = mkF m 0 #[iv p0, un, un, un] [] := by first | (simp [entryFrame, mkF, argsToLocals, Value.category, maxLocals]; done) | rfl
def Q0 (Z : State) (p0 : Int32) (w_COMMUNITY : Addr) (w_USER_GROUP : Addr) (w_OBJECT_GROUP : Addr) (w_ACTION_GROUP : Addr) (w_NAMESPACE : Addr) (w_USER : Addr) (w_TRUST_ANCHOR : Addr) (w_SERVICE_TYPE : Addr) (w_OBJECT : Addr) (h0 : Heap) (n0 : Nat) (v : Option Value) (h : Heap) (L : List Loc) : Prop := v = some (.int 1) ∧ Fr n0 L
set_option maxRecDepth 65536 in
set_option maxHeartbeats 40000000 in
theorem rm0 (l : Launch) (Z : State) (ar : Array Value) (hw : ∀ d ∈ tables_1, d.before ar Z = true) (ws : List Jvm.Cond) (p0 : Int32) (w_COMMUNITY : Addr) (w_USER_GROUP : Addr) (w_OBJECT_GROUP : Addr) (w_ACTION_GROUP : Addr) (w_NAMESPACE : Addr) (w_USER : Addr) (w_TRUST_ANCHOR : Addr) (w_SERVICE_TYPE : Addr) (w_OBJECT : Addr) (h0 : Heap) (n0 : Nat) (O0 : Old Z n0 h0) (HW : Wd Z w_COMMUNITY w_USER_GROUP w_OBJECT_GROUP w_ACTION_GROUP w_NAMESPACE w_USER w_TRUST_ANCHOR w_SERVICE_TYPE w_OBJECT) :
    MetFree l x (head1 (Jvm.Cond.code x code maxLocals ret :: ws) room_1) (fun a U => a = #[(.int p0)] ∧ Z.Warmed39 U.vm ∧ U.heap = h0) (fun _ _ _ _ _ => True) (fun _ U o U' => ∃ v L, o = .returned v ∧ Q0 Z p0 w_COMMUNITY w_USER_GROUP w_OBJECT_GROUP w_ACTION_GROUP w_NAMESPACE w_USER w_TRUST_ANCHOR w_SERVICE_TYPE w_OBJECT h0 n0 v U'.heap L ∧ FrameEnd U o U' L 0 0) := by
 refine MetFree.of_bodySF (plainFor_of_name pn_0) hisR ?_
 intro p e s m args below meth c s₁ Bd hml0 hP hK
 obtain ⟨rfl, hZ, hh⟩ := hP
 have hx := Bd.exec
 have hby := Bd.bytes
 have hml : c.maxLocals = 4 := hml0
 have hown : s.vm.findClass "com/example/polity/polity/model/KindIsGroupPinLaw" = some m.cls := findClass_of_methodNamed Bd.named
 have hnm := (name_of_methodNamed Bd.named Bd.method).1
 have X0 : Stand p l e room_1 s m #[(.int p0)] below meth c s₁ [] 0 0 := Stand.of_body Bd
 have e0 : s₁.heap = h0 := by rw [← hh, Bd.state]; rfl
 have N0 := Fr.nil n0
 have Z0 : n0 ≤ h0.size := Nat.le_trans (Nat.le_of_eq O0.1.symm) O0.2.1
 obtain ⟨S0, hS0⟩ : ∃ z, z = s₁.setTop (entryFrame m #[(.int p0)] maxLocals) := ⟨_, rfl⟩
 have pre0 : ∀ tg, AT p e below s₁ m 0 #[iv p0, un, un, un] [] tg → Steps p.tables e below S0 tg := fun tg kg => by rw [hS0]; exact castTop (ef_0 m p0) kg
 obtain ⟨S_COMMUNITY, E_COMMUNITY, S_USER_GROUP, E_USER_GROUP, F_ordinal_COMMUNITY, F_ordinal_USER_GROUP, S_OBJECT_GROUP, E_OBJECT_GROUP, F_ordinal_OBJECT_GROUP, S_ACTION_GROUP, E_ACTION_GROUP, F_ordinal_ACTION_GROUP, S_NAMESPACE, E_NAMESPACE, F_ordinal_NAMESPACE, S_USER, E_USER, F_ordinal_USER, S_TRUST_ANCHOR, E_TRUST_ANCHOR, F_ordinal_TRUST_ANCHOR, S_SERVICE_TYPE, E_SERVICE_TYPE, F_ordinal_SERVICE_TYPE, S_OBJECT, E_OBJECT, F_ordinal_OBJECT⟩ := id HW
 have pre1 : ∀ tg, AT p e below s₁ m 8 #[iv p0, iv ((p0 &&& (2147483647 : Int32)) % (9 : Int32)), un, un] [] tg → Steps p.tables e below S0 tg := fun tg kg => pre0 tg (by
  refine XS.iloadN X0.here hx rfl (hb hby at_0) rfl ?_
  show AT p e below s₁ m 1 #[iv p0, un, un, un] [(.int p0)] _
  refine X0.ldcInt hx hown (mvT hZ (ow hw 0 rfl)) (g := (mkF m 1 #[iv p0, un, un, un] [(.int p0)])) rfl (hb hby at_1) _ ?_
  show AT p e below s₁ m 3 #[iv p0, un, un, un] [(.int (2147483647 : Int32)), (.int p0)] _
  refine XS.iand X0.here hx rfl (hb hby at_3) rfl ?_
  show AT p e below s₁ m 4 #[iv p0, un, un, un] [(.int (p0 &&& (2147483647 : Int32)))] _
  refine XS.bipush X0.here hx rfl (hb hby at_4) ?_
  show AT p e below s₁ m 6 #[iv p0, un, un, un] [(.int (9 : Int32)), (.int (p0 &&& (2147483647 : Int32)))] _
  refine iremM X0 hx rfl (hb hby at_6) rfl (by decide) ?_
  show AT p e below s₁ m 7 #[iv p0, un, un, un] [(.int ((p0 &&& (2147483647 : Int32)) % (9 : Int32)))] _
  refine XS.istoreN X0.here hx rfl (hb hby at_7) rfl (l' := #[iv p0, iv ((p0 &&& (2147483647 : Int32)) % (9 : Int32)), un, un]) rfl ?_
  exact kg)
 obtain ⟨k, hk⟩ : ∃ z, z = ((p0 &&& (2147483647 : Int32)) % (9 : Int32)) := ⟨_, rfl⟩
 have pre2 : ∀ tg, AT p e below s₁ m 8 #[iv p0, iv k, un, un] [] tg → Steps p.tables e below S0 tg := by rw [hk]; exact pre1
 have hsk : k = (0 : Int32) ∨ k = (1 : Int32) ∨ k = (2 : Int32) ∨ k = (3 : Int32) ∨ k = (4 : Int32) ∨ k = (5 : Int32) ∨ k = (6 : Int32) ∨ k = (7 : Int32) ∨ k = (8 : Int32) := by rw [hk]; exact own_k p0
 rcases hsk with rfl | rfl | rfl | rfl | rfl | rfl | rfl | rfl | rfl
 ·
  obtain ⟨_, _, ⟨T3, L3, k3, n3⟩, -, X3, ⟨Lc3, hQ3, l3, y3, z3⟩, st3⟩ := Jvm.LawKit.callS X0 hx (y := y1) hown (mvT hZ (ow hw 1 rfl)) (mvT hZ (ow hw 2 rfl)) (mvT hZ (ow hw 3 rfl)) (mvT hZ (ow hw 4 rfl)) (by decide) (backOf (W := 0) (rm1 l Z ar hw [] (0 : Int32) w_COMMUNITY w_USER_GROUP w_OBJECT_GROUP w_ACTION_GROUP w_NAMESPACE w_USER w_TRUST_ANCHOR w_SERVICE_TYPE w_OBJECT h0 n0 O0 HW) hZ (ow hw 4 rfl) (ow hw 3 rfl) (by decide) (by decide)) (g := (mkF m 9 #[iv p0, iv (0 : Int32), un, un] [(.int (0 : Int32))])) rfl (by rw [hml]; rfl) (argsL := [(.int (0 : Int32))]) (rest := []) (lenOf pd_0 rfl) rfl (by show 2 * 0 + _ ≤ _; exact Nat.le_of_eq rfl) (hb hby at_9) (fun _ _ => ⟨rfl, e0, (by decide : 0 + 0 ≤ _), (by decide : 0 + 0 ≤ _)⟩)
  dsimp only [Pt.U, Pt.locs, Pt.cells, Pt.slots] at X3 l3 y3 z3 st3 hQ3
  subst l3 y3 z3
  obtain ⟨rfl, N3q, e3⟩ := hQ3
  have N3 := Fr.app N0 N3q
  have r3 : (f1 (0 : Int32) w_COMMUNITY w_USER_GROUP w_OBJECT_GROUP w_ACTION_GROUP w_NAMESPACE w_USER w_TRUST_ANCHOR w_SERVICE_TYPE w_OBJECT) = w_COMMUNITY := by rw [f1, if_pos ((by decide) : (0 : Int32) = (0 : Int32))] <;> decide
  rw [r3] at st3
  obtain ⟨cq4, kq4, q4a, q4b, q4c⟩ := isOf hZ e3 (E_COMMUNITY.ext O0.2)
  obtain ⟨_, _, ⟨T4, L4, k4, n4⟩, -, X4, ⟨Lc4, hQ4, l4, y4, z4⟩, st4⟩ := X3.virtualBack hx (y := y2) (z := y2) hown (mvT hZ (ow hw 8 rfl)) (mvT hZ (ow hw 9 rfl)) (notFace_of_selects (args := #[]) (mvT hZ (ow hw 11 rfl))) (mvT hZ (ow hw 11 rfl)) (mvT hZ (ow hw 10 rfl)) (by decide) (backOf (W := 0) (rm2 l Z ar hw [] w_COMMUNITY w_COMMUNITY w_USER_GROUP w_OBJECT_GROUP w_ACTION_GROUP w_NAMESPACE w_USER w_TRUST_ANCHOR w_SERVICE_TYPE w_OBJECT h0 n0 O0 HW) hZ (ow hw 12 rfl) (ow hw 6 rfl) (by decide) (by decide)) q4a q4c (g := (mkF m 26 #[iv p0, iv (0 : Int32), rv w_COMMUNITY, iv (0 : Int32)] [(.ref w_COMMUNITY)])) rfl (by rw [hml]; rfl) (Steps.refl _) (argsL := []) (rest := []) (lenOf pd_1 rfl) rfl (by show 2 * 0 + _ ≤ _; exact Nat.le_of_eq rfl) (hb hby at_26) (fun _ _ => ⟨rfl, e3, (by decide : 0 + 0 ≤ _), (by decide : 0 + 0 ≤ _)⟩)
  dsimp only [Pt.U, Pt.locs, Pt.cells, Pt.slots] at X4 l4 y4 z4 st4 hQ4
  subst l4 y4 z4
  obtain ⟨rfl, N4q, e4⟩ := hQ4
  have N4 := Fr.app N3 N4q
  have r4 : (f2 w_COMMUNITY w_USER_GROUP w_OBJECT_GROUP w_ACTION_GROUP) = (0 : Int32) := by rw [f2, if_neg ((Fld.ne F_ordinal_COMMUNITY F_ordinal_USER_GROUP (by decide)) : ¬ (w_COMMUNITY = w_USER_GROUP)), if_neg ((Fld.ne F_ordinal_COMMUNITY F_ordinal_OBJECT_GROUP (by decide)) : ¬ (w_COMMUNITY = w_OBJECT_GROUP)), if_neg ((Fld.ne F_ordinal_COMMUNITY F_ordinal_ACTION_GROUP (by decide)) : ¬ (w_COMMUNITY = w_ACTION_GROUP))] <;> decide
  rw [r4] at st4
  obtain ⟨fs, hr, hrun, hended, hW, hsame⟩ := X4.leave (v := some (.int (1 : Int32))) (fun h => by rw [Bd.returns] at h; cases h)
  subst hS0
  refine ⟨_, _, pre2 _ ?_, hrun, hended, _, _, rfl, ?_, ⟨_, rfl⟩, hW, hsame.mono (by decide) (by decide)⟩
  ·
   refine XS.iloadN X0.here hx rfl (hb hby at_8) rfl ?_
   show AT p e below s₁ m 9 #[iv p0, iv (0 : Int32), un, un] [(.int (0 : Int32))] _
   refine st3 _ ?_
   show AT p e below T3 m 12 #[iv p0, iv (0 : Int32), un, un] [(.ref w_COMMUNITY)] _
   refine XS.astoreN X3.here hx rfl (hb hby at_12) rfl rfl (l' := #[iv p0, iv (0 : Int32), rv w_COMMUNITY, un]) rfl ?_
   show AT p e below T3 m 13 #[iv p0, iv (0 : Int32), rv w_COMMUNITY, un] [] _
   refine XS.iloadN X3.here hx rfl (hb hby at_13) rfl ?_
   show AT p e below T3 m 14 #[iv p0, iv (0 : Int32), rv w_COMMUNITY, un] [(.int (0 : Int32))] _
   refine XS.bipush X3.here hx rfl (hb hby at_14) ?_
   show AT p e below T3 m 16 #[iv p0, iv (0 : Int32), rv w_COMMUNITY, un] [(.int (6 : Int32)), (.int (0 : Int32))] _
   refine XS.icmpYes X3.here hx rfl (pc0 := 16) (pc' := 23) rfl (hb hby at_16) rfl (XT.ii_lt_t ((by decide) : (0 : Int32) < (6 : Int32))) (by decide) (by decide) ?_
   show AT p e below T3 m 23 #[iv p0, iv (0 : Int32), rv w_COMMUNITY, un] [] _
   refine XS.iconst X3.here hx rfl (hb hby at_23) ?_
   show AT p e below T3 m 24 #[iv p0, iv (0 : Int32), rv w_COMMUNITY, un] [(.int (0 : Int32))] _
   refine XS.istoreN X3.here hx rfl (hb hby at_24) rfl (l' := #[iv p0, iv (0 : Int32), rv w_COMMUNITY, iv (0 : Int32)]) rfl ?_
   show AT p e below T3 m 25 #[iv p0, iv (0 : Int32), rv w_COMMUNITY, iv (0 : Int32)] [] _
   refine XS.aloadN X3.here hx rfl (hb hby at_25) rfl rfl ?_
   show AT p e below T3 m 26 #[iv p0, iv (0 : Int32), rv w_COMMUNITY, iv (0 : Int32)] [(.ref w_COMMUNITY)] _
   refine st4.trans ?_
   show AT p e below T4 m 29 #[iv p0, iv (0 : Int32), rv w_COMMUNITY, iv (0 : Int32)] [(.int (0 : Int32))] _
   refine XS.iloadN X4.here hx rfl (hb hby at_29) rfl ?_
   show AT p e below T4 m 30 #[iv p0, iv (0 : Int32), rv w_COMMUNITY, iv (0 : Int32)] [(.int (0 : Int32)), (.int (0 : Int32))] _
   refine XS.icmpNo X4.here hx rfl (hb hby at_30) rfl (XT.ii_ne_f ((by decide) : (0 : Int32) = (0 : Int32))) ?_
   show AT p e below T4 m 33 #[iv p0, iv (0 : Int32), rv w_COMMUNITY, iv (0 : Int32)] [] _
   refine XS.iconst X4.here hx rfl (hb hby at_33) ?_
   show AT p e below T4 m 34 #[iv p0, iv (0 : Int32), rv w_COMMUNITY, iv (0 : Int32)] [(.int (1 : Int32))] _
   refine XS.goto X4.here hx rfl (pc0 := 34) (pc' := 38) rfl (hb hby at_34) (by decide) (by decide) ?_
   show AT p e below T4 m 38 #[iv p0, iv (0 : Int32), rv w_COMMUNITY, iv (0 : Int32)] [(.int (1 : Int32))] _
   exact retN X4 hx (t := .boolean) Bd.returns (by simp) (hb hby at_38) hr
  ·
   show Q0 Z p0 w_COMMUNITY w_USER_GROUP w_OBJECT_GROUP w_ACTION_GROUP w_NAMESPACE w_USER w_TRUST_ANCHOR w_SERVICE_TYPE w_OBJECT h0 n0 _ T4.heap _
   rw [e4]
   exact ⟨rfl, N4⟩
 ·
  obtain ⟨_, _, ⟨T5, L5, k5, n5⟩, -, X5, ⟨Lc5, hQ5, l5, y5, z5⟩, st5⟩ := Jvm.LawKit.callS X0 hx (y := y1) hown (mvT hZ (ow hw 1 rfl)) (mvT hZ (ow hw 2 rfl)) (mvT hZ (ow hw 3 rfl)) (mvT hZ (ow hw 4 rfl)) (by decide) (backOf (W := 0) (rm1 l Z ar hw [] (1 : Int32) w_COMMUNITY w_USER_GROUP w_OBJECT_GROUP w_ACTION_GROUP w_NAMESPACE w_USER w_TRUST_ANCHOR w_SERVICE_TYPE w_OBJECT h0 n0 O0 HW) hZ (ow hw 4 rfl) (ow hw 3 rfl) (by decide) (by decide)) (g := (mkF m 9 #[iv p0, iv (1 : Int32), un, un] [(.int (1 : Int32))])) rfl (by rw [hml]; rfl) (argsL := [(.int (1 : Int32))]) (rest := []) (lenOf pd_0 rfl) rfl (by show 2 * 0 + _ ≤ _; exact Nat.le_of_eq rfl) (hb hby at_9) (fun _ _ => ⟨rfl, e0, (by decide : 0 + 0 ≤ _), (by decide : 0 + 0 ≤ _)⟩)
  dsimp only [Pt.U, Pt.locs, Pt.cells, Pt.slots] at X5 l5 y5 z5 st5 hQ5
  subst l5 y5 z5
  obtain ⟨rfl, N5q, e5⟩ := hQ5
  have N5 := Fr.app N0 N5q
  have r5 : (f1 (1 : Int32) w_COMMUNITY w_USER_GROUP w_OBJECT_GROUP w_ACTION_GROUP w_NAMESPACE w_USER w_TRUST_ANCHOR w_SERVICE_TYPE w_OBJECT) = w_TRUST_ANCHOR := by rw [f1, if_neg ((by decide) : ¬ ((1 : Int32) = (0 : Int32))), if_pos ((by decide) : (1 : Int32) = (1 : Int32))] <;> decide
  rw [r5] at st5
  obtain ⟨cq6, kq6, q6a, q6b, q6c⟩ := isOf hZ e5 (E_TRUST_ANCHOR.ext O0.2)
  obtain ⟨_, _, ⟨T6, L6, k6, n6⟩, -, X6, ⟨Lc6, hQ6, l6, y6, z6⟩, st6⟩ := X5.virtualBack hx (y := y2) (z := y2) hown (mvT hZ (ow hw 8 rfl)) (mvT hZ (ow hw 9 rfl)) (notFace_of_selects (args := #[]) (mvT hZ (ow hw 11 rfl))) (mvT hZ (ow hw 11 rfl)) (mvT hZ (ow hw 10 rfl)) (by decide) (backOf (W := 0) (rm2 l Z ar hw [] w_TRUST_ANCHOR w_COMMUNITY w_USER_GROUP w_OBJECT_GROUP w_ACTION_GROUP w_NAMESPACE w_USER w_TRUST_ANCHOR w_SERVICE_TYPE w_OBJECT h0 n0 O0 HW) hZ (ow hw 12 rfl) (ow hw 6 rfl) (by decide) (by decide)) q6a q6c (g := (mkF m 26 #[iv p0, iv (1 : Int32), rv w_TRUST_ANCHOR, iv (0 : Int32)] [(.ref w_TRUST_ANCHOR)])) rfl (by rw [hml]; rfl) (Steps.refl _) (argsL := []) (rest := []) (lenOf pd_1 rfl) rfl (by show 2 * 0 + _ ≤ _; exact Nat.le_of_eq rfl) (hb hby at_26) (fun _ _ => ⟨rfl, e5, (by decide : 0 + 0 ≤ _), (by decide : 0 + 0 ≤ _)⟩)
  dsimp only [Pt.U, Pt.locs, Pt.cells, Pt.slots] at X6 l6 y6 z6 st6 hQ6
  subst l6 y6 z6
  obtain ⟨rfl, N6q, e6⟩ := hQ6
  have N6 := Fr.app N5 N6q
  have r6 : (f2 w_TRUST_ANCHOR w_USER_GROUP w_OBJECT_GROUP w_ACTION_GROUP) = (0 : Int32) := by rw [f2, if_neg ((Fld.ne F_ordinal_TRUST_ANCHOR F_ordinal_USER_GROUP (by decide)) : ¬ (w_TRUST_ANCHOR = w_USER_GROUP)), if_neg ((Fld.ne F_ordinal_TRUST_ANCHOR F_ordinal_OBJECT_GROUP (by decide)) : ¬ (w_TRUST_ANCHOR = w_OBJECT_GROUP)), if_neg ((Fld.ne F_ordinal_TRUST_ANCHOR F_ordinal_ACTION_GROUP (by decide)) : ¬ (w_TRUST_ANCHOR = w_ACTION_GROUP))] <;> decide
  rw [r6] at st6
  obtain ⟨fs, hr, hrun, hended, hW, hsame⟩ := X6.leave (v := some (.int (1 : Int32))) (fun h => by rw [Bd.returns] at h; cases h)
  subst hS0
  refine ⟨_, _, pre2 _ ?_, hrun, hended, _, _, rfl, ?_, ⟨_, rfl⟩, hW, hsame.mono (by decide) (by decide)⟩
  ·
   refine XS.iloadN X0.here hx rfl (hb hby at_8) rfl ?_
   show AT p e below s₁ m 9 #[iv p0, iv (1 : Int32), un, un] [(.int (1 : Int32))] _
   refine st5 _ ?_
   show AT p e below T5 m 12 #[iv p0, iv (1 : Int32), un, un] [(.ref w_TRUST_ANCHOR)] _
   refine XS.astoreN X5.here hx rfl (hb hby at_12) rfl rfl (l' := #[iv p0, iv (1 : Int32), rv w_TRUST_ANCHOR, un]) rfl ?_
   show AT p e below T5 m 13 #[iv p0, iv (1 : Int32), rv w_TRUST_ANCHOR, un] [] _
   refine XS.iloadN X5.here hx rfl (hb hby at_13) rfl ?_
   show AT p e below T5 m 14 #[iv p0, iv (1 : Int32), rv w_TRUST_ANCHOR, un] [(.int (1 : Int32))] _
   refine XS.bipush X5.here hx rfl (hb hby at_14) ?_
   show AT p e below T5 m 16 #[iv p0, iv (1 : Int32), rv w_TRUST_ANCHOR, un] [(.int (6 : Int32)), (.int (1 : Int32))] _
   refine XS.icmpYes X5.here hx rfl (pc0 := 16) (pc' := 23) rfl (hb hby at_16) rfl (XT.ii_lt_t ((by decide) : (1 : Int32) < (6 : Int32))) (by decide) (by decide) ?_
   show AT p e below T5 m 23 #[iv p0, iv (1 : Int32), rv w_TRUST_ANCHOR, un] [] _
   refine XS.iconst X5.here hx rfl (hb hby at_23) ?_
   show AT p e below T5 m 24 #[iv p0, iv (1 : Int32), rv w_TRUST_ANCHOR, un] [(.int (0 : Int32))] _
   refine XS.istoreN X5.here hx rfl (hb hby at_24) rfl (l' := #[iv p0, iv (1 : Int32), rv w_TRUST_ANCHOR, iv (0 : Int32)]) rfl ?_
   show AT p e below T5 m 25 #[iv p0, iv (1 : Int32), rv w_TRUST_ANCHOR, iv (0 : Int32)] [] _
   refine XS.aloadN X5.here hx rfl (hb hby at_25) rfl rfl ?_
   show AT p e below T5 m 26 #[iv p0, iv (1 : Int32), rv w_TRUST_ANCHOR, iv (0 : Int32)] [(.ref w_TRUST_ANCHOR)] _
   refine st6.trans ?_
   show AT p e below T6 m 29 #[iv p0, iv (1 : Int32), rv w_TRUST_ANCHOR, iv (0 : Int32)] [(.int (0 : Int32))] _
   refine XS.iloadN X6.here hx rfl (hb hby at_29) rfl ?_
   show AT p e below T6 m 30 #[iv p0, iv (1 : Int32), rv w_TRUST_ANCHOR, iv (0 : Int32)] [(.int (0 : Int32)), (.int (0 : Int32))] _
   refine XS.icmpNo X6.here hx rfl (hb hby at_30) rfl (XT.ii_ne_f ((by decide) : (0 : Int32) = (0 : Int32))) ?_
   show AT p e below T6 m 33 #[iv p0, iv (1 : Int32), rv w_TRUST_ANCHOR, iv (0 : Int32)] [] _
   refine XS.iconst X6.here hx rfl (hb hby at_33) ?_
   show AT p e below T6 m 34 #[iv p0, iv (1 : Int32), rv w_TRUST_ANCHOR, iv (0 : Int32)] [(.int (1 : Int32))] _
   refine XS.goto X6.here hx rfl (pc0 := 34) (pc' := 38) rfl (hb hby at_34) (by decide) (by decide) ?_
   show AT p e below T6 m 38 #[iv p0, iv (1 : Int32), rv w_TRUST_ANCHOR, iv (0 : Int32)] [(.int (1 : Int32))] _
   exact retN X6 hx (t := .boolean) Bd.returns (by simp) (hb hby at_38) hr
  ·
   show Q0 Z p0 w_COMMUNITY w_USER_GROUP w_OBJECT_GROUP w_ACTION_GROUP w_NAMESPACE w_USER w_TRUST_ANCHOR w_SERVICE_TYPE w_OBJECT h0 n0 _ T6.heap _
   rw [e6]
   exact ⟨rfl, N6⟩
 ·
  obtain ⟨_, _, ⟨T7, L7, k7, n7⟩, -, X7, ⟨Lc7, hQ7, l7, y7, z7⟩, st7⟩ := Jvm.LawKit.callS X0 hx (y := y1) hown (mvT hZ (ow hw 1 rfl)) (mvT hZ (ow hw 2 rfl)) (mvT hZ (ow hw 3 rfl)) (mvT hZ (ow hw 4 rfl)) (by decide) (backOf (W := 0) (rm1 l Z ar hw [] (2 : Int32) w_COMMUNITY w_USER_GROUP w_OBJECT_GROUP w_ACTION_GROUP w_NAMESPACE w_USER w_TRUST_ANCHOR w_SERVICE_TYPE w_OBJECT h0 n0 O0 HW) hZ (ow hw 4 rfl) (ow hw 3 rfl) (by decide) (by decide)) (g := (mkF m 9 #[iv p0, iv (2 : Int32), un, un] [(.int (2 : Int32))])) rfl (by rw [hml]; rfl) (argsL := [(.int (2 : Int32))]) (rest := []) (lenOf pd_0 rfl) rfl (by show 2 * 0 + _ ≤ _; exact Nat.le_of_eq rfl) (hb hby at_9) (fun _ _ => ⟨rfl, e0, (by decide : 0 + 0 ≤ _), (by decide : 0 + 0 ≤ _)⟩)
  dsimp only [Pt.U, Pt.locs, Pt.cells, Pt.slots] at X7 l7 y7 z7 st7 hQ7
  subst l7 y7 z7
  obtain ⟨rfl, N7q, e7⟩ := hQ7
  have N7 := Fr.app N0 N7q
  have r7 : (f1 (2 : Int32) w_COMMUNITY w_USER_GROUP w_OBJECT_GROUP w_ACTION_GROUP w_NAMESPACE w_USER w_TRUST_ANCHOR w_SERVICE_TYPE w_OBJECT) = w_USER := by rw [f1, if_neg ((by decide) : ¬ ((2 : Int32) = (0 : Int32))), if_neg ((by decide) : ¬ ((2 : Int32) = (1 : Int32))), if_pos ((by decide) : (2 : Int32) = (2 : Int32))] <;> decide
  rw [r7] at st7
  obtain ⟨cq8, kq8, q8a, q8b, q8c⟩ := isOf hZ e7 (E_USER.ext O0.2)
  obtain ⟨_, _, ⟨T8, L8, k8, n8⟩, -, X8, ⟨Lc8, hQ8, l8, y8, z8⟩, st8⟩ := X7.virtualBack hx (y := y2) (z := y2) hown (mvT hZ (ow hw 8 rfl)) (mvT hZ (ow hw 9 rfl)) (notFace_of_selects (args := #[]) (mvT hZ (ow hw 11 rfl))) (mvT hZ (ow hw 11 rfl)) (mvT hZ (ow hw 10 rfl)) (by decide) (backOf (W := 0) (rm2 l Z ar hw [] w_USER w_COMMUNITY w_USER_GROUP w_OBJECT_GROUP w_ACTION_GROUP w_NAMESPACE w_USER w_TRUST_ANCHOR w_SERVICE_TYPE w_OBJECT h0 n0 O0 HW) hZ (ow hw 12 rfl) (ow hw 6 rfl) (by decide) (by decide)) q8a q8c (g := (mkF m 26 #[iv p0, iv (2 : Int32), rv w_USER, iv (0 : Int32)] [(.ref w_USER)])) rfl (by rw [hml]; rfl) (Steps.refl _) (argsL := []) (rest := []) (lenOf pd_1 rfl) rfl (by show 2 * 0 + _ ≤ _; exact Nat.le_of_eq rfl) (hb hby at_26) (fun _ _ => ⟨rfl, e7, (by decide : 0 + 0 ≤ _), (by decide : 0 + 0 ≤ _)⟩)
  dsimp only [Pt.U, Pt.locs, Pt.cells, Pt.slots] at X8 l8 y8 z8 st8 hQ8
  subst l8 y8 z8
  obtain ⟨rfl, N8q, e8⟩ := hQ8
  have N8 := Fr.app N7 N8q
  have r8 : (f2 w_USER w_USER_GROUP w_OBJECT_GROUP w_ACTION_GROUP) = (0 : Int32) := by rw [f2, if_neg ((Fld.ne F_ordinal_USER F_ordinal_USER_GROUP (by decide)) : ¬ (w_USER = w_USER_GROUP)), if_neg ((Fld.ne F_ordinal_USER F_ordinal_OBJECT_GROUP (by decide)) : ¬ (w_USER = w_OBJECT_GROUP)), if_neg ((Fld.ne F_ordinal_USER F_ordinal_ACTION_GROUP (by decide)) : ¬ (w_USER = w_ACTION_GROUP))] <;> decide
  rw [r8] at st8
  obtain ⟨fs, hr, hrun, hended, hW, hsame⟩ := X8.leave (v := some (.int (1 : Int32))) (fun h => by rw [Bd.returns] at h; cases h)
  subst hS0
  refine ⟨_, _, pre2 _ ?_, hrun, hended, _, _, rfl, ?_, ⟨_, rfl⟩, hW, hsame.mono (by decide) (by decide)⟩
  ·
   refine XS.iloadN X0.here hx rfl (hb hby at_8) rfl ?_
   show AT p e below s₁ m 9 #[iv p0, iv (2 : Int32), un, un] [(.int (2 : Int32))] _
   refine st7 _ ?_
   show AT p e below T7 m 12 #[iv p0, iv (2 : Int32), un, un] [(.ref w_USER)] _
   refine XS.astoreN X7.here hx rfl (hb hby at_12) rfl rfl (l' := #[iv p0, iv (2 : Int32), rv w_USER, un]) rfl ?_
   show AT p e below T7 m 13 #[iv p0, iv (2 : Int32), rv w_USER, un] [] _
   refine XS.iloadN X7.here hx rfl (hb hby at_13) rfl ?_
   show AT p e below T7 m 14 #[iv p0, iv (2 : Int32), rv w_USER, un] [(.int (2 : Int32))] _
   refine XS.bipush X7.here hx rfl (hb hby at_14) ?_
   show AT p e below T7 m 16 #[iv p0, iv (2 : Int32), rv w_USER, un] [(.int (6 : Int32)), (.int (2 : Int32))] _
   refine XS.icmpYes X7.here hx rfl (pc0 := 16) (pc' := 23) rfl (hb hby at_16) rfl (XT.ii_lt_t ((by decide) : (2 : Int32) < (6 : Int32))) (by decide) (by decide) ?_
   show AT p e below T7 m 23 #[iv p0, iv (2 : Int32), rv w_USER, un] [] _
   refine XS.iconst X7.here hx rfl (hb hby at_23) ?_
   show AT p e below T7 m 24 #[iv p0, iv (2 : Int32), rv w_USER, un] [(.int (0 : Int32))] _
   refine XS.istoreN X7.here hx rfl (hb hby at_24) rfl (l' := #[iv p0, iv (2 : Int32), rv w_USER, iv (0 : Int32)]) rfl ?_
   show AT p e below T7 m 25 #[iv p0, iv (2 : Int32), rv w_USER, iv (0 : Int32)] [] _
   refine XS.aloadN X7.here hx rfl (hb hby at_25) rfl rfl ?_
   show AT p e below T7 m 26 #[iv p0, iv (2 : Int32), rv w_USER, iv (0 : Int32)] [(.ref w_USER)] _
   refine st8.trans ?_
   show AT p e below T8 m 29 #[iv p0, iv (2 : Int32), rv w_USER, iv (0 : Int32)] [(.int (0 : Int32))] _
   refine XS.iloadN X8.here hx rfl (hb hby at_29) rfl ?_
   show AT p e below T8 m 30 #[iv p0, iv (2 : Int32), rv w_USER, iv (0 : Int32)] [(.int (0 : Int32)), (.int (0 : Int32))] _
   refine XS.icmpNo X8.here hx rfl (hb hby at_30) rfl (XT.ii_ne_f ((by decide) : (0 : Int32) = (0 : Int32))) ?_
   show AT p e below T8 m 33 #[iv p0, iv (2 : Int32), rv w_USER, iv (0 : Int32)] [] _
   refine XS.iconst X8.here hx rfl (hb hby at_33) ?_
   show AT p e below T8 m 34 #[iv p0, iv (2 : Int32), rv w_USER, iv (0 : Int32)] [(.int (1 : Int32))] _
   refine XS.goto X8.here hx rfl (pc0 := 34) (pc' := 38) rfl (hb hby at_34) (by decide) (by decide) ?_
   show AT p e below T8 m 38 #[iv p0, iv (2 : Int32), rv w_USER, iv (0 : Int32)] [(.int (1 : Int32))] _
   exact retN X8 hx (t := .boolean) Bd.returns (by simp) (hb hby at_38) hr
  ·
   show Q0 Z p0 w_COMMUNITY w_USER_GROUP w_OBJECT_GROUP w_ACTION_GROUP w_NAMESPACE w_USER w_TRUST_ANCHOR w_SERVICE_TYPE w_OBJECT h0 n0 _ T8.heap _
   rw [e8]
   exact ⟨rfl, N8⟩
 ·
  obtain ⟨_, _, ⟨T9, L9, k9, n9⟩, -, X9, ⟨Lc9, hQ9, l9, y9, z9⟩, st9⟩ := Jvm.LawKit.callS X0 hx (y := y1) hown (mvT hZ (ow hw 1 rfl)) (mvT hZ (ow hw 2 rfl)) (mvT hZ (ow hw 3 rfl)) (mvT hZ (ow hw 4 rfl)) (by decide) (backOf (W := 0) (rm1 l Z ar hw [] (3 : Int32) w_COMMUNITY w_USER_GROUP w_OBJECT_GROUP w_ACTION_GROUP w_NAMESPACE w_USER w_TRUST_ANCHOR w_SERVICE_TYPE w_OBJECT h0 n0 O0 HW) hZ (ow hw 4 rfl) (ow hw 3 rfl) (by decide) (by decide)) (g := (mkF m 9 #[iv p0, iv (3 : Int32), un, un] [(.int (3 : Int32))])) rfl (by rw [hml]; rfl) (argsL := [(.int (3 : Int32))]) (rest := []) (lenOf pd_0 rfl) rfl (by show 2 * 0 + _ ≤ _; exact Nat.le_of_eq rfl) (hb hby at_9) (fun _ _ => ⟨rfl, e0, (by decide : 0 + 0 ≤ _), (by decide : 0 + 0 ≤ _)⟩)
  dsimp only [Pt.U, Pt.locs, Pt.cells, Pt.slots] at X9 l9 y9 z9 st9 hQ9
  subst l9 y9 z9
  obtain ⟨rfl, N9q, e9⟩ := hQ9
  have N9 := Fr.app N0 N9q
  have r9 : (f1 (3 : Int32) w_COMMUNITY w_USER_GROUP w_OBJECT_GROUP w_ACTION_GROUP w_NAMESPACE w_USER w_TRUST_ANCHOR w_SERVICE_TYPE w_OBJECT) = w_NAMESPACE := by rw [f1, if_neg ((by decide) : ¬ ((3 : Int32) = (0 : Int32))), if_neg ((by decide) : ¬ ((3 : Int32) = (1 : Int32))), if_neg ((by decide) : ¬ ((3 : Int32) = (2 : Int32))), if_pos ((by decide) : (3 : Int32) = (3 : Int32))] <;> decide
  rw [r9] at st9
  obtain ⟨cq10, kq10, q10a, q10b, q10c⟩ := isOf hZ e9 (E_NAMESPACE.ext O0.2)
  obtain ⟨_, _, ⟨T10, L10, k10, n10⟩, -, X10, ⟨Lc10, hQ10, l10, y10, z10⟩, st10⟩ := X9.virtualBack hx (y := y2) (z := y2) hown (mvT hZ (ow hw 8 rfl)) (mvT hZ (ow hw 9 rfl)) (notFace_of_selects (args := #[]) (mvT hZ (ow hw 11 rfl))) (mvT hZ (ow hw 11 rfl)) (mvT hZ (ow hw 10 rfl)) (by decide) (backOf (W := 0) (rm2 l Z ar hw [] w_NAMESPACE w_COMMUNITY w_USER_GROUP w_OBJECT_GROUP w_ACTION_GROUP w_NAMESPACE w_USER w_TRUST_ANCHOR w_SERVICE_TYPE w_OBJECT h0 n0 O0 HW) hZ (ow hw 12 rfl) (ow hw 6 rfl) (by decide) (by decide)) q10a q10c (g := (mkF m 26 #[iv p0, iv (3 : Int32), rv w_NAMESPACE, iv (0 : Int32)] [(.ref w_NAMESPACE)])) rfl (by rw [hml]; rfl) (Steps.refl _) (argsL := []) (rest := []) (lenOf pd_1 rfl) rfl (by show 2 * 0 + _ ≤ _; exact Nat.le_of_eq rfl) (hb hby at_26) (fun _ _ => ⟨rfl, e9, (by decide : 0 + 0 ≤ _), (by decide : 0 + 0 ≤ _)⟩)
  dsimp only [Pt.U, Pt.locs, Pt.cells, Pt.slots] at X10 l10 y10 z10 st10 hQ10
  subst l10 y10 z10
  obtain ⟨rfl, N10q, e10⟩ := hQ10
  have N10 := Fr.app N9 N10q
  have r10 : (f2 w_NAMESPACE w_USER_GROUP w_OBJECT_GROUP w_ACTION_GROUP) = (0 : Int32) := by rw [f2, if_neg ((Fld.ne F_ordinal_NAMESPACE F_ordinal_USER_GROUP (by decide)) : ¬ (w_NAMESPACE = w_USER_GROUP)), if_neg ((Fld.ne F_ordinal_NAMESPACE F_ordinal_OBJECT_GROUP (by decide)) : ¬ (w_NAMESPACE = w_OBJECT_GROUP)), if_neg ((Fld.ne F_ordinal_NAMESPACE F_ordinal_ACTION_GROUP (by decide)) : ¬ (w_NAMESPACE = w_ACTION_GROUP))] <;> decide
  rw [r10] at st10
  obtain ⟨fs, hr, hrun, hended, hW, hsame⟩ := X10.leave (v := some (.int (1 : Int32))) (fun h => by rw [Bd.returns] at h; cases h)
  subst hS0
  refine ⟨_, _, pre2 _ ?_, hrun, hended, _, _, rfl, ?_, ⟨_, rfl⟩, hW, hsame.mono (by decide) (by decide)⟩
  ·
   refine XS.iloadN X0.here hx rfl (hb hby at_8) rfl ?_
   show AT p e below s₁ m 9 #[iv p0, iv (3 : Int32), un, un] [(.int (3 : Int32))] _
   refine st9 _ ?_
   show AT p e below T9 m 12 #[iv p0, iv (3 : Int32), un, un] [(.ref w_NAMESPACE)] _
   refine XS.astoreN X9.here hx rfl (hb hby at_12) rfl rfl (l' := #[iv p0, iv (3 : Int32), rv w_NAMESPACE, un]) rfl ?_
   show AT p e below T9 m 13 #[iv p0, iv (3 : Int32), rv w_NAMESPACE, un] [] _
   refine XS.iloadN X9.here hx rfl (hb hby at_13) rfl ?_
   show AT p e below T9 m 14 #[iv p0, iv (3 : Int32), rv w_NAMESPACE, un] [(.int (3 : Int32))] _
   refine XS.bipush X9.here hx rfl (hb hby at_14) ?_
   show AT p e below T9 m 16 #[iv p0, iv (3 : Int32), rv w_NAMESPACE, un] [(.int (6 : Int32)), (.int (3 : Int32))] _
   refine XS.icmpYes X9.here hx rfl (pc0 := 16) (pc' := 23) rfl (hb hby at_16) rfl (XT.ii_lt_t ((by decide) : (3 : Int32) < (6 : Int32))) (by decide) (by decide) ?_
   show AT p e below T9 m 23 #[iv p0, iv (3 : Int32), rv w_NAMESPACE, un] [] _
   refine XS.iconst X9.here hx rfl (hb hby at_23) ?_
   show AT p e below T9 m 24 #[iv p0, iv (3 : Int32), rv w_NAMESPACE, un] [(.int (0 : Int32))] _
   refine XS.istoreN X9.here hx rfl (hb hby at_24) rfl (l' := #[iv p0, iv (3 : Int32), rv w_NAMESPACE, iv (0 : Int32)]) rfl ?_
   show AT p e below T9 m 25 #[iv p0, iv (3 : Int32), rv w_NAMESPACE, iv (0 : Int32)] [] _
   refine XS.aloadN X9.here hx rfl (hb hby at_25) rfl rfl ?_
   show AT p e below T9 m 26 #[iv p0, iv (3 : Int32), rv w_NAMESPACE, iv (0 : Int32)] [(.ref w_NAMESPACE)] _
   refine st10.trans ?_
   show AT p e below T10 m 29 #[iv p0, iv (3 : Int32), rv w_NAMESPACE, iv (0 : Int32)] [(.int (0 : Int32))] _
   refine XS.iloadN X10.here hx rfl (hb hby at_29) rfl ?_
   show AT p e below T10 m 30 #[iv p0, iv (3 : Int32), rv w_NAMESPACE, iv (0 : Int32)] [(.int (0 : Int32)), (.int (0 : Int32))] _
   refine XS.icmpNo X10.here hx rfl (hb hby at_30) rfl (XT.ii_ne_f ((by decide) : (0 : Int32) = (0 : Int32))) ?_
   show AT p e below T10 m 33 #[iv p0, iv (3 : Int32), rv w_NAMESPACE, iv (0 : Int32)] [] _
   refine XS.iconst X10.here hx rfl (hb hby at_33) ?_
   show AT p e below T10 m 34 #[iv p0, iv (3 : Int32), rv w_NAMESPACE, iv (0 : Int32)] [(.int (1 : Int32))] _
   refine XS.goto X10.here hx rfl (pc0 := 34) (pc' := 38) rfl (hb hby at_34) (by decide) (by decide) ?_
   show AT p e below T10 m 38 #[iv p0, iv (3 : Int32), rv w_NAMESPACE, iv (0 : Int32)] [(.int (1 : Int32))] _
   exact retN X10 hx (t := .boolean) Bd.returns (by simp) (hb hby at_38) hr
  ·
   show Q0 Z p0 w_COMMUNITY w_USER_GROUP w_OBJECT_GROUP w_ACTION_GROUP w_NAMESPACE w_USER w_TRUST_ANCHOR w_SERVICE_TYPE w_OBJECT h0 n0 _ T10.heap _
   rw [e10]
   exact ⟨rfl, N10⟩
 ·
  obtain ⟨_, _, ⟨T11, L11, k11, n11⟩, -, X11, ⟨Lc11, hQ11, l11, y11, z11⟩, st11⟩ := Jvm.LawKit.callS X0 hx (y := y1) hown (mvT hZ (ow hw 1 rfl)) (mvT hZ (ow hw 2 rfl)) (mvT hZ (ow hw 3 rfl)) (mvT hZ (ow hw 4 rfl)) (by decide) (backOf (W := 0) (rm1 l Z ar hw [] (4 : Int32) w_COMMUNITY w_USER_GROUP w_OBJECT_GROUP w_ACTION_GROUP w_NAMESPACE w_USER w_TRUST_ANCHOR w_SERVICE_TYPE w_OBJECT h0 n0 O0 HW) hZ (ow hw 4 rfl) (ow hw 3 rfl) (by decide) (by decide)) (g := (mkF m 9 #[iv p0, iv (4 : Int32), un, un] [(.int (4 : Int32))])) rfl (by rw [hml]; rfl) (argsL := [(.int (4 : Int32))]) (rest := []) (lenOf pd_0 rfl) rfl (by show 2 * 0 + _ ≤ _; exact Nat.le_of_eq rfl) (hb hby at_9) (fun _ _ => ⟨rfl, e0, (by decide : 0 + 0 ≤ _), (by decide : 0 + 0 ≤ _)⟩)
  dsimp only [Pt.U, Pt.locs, Pt.cells, Pt.slots] at X11 l11 y11 z11 st11 hQ11
  subst l11 y11 z11
  obtain ⟨rfl, N11q, e11⟩ := hQ11
  have N11 := Fr.app N0 N11q
  have r11 : (f1 (4 : Int32) w_COMMUNITY w_USER_GROUP w_OBJECT_GROUP w_ACTION_GROUP w_NAMESPACE w_USER w_TRUST_ANCHOR w_SERVICE_TYPE w_OBJECT) = w_SERVICE_TYPE := by rw [f1, if_neg ((by decide) : ¬ ((4 : Int32) = (0 : Int32))), if_neg ((by decide) : ¬ ((4 : Int32) = (1 : Int32))), if_neg ((by decide) : ¬ ((4 : Int32) = (2 : Int32))), if_neg ((by decide) : ¬ ((4 : Int32) = (3 : Int32))), if_pos ((by decide) : (4 : Int32) = (4 : Int32))] <;> decide
  rw [r11] at st11
  obtain ⟨cq12, kq12, q12a, q12b, q12c⟩ := isOf hZ e11 (E_SERVICE_TYPE.ext O0.2)
  obtain ⟨_, _, ⟨T12, L12, k12, n12⟩, -, X12, ⟨Lc12, hQ12, l12, y12, z12⟩, st12⟩ := X11.virtualBack hx (y := y2) (z := y2) hown (mvT hZ (ow hw 8 rfl)) (mvT hZ (ow hw 9 rfl)) (notFace_of_selects (args := #[]) (mvT hZ (ow hw 11 rfl))) (mvT hZ (ow hw 11 rfl)) (mvT hZ (ow hw 10 rfl)) (by decide) (backOf (W := 0) (rm2 l Z ar hw [] w_SERVICE_TYPE w_COMMUNITY w_USER_GROUP w_OBJECT_GROUP w_ACTION_GROUP w_NAMESPACE w_USER w_TRUST_ANCHOR w_SERVICE_TYPE w_OBJECT h0 n0 O0 HW) hZ (ow hw 12 rfl) (ow hw 6 rfl) (by decide) (by decide)) q12a q12c (g := (mkF m 26 #[iv p0, iv (4 : Int32), rv w_SERVICE_TYPE, iv (0 : Int32)] [(.ref w_SERVICE_TYPE)])) rfl (by rw [hml]; rfl) (Steps.refl _) (argsL := []) (rest := []) (lenOf pd_1 rfl) rfl (by show 2 * 0 + _ ≤ _; exact Nat.le_of_eq rfl) (hb hby at_26) (fun _ _ => ⟨rfl, e11, (by decide : 0 + 0 ≤ _), (by decide : 0 + 0 ≤ _)⟩)
  dsimp only [Pt.U, Pt.locs, Pt.cells, Pt.slots] at X12 l12 y12 z12 st12 hQ12
  subst l12 y12 z12
  obtain ⟨rfl, N12q, e12⟩ := hQ12
  have N12 := Fr.app N11 N12q
  have r12 : (f2 w_SERVICE_TYPE w_USER_GROUP w_OBJECT_GROUP w_ACTION_GROUP) = (0 : Int32) := by rw [f2, if_neg ((Fld.ne F_ordinal_SERVICE_TYPE F_ordinal_USER_GROUP (by decide)) : ¬ (w_SERVICE_TYPE = w_USER_GROUP)), if_neg ((Fld.ne F_ordinal_SERVICE_TYPE F_ordinal_OBJECT_GROUP (by decide)) : ¬ (w_SERVICE_TYPE = w_OBJECT_GROUP)), if_neg ((Fld.ne F_ordinal_SERVICE_TYPE F_ordinal_ACTION_GROUP (by decide)) : ¬ (w_SERVICE_TYPE = w_ACTION_GROUP))] <;> decide
  rw [r12] at st12
  obtain ⟨fs, hr, hrun, hended, hW, hsame⟩ := X12.leave (v := some (.int (1 : Int32))) (fun h => by rw [Bd.returns] at h; cases h)
  subst hS0
  refine ⟨_, _, pre2 _ ?_, hrun, hended, _, _, rfl, ?_, ⟨_, rfl⟩, hW, hsame.mono (by decide) (by decide)⟩
  ·
   refine XS.iloadN X0.here hx rfl (hb hby at_8) rfl ?_
   show AT p e below s₁ m 9 #[iv p0, iv (4 : Int32), un, un] [(.int (4 : Int32))] _
   refine st11 _ ?_
   show AT p e below T11 m 12 #[iv p0, iv (4 : Int32), un, un] [(.ref w_SERVICE_TYPE)] _
   refine XS.astoreN X11.here hx rfl (hb hby at_12) rfl rfl (l' := #[iv p0, iv (4 : Int32), rv w_SERVICE_TYPE, un]) rfl ?_
   show AT p e below T11 m 13 #[iv p0, iv (4 : Int32), rv w_SERVICE_TYPE, un] [] _
   refine XS.iloadN X11.here hx rfl (hb hby at_13) rfl ?_
   show AT p e below T11 m 14 #[iv p0, iv (4 : Int32), rv w_SERVICE_TYPE, un] [(.int (4 : Int32))] _
   refine XS.bipush X11.here hx rfl (hb hby at_14) ?_
   show AT p e below T11 m 16 #[iv p0, iv (4 : Int32), rv w_SERVICE_TYPE, un] [(.int (6 : Int32)), (.int (4 : Int32))] _
   refine XS.icmpYes X11.here hx rfl (pc0 := 16) (pc' := 23) rfl (hb hby at_16) rfl (XT.ii_lt_t ((by decide) : (4 : Int32) < (6 : Int32))) (by decide) (by decide) ?_
   show AT p e below T11 m 23 #[iv p0, iv (4 : Int32), rv w_SERVICE_TYPE, un] [] _
   refine XS.iconst X11.here hx rfl (hb hby at_23) ?_
   show AT p e below T11 m 24 #[iv p0, iv (4 : Int32), rv w_SERVICE_TYPE, un] [(.int (0 : Int32))] _
   refine XS.istoreN X11.here hx rfl (hb hby at_24) rfl (l' := #[iv p0, iv (4 : Int32), rv w_SERVICE_TYPE, iv (0 : Int32)]) rfl ?_
   show AT p e below T11 m 25 #[iv p0, iv (4 : Int32), rv w_SERVICE_TYPE, iv (0 : Int32)] [] _
   refine XS.aloadN X11.here hx rfl (hb hby at_25) rfl rfl ?_
   show AT p e below T11 m 26 #[iv p0, iv (4 : Int32), rv w_SERVICE_TYPE, iv (0 : Int32)] [(.ref w_SERVICE_TYPE)] _
   refine st12.trans ?_
   show AT p e below T12 m 29 #[iv p0, iv (4 : Int32), rv w_SERVICE_TYPE, iv (0 : Int32)] [(.int (0 : Int32))] _
   refine XS.iloadN X12.here hx rfl (hb hby at_29) rfl ?_
   show AT p e below T12 m 30 #[iv p0, iv (4 : Int32), rv w_SERVICE_TYPE, iv (0 : Int32)] [(.int (0 : Int32)), (.int (0 : Int32))] _
   refine XS.icmpNo X12.here hx rfl (hb hby at_30) rfl (XT.ii_ne_f ((by decide) : (0 : Int32) = (0 : Int32))) ?_
   show AT p e below T12 m 33 #[iv p0, iv (4 : Int32), rv w_SERVICE_TYPE, iv (0 : Int32)] [] _
   refine XS.iconst X12.here hx rfl (hb hby at_33) ?_
   show AT p e below T12 m 34 #[iv p0, iv (4 : Int32), rv w_SERVICE_TYPE, iv (0 : Int32)] [(.int (1 : Int32))] _
   refine XS.goto X12.here hx rfl (pc0 := 34) (pc' := 38) rfl (hb hby at_34) (by decide) (by decide) ?_
   show AT p e below T12 m 38 #[iv p0, iv (4 : Int32), rv w_SERVICE_TYPE, iv (0 : Int32)] [(.int (1 : Int32))] _
   exact retN X12 hx (t := .boolean) Bd.returns (by simp) (hb hby at_38) hr
  ·
   show Q0 Z p0 w_COMMUNITY w_USER_GROUP w_OBJECT_GROUP w_ACTION_GROUP w_NAMESPACE w_USER w_TRUST_ANCHOR w_SERVICE_TYPE w_OBJECT h0 n0 _ T12.heap _
   rw [e12]
   exact ⟨rfl, N12⟩
 ·
  obtain ⟨_, _, ⟨T13, L13, k13, n13⟩, -, X13, ⟨Lc13, hQ13, l13, y13, z13⟩, st13⟩ := Jvm.LawKit.callS X0 hx (y := y1) hown (mvT hZ (ow hw 1 rfl)) (mvT hZ (ow hw 2 rfl)) (mvT hZ (ow hw 3 rfl)) (mvT hZ (ow hw 4 rfl)) (by decide) (backOf (W := 0) (rm1 l Z ar hw [] (5 : Int32) w_COMMUNITY w_USER_GROUP w_OBJECT_GROUP w_ACTION_GROUP w_NAMESPACE w_USER w_TRUST_ANCHOR w_SERVICE_TYPE w_OBJECT h0 n0 O0 HW) hZ (ow hw 4 rfl) (ow hw 3 rfl) (by decide) (by decide)) (g := (mkF m 9 #[iv p0, iv (5 : Int32), un, un] [(.int (5 : Int32))])) rfl (by rw [hml]; rfl) (argsL := [(.int (5 : Int32))]) (rest := []) (lenOf pd_0 rfl) rfl (by show 2 * 0 + _ ≤ _; exact Nat.le_of_eq rfl) (hb hby at_9) (fun _ _ => ⟨rfl, e0, (by decide : 0 + 0 ≤ _), (by decide : 0 + 0 ≤ _)⟩)
  dsimp only [Pt.U, Pt.locs, Pt.cells, Pt.slots] at X13 l13 y13 z13 st13 hQ13
  subst l13 y13 z13
  obtain ⟨rfl, N13q, e13⟩ := hQ13
  have N13 := Fr.app N0 N13q
  have r13 : (f1 (5 : Int32) w_COMMUNITY w_USER_GROUP w_OBJECT_GROUP w_ACTION_GROUP w_NAMESPACE w_USER w_TRUST_ANCHOR w_SERVICE_TYPE w_OBJECT) = w_OBJECT := by rw [f1, if_neg ((by decide) : ¬ ((5 : Int32) = (0 : Int32))), if_neg ((by decide) : ¬ ((5 : Int32) = (1 : Int32))), if_neg ((by decide) : ¬ ((5 : Int32) = (2 : Int32))), if_neg ((by decide) : ¬ ((5 : Int32) = (3 : Int32))), if_neg ((by decide) : ¬ ((5 : Int32) = (4 : Int32))), if_pos ((by decide) : (5 : Int32) = (5 : Int32))] <;> decide
  rw [r13] at st13
  obtain ⟨cq14, kq14, q14a, q14b, q14c⟩ := isOf hZ e13 (E_OBJECT.ext O0.2)
  obtain ⟨_, _, ⟨T14, L14, k14, n14⟩, -, X14, ⟨Lc14, hQ14, l14, y14, z14⟩, st14⟩ := X13.virtualBack hx (y := y2) (z := y2) hown (mvT hZ (ow hw 8 rfl)) (mvT hZ (ow hw 9 rfl)) (notFace_of_selects (args := #[]) (mvT hZ (ow hw 11 rfl))) (mvT hZ (ow hw 11 rfl)) (mvT hZ (ow hw 10 rfl)) (by decide) (backOf (W := 0) (rm2 l Z ar hw [] w_OBJECT w_COMMUNITY w_USER_GROUP w_OBJECT_GROUP w_ACTION_GROUP w_NAMESPACE w_USER w_TRUST_ANCHOR w_SERVICE_TYPE w_OBJECT h0 n0 O0 HW) hZ (ow hw 12 rfl) (ow hw 6 rfl) (by decide) (by decide)) q14a q14c (g := (mkF m 26 #[iv p0, iv (5 : Int32), rv w_OBJECT, iv (0 : Int32)] [(.ref w_OBJECT)])) rfl (by rw [hml]; rfl) (Steps.refl _) (argsL := []) (rest := []) (lenOf pd_1 rfl) rfl (by show 2 * 0 + _ ≤ _; exact Nat.le_of_eq rfl) (hb hby at_26) (fun _ _ => ⟨rfl, e13, (by decide : 0 + 0 ≤ _), (by decide : 0 + 0 ≤ _)⟩)
  dsimp only [Pt.U, Pt.locs, Pt.cells, Pt.slots] at X14 l14 y14 z14 st14 hQ14
  subst l14 y14 z14
  obtain ⟨rfl, N14q, e14⟩ := hQ14
  have N14 := Fr.app N13 N14q
  have r14 : (f2 w_OBJECT w_USER_GROUP w_OBJECT_GROUP w_ACTION_GROUP) = (0 : Int32) := by rw [f2, if_neg ((Fld.ne F_ordinal_OBJECT F_ordinal_USER_GROUP (by decide)) : ¬ (w_OBJECT = w_USER_GROUP)), if_neg ((Fld.ne F_ordinal_OBJECT F_ordinal_OBJECT_GROUP (by decide)) : ¬ (w_OBJECT = w_OBJECT_GROUP)), if_neg ((Fld.ne F_ordinal_OBJECT F_ordinal_ACTION_GROUP (by decide)) : ¬ (w_OBJECT = w_ACTION_GROUP))] <;> decide
  rw [r14] at st14
  obtain ⟨fs, hr, hrun, hended, hW, hsame⟩ := X14.leave (v := some (.int (1 : Int32))) (fun h => by rw [Bd.returns] at h; cases h)
  subst hS0
  refine ⟨_, _, pre2 _ ?_, hrun, hended, _, _, rfl, ?_, ⟨_, rfl⟩, hW, hsame.mono (by decide) (by decide)⟩
  ·
   refine XS.iloadN X0.here hx rfl (hb hby at_8) rfl ?_
   show AT p e below s₁ m 9 #[iv p0, iv (5 : Int32), un, un] [(.int (5 : Int32))] _
   refine st13 _ ?_
   show AT p e below T13 m 12 #[iv p0, iv (5 : Int32), un, un] [(.ref w_OBJECT)] _
   refine XS.astoreN X13.here hx rfl (hb hby at_12) rfl rfl (l' := #[iv p0, iv (5 : Int32), rv w_OBJECT, un]) rfl ?_
   show AT p e below T13 m 13 #[iv p0, iv (5 : Int32), rv w_OBJECT, un] [] _
   refine XS.iloadN X13.here hx rfl (hb hby at_13) rfl ?_
   show AT p e below T13 m 14 #[iv p0, iv (5 : Int32), rv w_OBJECT, un] [(.int (5 : Int32))] _
   refine XS.bipush X13.here hx rfl (hb hby at_14) ?_
   show AT p e below T13 m 16 #[iv p0, iv (5 : Int32), rv w_OBJECT, un] [(.int (6 : Int32)), (.int (5 : Int32))] _
   refine XS.icmpYes X13.here hx rfl (pc0 := 16) (pc' := 23) rfl (hb hby at_16) rfl (XT.ii_lt_t ((by decide) : (5 : Int32) < (6 : Int32))) (by decide) (by decide) ?_
   show AT p e below T13 m 23 #[iv p0, iv (5 : Int32), rv w_OBJECT, un] [] _
   refine XS.iconst X13.here hx rfl (hb hby at_23) ?_
   show AT p e below T13 m 24 #[iv p0, iv (5 : Int32), rv w_OBJECT, un] [(.int (0 : Int32))] _
   refine XS.istoreN X13.here hx rfl (hb hby at_24) rfl (l' := #[iv p0, iv (5 : Int32), rv w_OBJECT, iv (0 : Int32)]) rfl ?_
   show AT p e below T13 m 25 #[iv p0, iv (5 : Int32), rv w_OBJECT, iv (0 : Int32)] [] _
   refine XS.aloadN X13.here hx rfl (hb hby at_25) rfl rfl ?_
   show AT p e below T13 m 26 #[iv p0, iv (5 : Int32), rv w_OBJECT, iv (0 : Int32)] [(.ref w_OBJECT)] _
   refine st14.trans ?_
   show AT p e below T14 m 29 #[iv p0, iv (5 : Int32), rv w_OBJECT, iv (0 : Int32)] [(.int (0 : Int32))] _
   refine XS.iloadN X14.here hx rfl (hb hby at_29) rfl ?_
   show AT p e below T14 m 30 #[iv p0, iv (5 : Int32), rv w_OBJECT, iv (0 : Int32)] [(.int (0 : Int32)), (.int (0 : Int32))] _
   refine XS.icmpNo X14.here hx rfl (hb hby at_30) rfl (XT.ii_ne_f ((by decide) : (0 : Int32) = (0 : Int32))) ?_
   show AT p e below T14 m 33 #[iv p0, iv (5 : Int32), rv w_OBJECT, iv (0 : Int32)] [] _
   refine XS.iconst X14.here hx rfl (hb hby at_33) ?_
   show AT p e below T14 m 34 #[iv p0, iv (5 : Int32), rv w_OBJECT, iv (0 : Int32)] [(.int (1 : Int32))] _
   refine XS.goto X14.here hx rfl (pc0 := 34) (pc' := 38) rfl (hb hby at_34) (by decide) (by decide) ?_
   show AT p e below T14 m 38 #[iv p0, iv (5 : Int32), rv w_OBJECT, iv (0 : Int32)] [(.int (1 : Int32))] _
   exact retN X14 hx (t := .boolean) Bd.returns (by simp) (hb hby at_38) hr
  ·
   show Q0 Z p0 w_COMMUNITY w_USER_GROUP w_OBJECT_GROUP w_ACTION_GROUP w_NAMESPACE w_USER w_TRUST_ANCHOR w_SERVICE_TYPE w_OBJECT h0 n0 _ T14.heap _
   rw [e14]
   exact ⟨rfl, N14⟩
 ·
  obtain ⟨_, _, ⟨T15, L15, k15, n15⟩, -, X15, ⟨Lc15, hQ15, l15, y15, z15⟩, st15⟩ := Jvm.LawKit.callS X0 hx (y := y1) hown (mvT hZ (ow hw 1 rfl)) (mvT hZ (ow hw 2 rfl)) (mvT hZ (ow hw 3 rfl)) (mvT hZ (ow hw 4 rfl)) (by decide) (backOf (W := 0) (rm1 l Z ar hw [] (6 : Int32) w_COMMUNITY w_USER_GROUP w_OBJECT_GROUP w_ACTION_GROUP w_NAMESPACE w_USER w_TRUST_ANCHOR w_SERVICE_TYPE w_OBJECT h0 n0 O0 HW) hZ (ow hw 4 rfl) (ow hw 3 rfl) (by decide) (by decide)) (g := (mkF m 9 #[iv p0, iv (6 : Int32), un, un] [(.int (6 : Int32))])) rfl (by rw [hml]; rfl) (argsL := [(.int (6 : Int32))]) (rest := []) (lenOf pd_0 rfl) rfl (by show 2 * 0 + _ ≤ _; exact Nat.le_of_eq rfl) (hb hby at_9) (fun _ _ => ⟨rfl, e0, (by decide : 0 + 0 ≤ _), (by decide : 0 + 0 ≤ _)⟩)
  dsimp only [Pt.U, Pt.locs, Pt.cells, Pt.slots] at X15 l15 y15 z15 st15 hQ15
  subst l15 y15 z15
  obtain ⟨rfl, N15q, e15⟩ := hQ15
  have N15 := Fr.app N0 N15q
  have r15 : (f1 (6 : Int32) w_COMMUNITY w_USER_GROUP w_OBJECT_GROUP w_ACTION_GROUP w_NAMESPACE w_USER w_TRUST_ANCHOR w_SERVICE_TYPE w_OBJECT) = w_USER_GROUP := by rw [f1, if_neg ((by decide) : ¬ ((6 : Int32) = (0 : Int32))), if_neg ((by decide) : ¬ ((6 : Int32) = (1 : Int32))), if_neg ((by decide) : ¬ ((6 : Int32) = (2 : Int32))), if_neg ((by decide) : ¬ ((6 : Int32) = (3 : Int32))), if_neg ((by decide) : ¬ ((6 : Int32) = (4 : Int32))), if_neg ((by decide) : ¬ ((6 : Int32) = (5 : Int32))), if_pos ((by decide) : (6 : Int32) = (6 : Int32))] <;> decide
  rw [r15] at st15
  obtain ⟨cq16, kq16, q16a, q16b, q16c⟩ := isOf hZ e15 (E_USER_GROUP.ext O0.2)
  obtain ⟨_, _, ⟨T16, L16, k16, n16⟩, -, X16, ⟨Lc16, hQ16, l16, y16, z16⟩, st16⟩ := X15.virtualBack hx (y := y2) (z := y2) hown (mvT hZ (ow hw 8 rfl)) (mvT hZ (ow hw 9 rfl)) (notFace_of_selects (args := #[]) (mvT hZ (ow hw 11 rfl))) (mvT hZ (ow hw 11 rfl)) (mvT hZ (ow hw 10 rfl)) (by decide) (backOf (W := 0) (rm2 l Z ar hw [] w_USER_GROUP w_COMMUNITY w_USER_GROUP w_OBJECT_GROUP w_ACTION_GROUP w_NAMESPACE w_USER w_TRUST_ANCHOR w_SERVICE_TYPE w_OBJECT h0 n0 O0 HW) hZ (ow hw 12 rfl) (ow hw 6 rfl) (by decide) (by decide)) q16a q16c (g := (mkF m 26 #[iv p0, iv (6 : Int32), rv w_USER_GROUP, iv (1 : Int32)] [(.ref w_USER_GROUP)])) rfl (by rw [hml]; rfl) (Steps.refl _) (argsL := []) (rest := []) (lenOf pd_1 rfl) rfl (by show 2 * 0 + _ ≤ _; exact Nat.le_of_eq rfl) (hb hby at_26) (fun _ _ => ⟨rfl, e15, (by decide : 0 + 0 ≤ _), (by decide : 0 + 0 ≤ _)⟩)
  dsimp only [Pt.U, Pt.locs, Pt.cells, Pt.slots] at X16 l16 y16 z16 st16 hQ16
  subst l16 y16 z16
  obtain ⟨rfl, N16q, e16⟩ := hQ16
  have N16 := Fr.app N15 N16q
  have r16 : (f2 w_USER_GROUP w_USER_GROUP w_OBJECT_GROUP w_ACTION_GROUP) = (1 : Int32) := by rw [f2, if_pos (rfl : w_USER_GROUP = w_USER_GROUP)] <;> decide
  rw [r16] at st16
  obtain ⟨fs, hr, hrun, hended, hW, hsame⟩ := X16.leave (v := some (.int (1 : Int32))) (fun h => by rw [Bd.returns] at h; cases h)
  subst hS0
  refine ⟨_, _, pre2 _ ?_, hrun, hended, _, _, rfl, ?_, ⟨_, rfl⟩, hW, hsame.mono (by decide) (by decide)⟩
  ·
   refine XS.iloadN X0.here hx rfl (hb hby at_8) rfl ?_
   show AT p e below s₁ m 9 #[iv p0, iv (6 : Int32), un, un] [(.int (6 : Int32))] _
   refine st15 _ ?_
   show AT p e below T15 m 12 #[iv p0, iv (6 : Int32), un, un] [(.ref w_USER_GROUP)] _
   refine XS.astoreN X15.here hx rfl (hb hby at_12) rfl rfl (l' := #[iv p0, iv (6 : Int32), rv w_USER_GROUP, un]) rfl ?_
   show AT p e below T15 m 13 #[iv p0, iv (6 : Int32), rv w_USER_GROUP, un] [] _
   refine XS.iloadN X15.here hx rfl (hb hby at_13) rfl ?_
   show AT p e below T15 m 14 #[iv p0, iv (6 : Int32), rv w_USER_GROUP, un] [(.int (6 : Int32))] _
   refine XS.bipush X15.here hx rfl (hb hby at_14) ?_
   show AT p e below T15 m 16 #[iv p0, iv (6 : Int32), rv w_USER_GROUP, un] [(.int (6 : Int32)), (.int (6 : Int32))] _
   refine XS.icmpNo X15.here hx rfl (hb hby at_16) rfl (XT.ii_lt_f ((by decide) : ¬ ((6 : Int32) < (6 : Int32)))) ?_
   show AT p e below T15 m 19 #[iv p0, iv (6 : Int32), rv w_USER_GROUP, un] [] _
   refine XS.iconst X15.here hx rfl (hb hby at_19) ?_
   show AT p e below T15 m 20 #[iv p0, iv (6 : Int32), rv w_USER_GROUP, un] [(.int (1 : Int32))] _
   refine XS.goto X15.here hx rfl (pc0 := 20) (pc' := 24) rfl (hb hby at_20) (by decide) (by decide) ?_
   show AT p e below T15 m 24 #[iv p0, iv (6 : Int32), rv w_USER_GROUP, un] [(.int (1 : Int32))] _
   refine XS.istoreN X15.here hx rfl (hb hby at_24) rfl (l' := #[iv p0, iv (6 : Int32), rv w_USER_GROUP, iv (1 : Int32)]) rfl ?_
   show AT p e below T15 m 25 #[iv p0, iv (6 : Int32), rv w_USER_GROUP, iv (1 : Int32)] [] _
   refine XS.aloadN X15.here hx rfl (hb hby at_25) rfl rfl ?_
   show AT p e below T15 m 26 #[iv p0, iv (6 : Int32), rv w_USER_GROUP, iv (1 : Int32)] [(.ref w_USER_GROUP)] _
   refine st16.trans ?_
   show AT p e below T16 m 29 #[iv p0, iv (6 : Int32), rv w_USER_GROUP, iv (1 : Int32)] [(.int (1 : Int32))] _
   refine XS.iloadN X16.here hx rfl (hb hby at_29) rfl ?_
   show AT p e below T16 m 30 #[iv p0, iv (6 : Int32), rv w_USER_GROUP, iv (1 : Int32)] [(.int (1 : Int32)), (.int (1 : Int32))] _
   refine XS.icmpNo X16.here hx rfl (hb hby at_30) rfl (XT.ii_ne_f ((by decide) : (1 : Int32) = (1 : Int32))) ?_
   show AT p e below T16 m 33 #[iv p0, iv (6 : Int32), rv w_USER_GROUP, iv (1 : Int32)] [] _
   refine XS.iconst X16.here hx rfl (hb hby at_33) ?_
   show AT p e below T16 m 34 #[iv p0, iv (6 : Int32), rv w_USER_GROUP, iv (1 : Int32)] [(.int (1 : Int32))] _
   refine XS.goto X16.here hx rfl (pc0 := 34) (pc' := 38) rfl (hb hby at_34) (by decide) (by decide) ?_
   show AT p e below T16 m 38 #[iv p0, iv (6 : Int32), rv w_USER_GROUP, iv (1 : Int32)] [(.int (1 : Int32))] _
   exact retN X16 hx (t := .boolean) Bd.returns (by simp) (hb hby at_38) hr
  ·
   show Q0 Z p0 w_COMMUNITY w_USER_GROUP w_OBJECT_GROUP w_ACTION_GROUP w_NAMESPACE w_USER w_TRUST_ANCHOR w_SERVICE_TYPE w_OBJECT h0 n0 _ T16.heap _
   rw [e16]
   exact ⟨rfl, N16⟩
 ·
  obtain ⟨_, _, ⟨T17, L17, k17, n17⟩, -, X17, ⟨Lc17, hQ17, l17, y17, z17⟩, st17⟩ := Jvm.LawKit.callS X0 hx (y := y1) hown (mvT hZ (ow hw 1 rfl)) (mvT hZ (ow hw 2 rfl)) (mvT hZ (ow hw 3 rfl)) (mvT hZ (ow hw 4 rfl)) (by decide) (backOf (W := 0) (rm1 l Z ar hw [] (7 : Int32) w_COMMUNITY w_USER_GROUP w_OBJECT_GROUP w_ACTION_GROUP w_NAMESPACE w_USER w_TRUST_ANCHOR w_SERVICE_TYPE w_OBJECT h0 n0 O0 HW) hZ (ow hw 4 rfl) (ow hw 3 rfl) (by decide) (by decide)) (g := (mkF m 9 #[iv p0, iv (7 : Int32), un, un] [(.int (7 : Int32))])) rfl (by rw [hml]; rfl) (argsL := [(.int (7 : Int32))]) (rest := []) (lenOf pd_0 rfl) rfl (by show 2 * 0 + _ ≤ _; exact Nat.le_of_eq rfl) (hb hby at_9) (fun _ _ => ⟨rfl, e0, (by decide : 0 + 0 ≤ _), (by decide : 0 + 0 ≤ _)⟩)
  dsimp only [Pt.U, Pt.locs, Pt.cells, Pt.slots] at X17 l17 y17 z17 st17 hQ17
  subst l17 y17 z17
  obtain ⟨rfl, N17q, e17⟩ := hQ17
  have N17 := Fr.app N0 N17q
  have r17 : (f1 (7 : Int32) w_COMMUNITY w_USER_GROUP w_OBJECT_GROUP w_ACTION_GROUP w_NAMESPACE w_USER w_TRUST_ANCHOR w_SERVICE_TYPE w_OBJECT) = w_OBJECT_GROUP := by rw [f1, if_neg ((by decide) : ¬ ((7 : Int32) = (0 : Int32))), if_neg ((by decide) : ¬ ((7 : Int32) = (1 : Int32))), if_neg ((by decide) : ¬ ((7 : Int32) = (2 : Int32))), if_neg ((by decide) : ¬ ((7 : Int32) = (3 : Int32))), if_neg ((by decide) : ¬ ((7 : Int32) = (4 : Int32))), if_neg ((by decide) : ¬ ((7 : Int32) = (5 : Int32))), if_neg ((by decide) : ¬ ((7 : Int32) = (6 : Int32))), if_pos ((by decide) : (7 : Int32) = (7 : Int32))] <;> decide
  rw [r17] at st17
  obtain ⟨cq18, kq18, q18a, q18b, q18c⟩ := isOf hZ e17 (E_OBJECT_GROUP.ext O0.2)
  obtain ⟨_, _, ⟨T18, L18, k18, n18⟩, -, X18, ⟨Lc18, hQ18, l18, y18, z18⟩, st18⟩ := X17.virtualBack hx (y := y2) (z := y2) hown (mvT hZ (ow hw 8 rfl)) (mvT hZ (ow hw 9 rfl)) (notFace_of_selects (args := #[]) (mvT hZ (ow hw 11 rfl))) (mvT hZ (ow hw 11 rfl)) (mvT hZ (ow hw 10 rfl)) (by decide) (backOf (W := 0) (rm2 l Z ar hw [] w_OBJECT_GROUP w_COMMUNITY w_USER_GROUP w_OBJECT_GROUP w_ACTION_GROUP w_NAMESPACE w_USER w_TRUST_ANCHOR w_SERVICE_TYPE w_OBJECT h0 n0 O0 HW) hZ (ow hw 12 rfl) (ow hw 6 rfl) (by decide) (by decide)) q18a q18c (g := (mkF m 26 #[iv p0, iv (7 : Int32), rv w_OBJECT_GROUP, iv (1 : Int32)] [(.ref w_OBJECT_GROUP)])) rfl (by rw [hml]; rfl) (Steps.refl _) (argsL := []) (rest := []) (lenOf pd_1 rfl) rfl (by show 2 * 0 + _ ≤ _; exact Nat.le_of_eq rfl) (hb hby at_26) (fun _ _ => ⟨rfl, e17, (by decide : 0 + 0 ≤ _), (by decide : 0 + 0 ≤ _)⟩)
  dsimp only [Pt.U, Pt.locs, Pt.cells, Pt.slots] at X18 l18 y18 z18 st18 hQ18
  subst l18 y18 z18
  obtain ⟨rfl, N18q, e18⟩ := hQ18
  have N18 := Fr.app N17 N18q
  have r18 : (f2 w_OBJECT_GROUP w_USER_GROUP w_OBJECT_GROUP w_ACTION_GROUP) = (1 : Int32) := by rw [f2, if_neg ((Fld.ne F_ordinal_OBJECT_GROUP F_ordinal_USER_GROUP (by decide)) : ¬ (w_OBJECT_GROUP = w_USER_GROUP)), if_pos (rfl : w_OBJECT_GROUP = w_OBJECT_GROUP)] <;> decide
  rw [r18] at st18
  obtain ⟨fs, hr, hrun, hended, hW, hsame⟩ := X18.leave (v := some (.int (1 : Int32))) (fun h => by rw [Bd.returns] at h; cases h)
  subst hS0
  refine ⟨_, _, pre2 _ ?_, hrun, hended, _, _, rfl, ?_, ⟨_, rfl⟩, hW, hsame.mono (by decide) (by decide)⟩
  ·
   refine XS.iloadN X0.here hx rfl (hb hby at_8) rfl ?_
   show AT p e below s₁ m 9 #[iv p0, iv (7 : Int32), un, un] [(.int (7 : Int32))] _
   refine st17 _ ?_
   show AT p e below T17 m 12 #[iv p0, iv (7 : Int32), un, un] [(.ref w_OBJECT_GROUP)] _
   refine XS.astoreN X17.here hx rfl (hb hby at_12) rfl rfl (l' := #[iv p0, iv (7 : Int32), rv w_OBJECT_GROUP, un]) rfl ?_
   show AT p e below T17 m 13 #[iv p0, iv (7 : Int32), rv w_OBJECT_GROUP, un] [] _
   refine XS.iloadN X17.here hx rfl (hb hby at_13) rfl ?_
   show AT p e below T17 m 14 #[iv p0, iv (7 : Int32), rv w_OBJECT_GROUP, un] [(.int (7 : Int32))] _
   refine XS.bipush X17.here hx rfl (hb hby at_14) ?_
   show AT p e below T17 m 16 #[iv p0, iv (7 : Int32), rv w_OBJECT_GROUP, un] [(.int (6 : Int32)), (.int (7 : Int32))] _
   refine XS.icmpNo X17.here hx rfl (hb hby at_16) rfl (XT.ii_lt_f ((by decide) : ¬ ((7 : Int32) < (6 : Int32)))) ?_
   show AT p e below T17 m 19 #[iv p0, iv (7 : Int32), rv w_OBJECT_GROUP, un] [] _
   refine XS.iconst X17.here hx rfl (hb hby at_19) ?_
   show AT p e below T17 m 20 #[iv p0, iv (7 : Int32), rv w_OBJECT_GROUP, un] [(.int (1 : Int32))] _
   refine XS.goto X17.here hx rfl (pc0 := 20) (pc' := 24) rfl (hb hby at_20) (by decide) (by decide) ?_
   show AT p e below T17 m 24 #[iv p0, iv (7 : Int32), rv w_OBJECT_GROUP, un] [(.int (1 : Int32))] _
   refine XS.istoreN X17.here hx rfl (hb hby at_24) rfl (l' := #[iv p0, iv (7 : Int32), rv w_OBJECT_GROUP, iv (1 : Int32)]) rfl ?_
   show AT p e below T17 m 25 #[iv p0, iv (7 : Int32), rv w_OBJECT_GROUP, iv (1 : Int32)] [] _
   refine XS.aloadN X17.here hx rfl (hb hby at_25) rfl rfl ?_
   show AT p e below T17 m 26 #[iv p0, iv (7 : Int32), rv w_OBJECT_GROUP, iv (1 : Int32)] [(.ref w_OBJECT_GROUP)] _
   refine st18.trans ?_
   show AT p e below T18 m 29 #[iv p0, iv (7 : Int32), rv w_OBJECT_GROUP, iv (1 : Int32)] [(.int (1 : Int32))] _
   refine XS.iloadN X18.here hx rfl (hb hby at_29) rfl ?_
   show AT p e below T18 m 30 #[iv p0, iv (7 : Int32), rv w_OBJECT_GROUP, iv (1 : Int32)] [(.int (1 : Int32)), (.int (1 : Int32))] _
   refine XS.icmpNo X18.here hx rfl (hb hby at_30) rfl (XT.ii_ne_f ((by decide) : (1 : Int32) = (1 : Int32))) ?_
   show AT p e below T18 m 33 #[iv p0, iv (7 : Int32), rv w_OBJECT_GROUP, iv (1 : Int32)] [] _
   refine XS.iconst X18.here hx rfl (hb hby at_33) ?_
   show AT p e below T18 m 34 #[iv p0, iv (7 : Int32), rv w_OBJECT_GROUP, iv (1 : Int32)] [(.int (1 : Int32))] _
   refine XS.goto X18.here hx rfl (pc0 := 34) (pc' := 38) rfl (hb hby at_34) (by decide) (by decide) ?_
   show AT p e below T18 m 38 #[iv p0, iv (7 : Int32), rv w_OBJECT_GROUP, iv (1 : Int32)] [(.int (1 : Int32))] _
   exact retN X18 hx (t := .boolean) Bd.returns (by simp) (hb hby at_38) hr
  ·
   show Q0 Z p0 w_COMMUNITY w_USER_GROUP w_OBJECT_GROUP w_ACTION_GROUP w_NAMESPACE w_USER w_TRUST_ANCHOR w_SERVICE_TYPE w_OBJECT h0 n0 _ T18.heap _
   rw [e18]
   exact ⟨rfl, N18⟩
 ·
  obtain ⟨_, _, ⟨T19, L19, k19, n19⟩, -, X19, ⟨Lc19, hQ19, l19, y19, z19⟩, st19⟩ := Jvm.LawKit.callS X0 hx (y := y1) hown (mvT hZ (ow hw 1 rfl)) (mvT hZ (ow hw 2 rfl)) (mvT hZ (ow hw 3 rfl)) (mvT hZ (ow hw 4 rfl)) (by decide) (backOf (W := 0) (rm1 l Z ar hw [] (8 : Int32) w_COMMUNITY w_USER_GROUP w_OBJECT_GROUP w_ACTION_GROUP w_NAMESPACE w_USER w_TRUST_ANCHOR w_SERVICE_TYPE w_OBJECT h0 n0 O0 HW) hZ (ow hw 4 rfl) (ow hw 3 rfl) (by decide) (by decide)) (g := (mkF m 9 #[iv p0, iv (8 : Int32), un, un] [(.int (8 : Int32))])) rfl (by rw [hml]; rfl) (argsL := [(.int (8 : Int32))]) (rest := []) (lenOf pd_0 rfl) rfl (by show 2 * 0 + _ ≤ _; exact Nat.le_of_eq rfl) (hb hby at_9) (fun _ _ => ⟨rfl, e0, (by decide : 0 + 0 ≤ _), (by decide : 0 + 0 ≤ _)⟩)
  dsimp only [Pt.U, Pt.locs, Pt.cells, Pt.slots] at X19 l19 y19 z19 st19 hQ19
  subst l19 y19 z19
  obtain ⟨rfl, N19q, e19⟩ := hQ19
  have N19 := Fr.app N0 N19q
  have r19 : (f1 (8 : Int32) w_COMMUNITY w_USER_GROUP w_OBJECT_GROUP w_ACTION_GROUP w_NAMESPACE w_USER w_TRUST_ANCHOR w_SERVICE_TYPE w_OBJECT) = w_ACTION_GROUP := by rw [f1, if_neg ((by decide) : ¬ ((8 : Int32) = (0 : Int32))), if_neg ((by decide) : ¬ ((8 : Int32) = (1 : Int32))), if_neg ((by decide) : ¬ ((8 : Int32) = (2 : Int32))), if_neg ((by decide) : ¬ ((8 : Int32) = (3 : Int32))), if_neg ((by decide) : ¬ ((8 : Int32) = (4 : Int32))), if_neg ((by decide) : ¬ ((8 : Int32) = (5 : Int32))), if_neg ((by decide) : ¬ ((8 : Int32) = (6 : Int32))), if_neg ((by decide) : ¬ ((8 : Int32) = (7 : Int32)))] <;> decide
  rw [r19] at st19
  obtain ⟨cq20, kq20, q20a, q20b, q20c⟩ := isOf hZ e19 (E_ACTION_GROUP.ext O0.2)
  obtain ⟨_, _, ⟨T20, L20, k20, n20⟩, -, X20, ⟨Lc20, hQ20, l20, y20, z20⟩, st20⟩ := X19.virtualBack hx (y := y2) (z := y2) hown (mvT hZ (ow hw 8 rfl)) (mvT hZ (ow hw 9 rfl)) (notFace_of_selects (args := #[]) (mvT hZ (ow hw 11 rfl))) (mvT hZ (ow hw 11 rfl)) (mvT hZ (ow hw 10 rfl)) (by decide) (backOf (W := 0) (rm2 l Z ar hw [] w_ACTION_GROUP w_COMMUNITY w_USER_GROUP w_OBJECT_GROUP w_ACTION_GROUP w_NAMESPACE w_USER w_TRUST_ANCHOR w_SERVICE_TYPE w_OBJECT h0 n0 O0 HW) hZ (ow hw 12 rfl) (ow hw 6 rfl) (by decide) (by decide)) q20a q20c (g := (mkF m 26 #[iv p0, iv (8 : Int32), rv w_ACTION_GROUP, iv (1 : Int32)] [(.ref w_ACTION_GROUP)])) rfl (by rw [hml]; rfl) (Steps.refl _) (argsL := []) (rest := []) (lenOf pd_1 rfl) rfl (by show 2 * 0 + _ ≤ _; exact Nat.le_of_eq rfl) (hb hby at_26) (fun _ _ => ⟨rfl, e19, (by decide : 0 + 0 ≤ _), (by decide : 0 + 0 ≤ _)⟩)
  dsimp only [Pt.U, Pt.locs, Pt.cells, Pt.slots] at X20 l20 y20 z20 st20 hQ20
  subst l20 y20 z20
  obtain ⟨rfl, N20q, e20⟩ := hQ20
  have N20 := Fr.app N19 N20q
  have r20 : (f2 w_ACTION_GROUP w_USER_GROUP w_OBJECT_GROUP w_ACTION_GROUP) = (1 : Int32) := by rw [f2, if_neg ((Fld.ne F_ordinal_ACTION_GROUP F_ordinal_USER_GROUP (by decide)) : ¬ (w_ACTION_GROUP = w_USER_GROUP)), if_neg ((Fld.ne F_ordinal_ACTION_GROUP F_ordinal_OBJECT_GROUP (by decide)) : ¬ (w_ACTION_GROUP = w_OBJECT_GROUP)), if_pos (rfl : w_ACTION_GROUP = w_ACTION_GROUP)] <;> decide
  rw [r20] at st20
  obtain ⟨fs, hr, hrun, hended, hW, hsame⟩ := X20.leave (v := some (.int (1 : Int32))) (fun h => by rw [Bd.returns] at h; cases h)
  subst hS0
  refine ⟨_, _, pre2 _ ?_, hrun, hended, _, _, rfl, ?_, ⟨_, rfl⟩, hW, hsame.mono (by decide) (by decide)⟩
  ·
   refine XS.iloadN X0.here hx rfl (hb hby at_8) rfl ?_
   show AT p e below s₁ m 9 #[iv p0, iv (8 : Int32), un, un] [(.int (8 : Int32))] _
   refine st19 _ ?_
   show AT p e below T19 m 12 #[iv p0, iv (8 : Int32), un, un] [(.ref w_ACTION_GROUP)] _
   refine XS.astoreN X19.here hx rfl (hb hby at_12) rfl rfl (l' := #[iv p0, iv (8 : Int32), rv w_ACTION_GROUP, un]) rfl ?_
   show AT p e below T19 m 13 #[iv p0, iv (8 : Int32), rv w_ACTION_GROUP, un] [] _
   refine XS.iloadN X19.here hx rfl (hb hby at_13) rfl ?_
   show AT p e below T19 m 14 #[iv p0, iv (8 : Int32), rv w_ACTION_GROUP, un] [(.int (8 : Int32))] _
   refine XS.bipush X19.here hx rfl (hb hby at_14) ?_
   show AT p e below T19 m 16 #[iv p0, iv (8 : Int32), rv w_ACTION_GROUP, un] [(.int (6 : Int32)), (.int (8 : Int32))] _
   refine XS.icmpNo X19.here hx rfl (hb hby at_16) rfl (XT.ii_lt_f ((by decide) : ¬ ((8 : Int32) < (6 : Int32)))) ?_
   show AT p e below T19 m 19 #[iv p0, iv (8 : Int32), rv w_ACTION_GROUP, un] [] _
   refine XS.iconst X19.here hx rfl (hb hby at_19) ?_
   show AT p e below T19 m 20 #[iv p0, iv (8 : Int32), rv w_ACTION_GROUP, un] [(.int (1 : Int32))] _
   refine XS.goto X19.here hx rfl (pc0 := 20) (pc' := 24) rfl (hb hby at_20) (by decide) (by decide) ?_
   show AT p e below T19 m 24 #[iv p0, iv (8 : Int32), rv w_ACTION_GROUP, un] [(.int (1 : Int32))] _
   refine XS.istoreN X19.here hx rfl (hb hby at_24) rfl (l' := #[iv p0, iv (8 : Int32), rv w_ACTION_GROUP, iv (1 : Int32)]) rfl ?_
   show AT p e below T19 m 25 #[iv p0, iv (8 : Int32), rv w_ACTION_GROUP, iv (1 : Int32)] [] _
   refine XS.aloadN X19.here hx rfl (hb hby at_25) rfl rfl ?_
   show AT p e below T19 m 26 #[iv p0, iv (8 : Int32), rv w_ACTION_GROUP, iv (1 : Int32)] [(.ref w_ACTION_GROUP)] _
   refine st20.trans ?_
   show AT p e below T20 m 29 #[iv p0, iv (8 : Int32), rv w_ACTION_GROUP, iv (1 : Int32)] [(.int (1 : Int32))] _
   refine XS.iloadN X20.here hx rfl (hb hby at_29) rfl ?_
   show AT p e below T20 m 30 #[iv p0, iv (8 : Int32), rv w_ACTION_GROUP, iv (1 : Int32)] [(.int (1 : Int32)), (.int (1 : Int32))] _
   refine XS.icmpNo X20.here hx rfl (hb hby at_30) rfl (XT.ii_ne_f ((by decide) : (1 : Int32) = (1 : Int32))) ?_
   show AT p e below T20 m 33 #[iv p0, iv (8 : Int32), rv w_ACTION_GROUP, iv (1 : Int32)] [] _
   refine XS.iconst X20.here hx rfl (hb hby at_33) ?_
   show AT p e below T20 m 34 #[iv p0, iv (8 : Int32), rv w_ACTION_GROUP, iv (1 : Int32)] [(.int (1 : Int32))] _
   refine XS.goto X20.here hx rfl (pc0 := 34) (pc' := 38) rfl (hb hby at_34) (by decide) (by decide) ?_
   show AT p e below T20 m 38 #[iv p0, iv (8 : Int32), rv w_ACTION_GROUP, iv (1 : Int32)] [(.int (1 : Int32))] _
   exact retN X20 hx (t := .boolean) Bd.returns (by simp) (hb hby at_38) hr
  ·
   show Q0 Z p0 w_COMMUNITY w_USER_GROUP w_OBJECT_GROUP w_ACTION_GROUP w_NAMESPACE w_USER w_TRUST_ANCHOR w_SERVICE_TYPE w_OBJECT h0 n0 _ T20.heap _
   rw [e20]
   exact ⟨rfl, N20⟩

set_option maxRecDepth 65536 in
set_option maxHeartbeats 40000000 in
theorem comes_1 {Post : Tables → Env → Array Value → State → Outcome → State → Prop} (hpost : ∀ tb e args s v u, (limb_1_1.after args s (.returned v) u = true ∧ limb_1_2.after args s (.returned v) u = true ∧ True) → FrameEnd s (.returned v) u (Jvm.fieldLocs frame_1_writes args s ++ Jvm.arrayLocs frame_1_arrays args s ++ Jvm.staticLocs frame_1_statics s) 0 0 → Post tb e args s (.returned v) u) :
    ArmFor flags0 classFile x code maxLocals ret World_1 tables_1 room_1 Calls_1 rest_1 Pre_1 Post := by
  intro l hfl _ _ p e ha hc hk s m args below hf hA hF happ hP
  obtain ⟨hcalls, hrest, hpre⟩ := hP
  obtain ⟨-, -, -, hnamed, -, -, -, hat⟩ := (Spec.applies_iff hf).mp happ
  obtain ⟨hg, hn⟩ := and_e (Cond.before_iff.mp (show (Jvm.Cond.and given_1 narrow_1).before args s = true from hpre))
  obtain ⟨hg1, hg2⟩ := and_e hg
  obtain ⟨w0, rfl⟩ : ∃ w0 : Value, args = #[w0] := by
    have hs : args.size = 1 := by simpa [Cond.value, given_1] using hg1
    obtain ⟨L⟩ := args
    match L, hs with
    | [w0], _ => exact ⟨w0, rfl⟩
  have hw := fun d (hd : d ∈ tables_1) => atoms_spec (ws := Jvm.Cond.code x code maxLocals ret :: tables_1) hat d (List.mem_cons_of_mem _ hd)
  have hfit : Fit s := fun {y c} hc i hi => by
    obtain ⟨ha, rfl⟩ := Array.getElem?_eq_some_iff.mp hc
    have q := List.all_eq_true.mp ((Array.all_eq_true_iff_forall_mem.mp hF) _ (Array.getElem_mem ha)) i (List.mem_range.mpr hi)
    simpa [Array.getElem?_eq_getElem hi] using q
  obtain ⟨i0, ei0⟩ := is_v hg2
  obtain rfl : w0 = (.int i0) := Option.some.inj ei0
  obtain ⟨hn1, hn2⟩ := and_e hn
  obtain ⟨hn21, hn22⟩ := and_e hn2
  obtain ⟨hn221, hn222⟩ := and_e hn22
  obtain ⟨hn2221, hn2222⟩ := and_e hn222
  obtain ⟨hn22221, hn22222⟩ := and_e hn2222
  obtain ⟨hn222221, hn222222⟩ := and_e hn22222
  obtain ⟨hn2222221, hn2222222⟩ := and_e hn222222
  obtain ⟨hn22222221, hn22222222⟩ := and_e hn2222222
  obtain ⟨hn222222221, hn222222222⟩ := and_e hn22222222
  obtain ⟨hn2222222221, hn2222222222⟩ := and_e hn222222222
  obtain ⟨hn22222222221, hn22222222222⟩ := and_e hn2222222222
  obtain ⟨hn222222222221, hn222222222222⟩ := and_e hn22222222222
  obtain ⟨hn2222222222221, hn2222222222222⟩ := and_e hn222222222222
  obtain ⟨hn22222222222221, hn22222222222222⟩ := and_e hn2222222222222
  obtain ⟨hn222222222222221, hn222222222222222⟩ := and_e hn22222222222222
  obtain ⟨hn2222222222222221, hn2222222222222222⟩ := and_e hn222222222222222
  obtain ⟨hn22222222222222221, hn22222222222222222⟩ := and_e hn2222222222222222
  obtain ⟨w_COMMUNITY, ev_w_COMMUNITY⟩ := exa_v hn1
  have S_COMMUNITY : Sta s s.heap "com/example/polity/polity/model/Entry$Kind" "COMMUNITY" "Lcom/example/polity/polity/model/Entry$Kind;" (.ref w_COMMUNITY) := Sta.start ev_w_COMMUNITY (Or.inr ⟨(ow hw 6 rfl), (ow hw 7 rfl)⟩)
  have E_COMMUNITY : Exa s s.heap w_COMMUNITY "com/example/polity/polity/model/Entry$Kind" := Exa.start ev_w_COMMUNITY hn1
  obtain ⟨w_USER_GROUP, ev_w_USER_GROUP⟩ := exa_v hn21
  have S_USER_GROUP : Sta s s.heap "com/example/polity/polity/model/Entry$Kind" "USER_GROUP" "Lcom/example/polity/polity/model/Entry$Kind;" (.ref w_USER_GROUP) := Sta.start ev_w_USER_GROUP (Or.inr ⟨(ow hw 6 rfl), (ow hw 14 rfl)⟩)
  have E_USER_GROUP : Exa s s.heap w_USER_GROUP "com/example/polity/polity/model/Entry$Kind" := Exa.start ev_w_USER_GROUP hn21
  have evhn221 := own_eqInt hn221
  have F_ordinal_COMMUNITY : Fld s s.heap w_COMMUNITY "java/lang/Enum" "ordinal" "I" (.int (0 : Int32)) := Fld.start ((fld_at ev_w_COMMUNITY).symm.trans evhn221)
  have evhn2221 := own_eqInt hn2221
  have F_ordinal_USER_GROUP : Fld s s.heap w_USER_GROUP "java/lang/Enum" "ordinal" "I" (.int (6 : Int32)) := Fld.start ((fld_at ev_w_USER_GROUP).symm.trans evhn2221)
  obtain ⟨w_OBJECT_GROUP, ev_w_OBJECT_GROUP⟩ := exa_v hn22221
  have S_OBJECT_GROUP : Sta s s.heap "com/example/polity/polity/model/Entry$Kind" "OBJECT_GROUP" "Lcom/example/polity/polity/model/Entry$Kind;" (.ref w_OBJECT_GROUP) := Sta.start ev_w_OBJECT_GROUP (Or.inr ⟨(ow hw 6 rfl), (ow hw 16 rfl)⟩)
  have E_OBJECT_GROUP : Exa s s.heap w_OBJECT_GROUP "com/example/polity/polity/model/Entry$Kind" := Exa.start ev_w_OBJECT_GROUP hn22221
  have evhn222221 := own_eqInt hn222221
  have F_ordinal_OBJECT_GROUP : Fld s s.heap w_OBJECT_GROUP "java/lang/Enum" "ordinal" "I" (.int (7 : Int32)) := Fld.start ((fld_at ev_w_OBJECT_GROUP).symm.trans evhn222221)
  obtain ⟨w_ACTION_GROUP, ev_w_ACTION_GROUP⟩ := exa_v hn2222221
  have S_ACTION_GROUP : Sta s s.heap "com/example/polity/polity/model/Entry$Kind" "ACTION_GROUP" "Lcom/example/polity/polity/model/Entry$Kind;" (.ref w_ACTION_GROUP) := Sta.start ev_w_ACTION_GROUP (Or.inr ⟨(ow hw 6 rfl), (ow hw 18 rfl)⟩)
  have E_ACTION_GROUP : Exa s s.heap w_ACTION_GROUP "com/example/polity/polity/model/Entry$Kind" := Exa.start ev_w_ACTION_GROUP hn2222221
  have evhn22222221 := own_eqInt hn22222221
  have F_ordinal_ACTION_GROUP : Fld s s.heap w_ACTION_GROUP "java/lang/Enum" "ordinal" "I" (.int (8 : Int32)) := Fld.start ((fld_at ev_w_ACTION_GROUP).symm.trans evhn22222221)
  obtain ⟨w_NAMESPACE, ev_w_NAMESPACE⟩ := exa_v hn222222221
  have S_NAMESPACE : Sta s s.heap "com/example/polity/polity/model/Entry$Kind" "NAMESPACE" "Lcom/example/polity/polity/model/Entry$Kind;" (.ref w_NAMESPACE) := Sta.start ev_w_NAMESPACE (Or.inr ⟨(ow hw 6 rfl), (ow hw 20 rfl)⟩)
  have E_NAMESPACE : Exa s s.heap w_NAMESPACE "com/example/polity/polity/model/Entry$Kind" := Exa.start ev_w_NAMESPACE hn222222221
  have evhn2222222221 := own_eqInt hn2222222221
  have F_ordinal_NAMESPACE : Fld s s.heap w_NAMESPACE "java/lang/Enum" "ordinal" "I" (.int (3 : Int32)) := Fld.start ((fld_at ev_w_NAMESPACE).symm.trans evhn2222222221)
  obtain ⟨w_USER, ev_w_USER⟩ := exa_v hn22222222221
  have S_USER : Sta s s.heap "com/example/polity/polity/model/Entry$Kind" "USER" "Lcom/example/polity/polity/model/Entry$Kind;" (.ref w_USER) := Sta.start ev_w_USER (Or.inr ⟨(ow hw 6 rfl), (ow hw 22 rfl)⟩)
  have E_USER : Exa s s.heap w_USER "com/example/polity/polity/model/Entry$Kind" := Exa.start ev_w_USER hn22222222221
  have evhn222222222221 := own_eqInt hn222222222221
  have F_ordinal_USER : Fld s s.heap w_USER "java/lang/Enum" "ordinal" "I" (.int (2 : Int32)) := Fld.start ((fld_at ev_w_USER).symm.trans evhn222222222221)
  obtain ⟨w_TRUST_ANCHOR, ev_w_TRUST_ANCHOR⟩ := exa_v hn2222222222221
  have S_TRUST_ANCHOR : Sta s s.heap "com/example/polity/polity/model/Entry$Kind" "TRUST_ANCHOR" "Lcom/example/polity/polity/model/Entry$Kind;" (.ref w_TRUST_ANCHOR) := Sta.start ev_w_TRUST_ANCHOR (Or.inr ⟨(ow hw 6 rfl), (ow hw 24 rfl)⟩)
  have E_TRUST_ANCHOR : Exa s s.heap w_TRUST_ANCHOR "com/example/polity/polity/model/Entry$Kind" := Exa.start ev_w_TRUST_ANCHOR hn2222222222221
  have evhn22222222222221 := own_eqInt hn22222222222221
  have F_ordinal_TRUST_ANCHOR : Fld s s.heap w_TRUST_ANCHOR "java/lang/Enum" "ordinal" "I" (.int (1 : Int32)) := Fld.start ((fld_at ev_w_TRUST_ANCHOR).symm.trans evhn22222222222221)
  obtain ⟨w_SERVICE_TYPE, ev_w_SERVICE_TYPE⟩ := exa_v hn222222222222221
  have S_SERVICE_TYPE : Sta s s.heap "com/example/polity/polity/model/Entry$Kind" "SERVICE_TYPE" "Lcom/example/polity/polity/model/Entry$Kind;" (.ref w_SERVICE_TYPE) := Sta.start ev_w_SERVICE_TYPE (Or.inr ⟨(ow hw 6 rfl), (ow hw 27 rfl)⟩)
  have E_SERVICE_TYPE : Exa s s.heap w_SERVICE_TYPE "com/example/polity/polity/model/Entry$Kind" := Exa.start ev_w_SERVICE_TYPE hn222222222222221
  have evhn2222222222222221 := own_eqInt hn2222222222222221
  have F_ordinal_SERVICE_TYPE : Fld s s.heap w_SERVICE_TYPE "java/lang/Enum" "ordinal" "I" (.int (4 : Int32)) := Fld.start ((fld_at ev_w_SERVICE_TYPE).symm.trans evhn2222222222222221)
  obtain ⟨w_OBJECT, ev_w_OBJECT⟩ := exa_v hn22222222222222221
  have S_OBJECT : Sta s s.heap "com/example/polity/polity/model/Entry$Kind" "OBJECT" "Lcom/example/polity/polity/model/Entry$Kind;" (.ref w_OBJECT) := Sta.start ev_w_OBJECT (Or.inr ⟨(ow hw 6 rfl), (ow hw 31 rfl)⟩)
  have E_OBJECT : Exa s s.heap w_OBJECT "com/example/polity/polity/model/Entry$Kind" := Exa.start ev_w_OBJECT hn22222222222222221
  have evhn22222222222222222 := own_eqInt hn22222222222222222
  have F_ordinal_OBJECT : Fld s s.heap w_OBJECT "java/lang/Enum" "ordinal" "I" (.int (5 : Int32)) := Fld.start ((fld_at ev_w_OBJECT).symm.trans evhn22222222222222222)
  have HW : Wd s w_COMMUNITY w_USER_GROUP w_OBJECT_GROUP w_ACTION_GROUP w_NAMESPACE w_USER w_TRUST_ANCHOR w_SERVICE_TYPE w_OBJECT := ⟨S_COMMUNITY, E_COMMUNITY, S_USER_GROUP, E_USER_GROUP, F_ordinal_COMMUNITY, F_ordinal_USER_GROUP, S_OBJECT_GROUP, E_OBJECT_GROUP, F_ordinal_OBJECT_GROUP, S_ACTION_GROUP, E_ACTION_GROUP, F_ordinal_ACTION_GROUP, S_NAMESPACE, E_NAMESPACE, F_ordinal_NAMESPACE, S_USER, E_USER, F_ordinal_USER, S_TRUST_ANCHOR, E_TRUST_ANCHOR, F_ordinal_TRUST_ANCHOR, S_SERVICE_TYPE, E_SERVICE_TYPE, F_ordinal_SERVICE_TYPE, S_OBJECT, E_OBJECT, F_ordinal_OBJECT⟩
  obtain ⟨n, o, h1, h2, h3, _, L, rfl, ⟨rfl, N⟩, hq⟩ := rm0 l s _ hw tables_1 i0 w_COMMUNITY w_USER_GROUP w_OBJECT_GROUP w_ACTION_GROUP w_NAMESPACE w_USER w_TRUST_ANCHOR w_SERVICE_TYPE w_OBJECT s.heap s.heap.size (Old.start s) HW p e ha hc hk s m _ below hf ((Spec.applies_iff_loose hf).mp happ).1 ⟨rfl, State.Warmed39.refl s, rfl⟩ trivial
  refine ⟨n, _, h1, h2, h3, hpost _ _ _ _ _ _ ⟨Cond.after_iff.mpr rfl, Cond.after_iff.mpr (eq_i res_at (Term.int_eval (1)) rfl), trivial⟩ ⟨hq.1, hq.2.1, (hq.2.2.sift fun y hy => Or.inr (N y hy)).mono (by decide) (by decide)⟩⟩
theorem main_1_1 : Claimed_1_1 := comes_1 fun _ _ _ _ _ _ h hF => ⟨h.1, hF⟩
theorem main_1_2 : Claimed_1_2 := comes_1 fun _ _ _ _ _ _ h hF => ⟨h.2.1, hF⟩
end Jvm.Pilot.@@N@@
namespace Jvm.Pilot.@@N@@
open Jvm Jvm.ClassFile Sem Op Lib Jvm.Free Jvm.Stand Jvm.Pilot.@@N@@.Jvm.D
/-! MADE BY PROGRAM (witnessworld.py) out of the Statement's table words and the real class files: 12 classes; the members and pool entries that the words name. The judged class is class 1, her method 1. -/
namespace start1
open Jvm.ClassFile
def u (s : String) : CpInfo := .utf8 (stringToUtf16 s)
/-- a pool by its gaps: so many unusable entries, then the entry; so many at the end -/
def gap : Nat → List CpInfo → List CpInfo
  | 0, r => r
  | n + 1, r => .unusable :: gap n r
def poolList (es : List (Nat × CpInfo)) (last : Nat) : List CpInfo := es.foldr (fun e r => gap e.1 (e.2 :: r)) (gap last [])
def pool (es : List (Nat × CpInfo)) (last : Nat) : Array CpInfo := ⟨poolList es last⟩
def fileOf (pool : Array CpInfo) (this : Nat) (attrs : Array Attribute := #[]) (ms : Array MethodInfo := #[]) (fl : Nat := 33) (sup : Nat := 0) (ifs : Array Nat := #[]) (fds : Array FieldInfo := #[]) : ClassFile where
  minorVersion := 0
  majorVersion := 65
  constantPool := pool
  accessFlags := fl
  thisClass := this
  superClass := sup
  interfaces := ifs
  fields := fds
  methods := ms
  attributes := attrs
def plain (name : String) (sup : Option ClassId) : Class where
  name := name
  kind := .ordinary
  loader := none
  accessFlags := 33
  super := sup
  interfaces := #[]
  cf := none
  fields := #[]
  methods := #[]
  instanceTypes := #[]
  staticTypes := #[]
  resolved := #[]
  callSites := []
  init := .initialized
  statics := none
  mirror := none

def pool0 : Array CpInfo := pool [(5, u "<init>"), (0, u "()V"), (1, .class_ 10), (1, u "java/lang/Object")] 113

def k0m0 : Method := { name := "<init>", desc := "()V", sig := { parameters := [], returnType := none }, accessFlags := 1, code := none }
/-- java/lang/Object -/
def k0 : Class := { plain "java/lang/Object" none with
  accessFlags := 33
  interfaces := #[]
  cf := some (fileOf pool0 8 #[] #[{ accessFlags := 1, nameIndex := 5, descriptorIndex := 6, attributes := #[] }] 33 0 #[] #[])
  fields := #[]
  methods := #[k0m0]
  instanceTypes := #[]
  staticTypes := #[]
  resolved := Array.replicate 124 none
  statics := none }

def pool1 : Array CpInfo := pool [(2, .class_ 4), (1, u "java/lang/Object"), (0, u "<init>"), (0, u "()V"), (0, .integer 2147483647), (0, .methodref 9 10), (0, .class_ 11), (0, .nameAndType 12 13), (0, u "com/example/polity/polity/model/KindIsGroupPinLaw"), (0, u "pick"), (0, u "(I)Lcom/example/polity/polity/model/Entry$Kind;"), (0, .methodref 15 16), (0, .class_ 17), (0, .nameAndType 18 19), (0, u "com/example/polity/polity/model/Entry$Kind"), (0, u "isGroup"), (0, u "()Z"), (0, .fieldref 15 21), (0, .nameAndType 22 23), (0, u "COMMUNITY"), (0, u "Lcom/example/polity/polity/model/Entry$Kind;"), (0, .fieldref 15 25), (0, .nameAndType 26 23), (0, u "TRUST_ANCHOR"), (0, .fieldref 15 28), (0, .nameAndType 29 23), (0, u "USER"), (0, .fieldref 15 31), (0, .nameAndType 32 23), (0, u "NAMESPACE"), (0, .fieldref 15 34), (0, .nameAndType 35 23), (0, u "SERVICE_TYPE"), (0, .fieldref 15 37), (0, .nameAndType 38 23), (0, u "OBJECT"), (0, .fieldref 15 40), (0, .nameAndType 41 23), (0, u "USER_GROUP"), (0, .fieldref 15 43), (0, .nameAndType 44 23), (0, u "OBJECT_GROUP"), (0, .fieldref 15 46), (0, .nameAndType 47 23), (0, u "ACTION_GROUP"), (2, u "law"), (0, u "(I)Z")] 7

def k1m0 : Method := { name := "<init>", desc := "()V", sig := { parameters := [], returnType := none }, accessFlags := 1, code := none }
def k1c1 : Code := { maxStack := 2, maxLocals := 4, code := code, exceptionTable := #[], attributes := #[] }
def k1m1 : Method := { name := "law", desc := "(I)Z", sig := { parameters := [.int], returnType := some .boolean }, accessFlags := 9, code := some k1c1 }
def k1c2 : Code := { maxStack := 2, maxLocals := 1, code := method_3_code, exceptionTable := #[], attributes := #[] }
def k1m2 : Method := { name := "pick", desc := "(I)Lcom/example/polity/polity/model/Entry$Kind;", sig := { parameters := [.int], returnType := some (.object "com/example/polity/polity/model/Entry$Kind") }, accessFlags := 10, code := some k1c2 }
/-- com/example/polity/polity/model/KindIsGroupPinLaw -/
def k1 : Class := { plain "com/example/polity/polity/model/KindIsGroupPinLaw" (some 0) with
  accessFlags := 49
  interfaces := #[]
  cf := some (fileOf pool1 9 #[] #[{ accessFlags := 1, nameIndex := 5, descriptorIndex := 6, attributes := #[] }, { accessFlags := 9, nameIndex := 50, descriptorIndex := 51, attributes := #[] }, { accessFlags := 10, nameIndex := 12, descriptorIndex := 13, attributes := #[] }] 49 2 #[] #[])
  fields := #[]
  methods := #[k1m0, k1m1, k1m2]
  instanceTypes := #[]
  staticTypes := #[]
  resolved := Array.replicate 59 none
  statics := none }

def pool2 : Array CpInfo := pool [(1, .class_ 2), (0, u "java/lang/constant/Constable"), (0, .class_ 4), (0, u "java/lang/Object")] 6

/-- java/lang/constant/Constable -/
def k2 : Class := { plain "java/lang/constant/Constable" (some 0) with
  accessFlags := 1537
  interfaces := #[]
  cf := some (fileOf pool2 1 #[] #[] 1537 3 #[] #[])
  fields := #[]
  methods := #[]
  instanceTypes := #[]
  staticTypes := #[]
  resolved := Array.replicate 11 none
  statics := none }

def pool3 : Array CpInfo := pool [(1, .class_ 2), (0, u "java/lang/Comparable"), (0, .class_ 4), (0, u "java/lang/Object")] 7

/-- java/lang/Comparable -/
def k3 : Class := { plain "java/lang/Comparable" (some 0) with
  accessFlags := 1537
  interfaces := #[]
  cf := some (fileOf pool3 1 #[] #[] 1537 3 #[] #[])
  fields := #[]
  methods := #[]
  instanceTypes := #[]
  staticTypes := #[]
  resolved := Array.replicate 12 none
  statics := none }

def pool4 : Array CpInfo := pool [(1, .class_ 2), (0, u "java/io/Serializable"), (0, .class_ 4), (0, u "java/lang/Object")] 2

/-- java/io/Serializable -/
def k4 : Class := { plain "java/io/Serializable" (some 0) with
  accessFlags := 1537
  interfaces := #[]
  cf := some (fileOf pool4 1 #[] #[] 1537 3 #[] #[])
  fields := #[]
  methods := #[]
  instanceTypes := #[]
  staticTypes := #[]
  resolved := Array.replicate 7 none
  statics := none }

def pool5 : Array CpInfo := pool [(2, .class_ 4), (1, u "java/lang/Enum"), (0, u "name"), (0, u "Ljava/lang/String;"), (2, u "ordinal"), (0, u "I"), (1, .class_ 14), (1, u "java/lang/Object"), (4, u "hash"), (86, .class_ 108), (1, u "java/lang/Enum$EnumDesc"), (2, .class_ 112), (0, u "java/lang/constant/Constable"), (0, .class_ 114), (0, u "java/lang/Comparable"), (0, .class_ 116), (0, u "java/io/Serializable")] 87

/-- java/lang/Enum -/
def k5 : Class := { plain "java/lang/Enum" (some 0) with
  accessFlags := 1057
  interfaces := #[2, 3, 4]
  cf := some (fileOf pool5 2 #[.nestMembers #[106]] #[] 1057 12 #[111, 113, 115] #[{ accessFlags := 18, nameIndex := 5, descriptorIndex := 6, attributes := #[] }, { accessFlags := 18, nameIndex := 9, descriptorIndex := 10, attributes := #[] }, { accessFlags := 2, nameIndex := 19, descriptorIndex := 10, attributes := #[] }])
  fields := #[{ name := "name", type := (.object "java/lang/String"), accessFlags := 18, slot := 0, constantValue := 0 }, { name := "ordinal", type := .int, accessFlags := 18, slot := 1, constantValue := 0 }, { name := "hash", type := .int, accessFlags := 2, slot := 2, constantValue := 0 }]
  methods := #[]
  instanceTypes := #[(.object "java/lang/String"), .int, .int]
  staticTypes := #[]
  resolved := Array.replicate 204 none
  statics := none }

def pool6 : Array CpInfo := pool [(1, .class_ 2), (0, u "com/example/polity/polity/model/Entry$Kind"), (2, u "COMMUNITY"), (0, u "Lcom/example/polity/polity/model/Entry$Kind;"), (2, u "TRUST_ANCHOR"), (2, u "USER"), (2, u "NAMESPACE"), (2, u "SERVICE_TYPE"), (2, u "OBJECT"), (0, .fieldref 1 23), (0, .nameAndType 24 6), (0, u "USER_GROUP"), (0, .fieldref 1 26), (0, .nameAndType 27 6), (0, u "OBJECT_GROUP"), (0, .fieldref 1 29), (0, .nameAndType 30 6), (0, u "ACTION_GROUP"), (2, u "$VALUES"), (0, u "[Lcom/example/polity/polity/model/Entry$Kind;"), (6, .class_ 43), (1, u "java/lang/Enum"), (8, u "noun"), (0, u "Ljava/lang/String;"), (42, u "isGroup"), (0, u "()Z"), (8, .class_ 107), (0, u "com/example/polity/polity/model/Entry")] 2

def k6c0 : Code := { maxStack := 2, maxLocals := 1, code := prog_30_method_5_code, exceptionTable := #[], attributes := #[] }
def k6m0 : Method := { name := "isGroup", desc := "()Z", sig := { parameters := [], returnType := some .boolean }, accessFlags := 1, code := some k6c0 }
/-- com/example/polity/polity/model/Entry$Kind -/
def k6 : Class := { plain "com/example/polity/polity/model/Entry$Kind" (some 5) with
  accessFlags := 16433
  interfaces := #[]
  cf := some (fileOf pool6 1 #[.nestHost 106] #[{ accessFlags := 1, nameIndex := 96, descriptorIndex := 97, attributes := #[] }] 16433 41 #[] #[{ accessFlags := 16409, nameIndex := 5, descriptorIndex := 6, attributes := #[] }, { accessFlags := 16409, nameIndex := 9, descriptorIndex := 6, attributes := #[] }, { accessFlags := 16409, nameIndex := 12, descriptorIndex := 6, attributes := #[] }, { accessFlags := 16409, nameIndex := 15, descriptorIndex := 6, attributes := #[] }, { accessFlags := 16409, nameIndex := 18, descriptorIndex := 6, attributes := #[] }, { accessFlags := 16409, nameIndex := 21, descriptorIndex := 6, attributes := #[] }, { accessFlags := 16409, nameIndex := 24, descriptorIndex := 6, attributes := #[] }, { accessFlags := 16409, nameIndex := 27, descriptorIndex := 6, attributes := #[] }, { accessFlags := 16409, nameIndex := 30, descriptorIndex := 6, attributes := #[] }, { accessFlags := 18, nameIndex := 52, descriptorIndex := 53, attributes := #[] }, { accessFlags := 4122, nameIndex := 33, descriptorIndex := 34, attributes := #[] }])
  fields := #[{ name := "COMMUNITY", type := (.object "com/example/polity/polity/model/Entry$Kind"), accessFlags := 16409, slot := 0, constantValue := 0 }, { name := "TRUST_ANCHOR", type := (.object "com/example/polity/polity/model/Entry$Kind"), accessFlags := 16409, slot := 1, constantValue := 0 }, { name := "USER", type := (.object "com/example/polity/polity/model/Entry$Kind"), accessFlags := 16409, slot := 2, constantValue := 0 }, { name := "NAMESPACE", type := (.object "com/example/polity/polity/model/Entry$Kind"), accessFlags := 16409, slot := 3, constantValue := 0 }, { name := "SERVICE_TYPE", type := (.object "com/example/polity/polity/model/Entry$Kind"), accessFlags := 16409, slot := 4, constantValue := 0 }, { name := "OBJECT", type := (.object "com/example/polity/polity/model/Entry$Kind"), accessFlags := 16409, slot := 5, constantValue := 0 }, { name := "USER_GROUP", type := (.object "com/example/polity/polity/model/Entry$Kind"), accessFlags := 16409, slot := 6, constantValue := 0 }, { name := "OBJECT_GROUP", type := (.object "com/example/polity/polity/model/Entry$Kind"), accessFlags := 16409, slot := 7, constantValue := 0 }, { name := "ACTION_GROUP", type := (.object "com/example/polity/polity/model/Entry$Kind"), accessFlags := 16409, slot := 8, constantValue := 0 }, { name := "noun", type := (.object "java/lang/String"), accessFlags := 18, slot := 3, constantValue := 0 }, { name := "$VALUES", type := (.array (.object "com/example/polity/polity/model/Entry$Kind")), accessFlags := 4122, slot := 9, constantValue := 0 }]
  methods := #[k6m0]
  instanceTypes := #[(.object "java/lang/String"), .int, .int, (.object "java/lang/String")]
  staticTypes := #[(.object "com/example/polity/polity/model/Entry$Kind"), (.object "com/example/polity/polity/model/Entry$Kind"), (.object "com/example/polity/polity/model/Entry$Kind"), (.object "com/example/polity/polity/model/Entry$Kind"), (.object "com/example/polity/polity/model/Entry$Kind"), (.object "com/example/polity/polity/model/Entry$Kind"), (.object "com/example/polity/polity/model/Entry$Kind"), (.object "com/example/polity/polity/model/Entry$Kind"), (.object "com/example/polity/polity/model/Entry$Kind"), (.array (.object "com/example/polity/polity/model/Entry$Kind"))]
  resolved := Array.replicate 110 none
  statics := some 0 }

def pool7 : Array CpInfo := pool [(1, u "java/lang/Cloneable"), (0, .class_ 1), (0, u "java/lang/Object"), (0, .class_ 3)] 3

/-- java/lang/Cloneable -/
def k7 : Class := { plain "java/lang/Cloneable" (some 0) with
  accessFlags := 1537
  interfaces := #[]
  cf := some (fileOf pool7 2 #[] #[] 1537 4 #[] #[])
  fields := #[]
  methods := #[]
  instanceTypes := #[]
  staticTypes := #[]
  resolved := Array.replicate 8 none
  statics := none }

/-- the primitive byte -/
def k8 : Class := { plain "byte" none with kind := .primitive 'B', accessFlags := 0x411 }
/-- [B -/
def k9 : Class := { plain "[B" (some 0) with kind := .array 8 .byte, interfaces := #[7, 4], accessFlags := 1041 }

/-- the primitive int -/
def k10 : Class := { plain "int" none with kind := .primitive 'I', accessFlags := 0x411 }
/-- [I -/
def k11 : Class := { plain "[I" (some 0) with kind := .array 10 .int, interfaces := #[7, 4], accessFlags := 1041 }

def heap : Heap := #[{ cls := 6, slots := #[.ref 1, .ref 7, .ref 6, .ref 5, .ref 8, .ref 9, .ref 2, .ref 3, .ref 4, .null], vm := .statics 6 },
  { cls := 6, slots := #[.null, .int 0, .int 0, .null], vm := .none },
  { cls := 6, slots := #[.null, .int 6, .int 0, .null], vm := .none },
  { cls := 6, slots := #[.null, .int 7, .int 0, .null], vm := .none },
  { cls := 6, slots := #[.null, .int 8, .int 0, .null], vm := .none },
  { cls := 6, slots := #[.null, .int 3, .int 0, .null], vm := .none },
  { cls := 6, slots := #[.null, .int 2, .int 0, .null], vm := .none },
  { cls := 6, slots := #[.null, .int 1, .int 0, .null], vm := .none },
  { cls := 6, slots := #[.null, .int 4, .int 0, .null], vm := .none },
  { cls := 6, slots := #[.null, .int 5, .int 0, .null], vm := .none }]
def classes : Array Class := #[k0, k1, k2, k3, k4, k5, k6, k7, k8, k9, k10, k11]
def interned : List (Array UInt16 × Addr) := []
def slotsUsed : Nat := 46
def theMethod : MethodId := ⟨1, 1⟩
def args0 : Array Value := #[.int 5]
def aboutOver (below : List Frame) : State where
  vm := { classes := classes, interned := interned.toArray }
  heap := heap
  slotsUsed := slotsUsed
  threads := #[{ frames := .invoking theMethod args0 :: below }]
def below0 : List Frame := [.native { method := ⟨0, 0⟩, args := #[] }]
def about1 : State := aboutOver below0
def p0 : Program := .bare "" "" ""
def e0 : Env := launch0.env 0 0 0
theorem w_frames : about1.frames = Frame.invoking theMethod args0 :: below0 := rfl
set_option maxRecDepth 65536 in
theorem w_args : argsFit about1.vm theMethod args0 = true := by decide +kernel
set_option maxRecDepth 65536 in
theorem w_heap : heapFits about1 = true := by decide +kernel
set_option maxRecDepth 65536 in
theorem w_runnable : about1.curStatus? = some .runnable := by decide +kernel
set_option maxRecDepth 65536 in
theorem w_alone : about1.alone = true := by decide +kernel
set_option maxRecDepth 65536 in
theorem w_named : about1.methodNamed? x = some theMethod := by decide +kernel
set_option maxRecDepth 65536 in
theorem w_hears : about1.hears theMethod below0 = true := by decide +kernel
set_option maxRecDepth 65536 in
theorem w_ripe : about1.ripe theMethod args0 below0 = true := by decide +kernel
theorem w_running : about1.status = .running := rfl
set_option maxRecDepth 65536 in
theorem w_room : about1.hasRoom e0.platform room_1 = true :=
  launch0.hasRoom_least _ room_1 (by decide +kernel) (by decide +kernel) (by decide +kernel) (by decide +kernel) (by decide +kernel) (by decide +kernel)
theorem allAtoms_all (ts : List Jvm.Cond) (a : Array Jvm.Value) (st : Jvm.State) : (allAtoms ts).before a st = ts.all (fun c => c.before a st) := by
  induction ts with
  | nil => rfl
  | cons c t ih =>
    show (Jvm.Cond.and c (allAtoms t)).before a st = _
    rw [Jvm.Cond.before_and, ih, List.all_cons]
def words1 : List Jvm.Cond := Jvm.Cond.code x code maxLocals ret :: tables_1
/-- a 'code' word, met by the world's own term for the bytes: nothing is compared byte by byte -/
theorem code_word {y : MethodName} {bytes : ByteArray} {mx : Nat} {rt : Option FieldType} {a : Array Value} {s : State} {m : MethodId} {meth : Method} {c : Code} (h1 : s.methodNamed? y = some m) (h2 : s.vm.method? m = some meth) (h3 : meth.code = some c) (h4 : c.code = bytes)
    (h5 : (c.maxLocals == mx && c.exceptionTable.isEmpty && decide (c.maxStack ≤ mostOperands) && decide (meth.sig.returnType = rt) && !meth.locks && decide (parseMethodDescriptor y.desc = some meth.sig)) = true) : (Jvm.Cond.code y bytes mx rt).before a s = true := by
  simp only [Bool.and_eq_true, beq_iff_eq, Bool.not_eq_true', decide_eq_true_eq] at h5
  obtain ⟨⟨⟨⟨⟨g1, g2⟩, g3⟩, g4⟩, g5⟩, g6⟩ := h5
  simp [Cond.before, Cond.holds, Cond.value, h1, h2, h3, h4, g1, g2, g3, g4, g5, g6]
def isCode : Jvm.Cond → Bool
  | .code _ _ _ _ => true
  | _ => false
theorem all_split {L : List Jvm.Cond} {P : Jvm.Cond → Bool} (h1 : L.all (fun c => isCode c || P c) = true) (h2 : ∀ c ∈ L.filter isCode, P c = true) : L.all P = true := by
  refine List.all_eq_true.mpr fun c hc => ?_
  have h := List.all_eq_true.mp h1 c hc
  rcases Bool.eq_false_or_eq_true (isCode c) with hi | hi
  · exact h2 c (List.mem_filter.mpr ⟨hc, hi⟩)
  · simpa [hi] using h
set_option maxRecDepth 65536 in
theorem w_c0 : (Jvm.Cond.code x code maxLocals ret).before args0 about1 = true := code_word (m := ⟨1, 1⟩) (meth := k1m1) (c := k1c1) (by decide +kernel) rfl rfl rfl (by decide +kernel)
set_option maxRecDepth 65536 in
theorem w_c1 : (Jvm.Cond.code ({ cls := "com/example/polity/polity/model/KindIsGroupPinLaw", name := "pick", desc := "(I)Lcom/example/polity/polity/model/Entry$Kind;" } : Jvm.MethodName) method_3_code (1 : Nat) (Option.some (Jvm.ClassFile.FieldType.object "com/example/polity/polity/model/Entry$Kind"))).before args0 about1 = true := code_word (m := ⟨1, 2⟩) (meth := k1m2) (c := k1c2) (by decide +kernel) rfl rfl rfl (by decide +kernel)
set_option maxRecDepth 65536 in
theorem w_c2 : (Jvm.Cond.code ({ cls := "com/example/polity/polity/model/Entry$Kind", name := "isGroup", desc := "()Z" } : Jvm.MethodName) prog_30_method_5_code (1 : Nat) (Option.some Jvm.ClassFile.FieldType.boolean)).before args0 about1 = true := code_word (m := ⟨6, 0⟩) (meth := k6m0) (c := k6c0) (by decide +kernel) rfl rfl rfl (by decide +kernel)
def codes1 : List Jvm.Cond := [Jvm.Cond.code x code maxLocals ret, Jvm.Cond.code ({ cls := "com/example/polity/polity/model/KindIsGroupPinLaw", name := "pick", desc := "(I)Lcom/example/polity/polity/model/Entry$Kind;" } : Jvm.MethodName) method_3_code (1 : Nat) (Option.some (Jvm.ClassFile.FieldType.object "com/example/polity/polity/model/Entry$Kind")), Jvm.Cond.code ({ cls := "com/example/polity/polity/model/Entry$Kind", name := "isGroup", desc := "()Z" } : Jvm.MethodName) prog_30_method_5_code (1 : Nat) (Option.some Jvm.ClassFile.FieldType.boolean)]
set_option maxRecDepth 65536 in
theorem codes_eq : words1.filter isCode = codes1 := rfl
theorem w_codes : ∀ c ∈ words1.filter isCode, c.before args0 about1 = true := by
  rw [codes_eq]
  intro c hc
  simp only [codes1, List.mem_cons, List.not_mem_nil, or_false] at hc
  rcases hc with rfl | rfl | rfl
  · exact w_c0
  · exact w_c1
  · exact w_c2
set_option maxRecDepth 65536 in
theorem w_t1 : (words1.take 24).all (fun c => isCode c || c.before args0 about1) = true := by decide +kernel
set_option maxRecDepth 65536 in
theorem w_t2 : (words1.drop 24).all (fun c => isCode c || c.before args0 about1) = true := by decide +kernel
theorem w_tables : (allAtoms (Jvm.Cond.code x code maxLocals ret :: tables_1)).before args0 about1 = true := by
  rw [allAtoms_all]
  show words1.all (fun c => c.before args0 about1) = true
  refine all_split ?_ w_codes
  rw [← List.take_append_drop 24 words1, List.all_append, w_t1, w_t2]
  rfl
set_option maxRecDepth 65536 in
theorem w_case : (Jvm.Cond.and given_1 narrow_1).before args0 about1 = true := by decide +kernel
theorem w_applies : (headSpec (Jvm.Cond.code x code maxLocals ret :: tables_1) room_1).applies x e0.platform about1 = true :=
  (Spec.applies_iff w_frames).mpr ⟨w_running, w_runnable, w_alone, w_named, w_hears, w_ripe, w_room, w_tables⟩
theorem atStart : AtStart classFile x code maxLocals ret World_1 tables_1 room_1 Calls_1 rest_1 Pre_1 launch0 p0 e0 about1 theMethod args0 below0 :=
  ⟨lists_1, trivial, launch0.admits_env _ _ _, launch0.least_env, fairChoices_fair.cas, fairChoices_fair.clock, w_frames, w_args, w_heap, w_applies, trivial, trivial, w_case⟩
end start1
theorem witness_1 : WitnessClaimed_1 := ⟨start1.p0, start1.e0, start1.about1, start1.theMethod, start1.args0, start1.below0, start1.atStart⟩
end Jvm.Pilot.@@N@@
