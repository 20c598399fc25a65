import JvmDerived
import JvmDerived.Pilot.@@N@@Statement
import JvmDerived.Pilot.@@N@@Code
set_option linter.unusedVariables false
set_option linter.unusedSimpArgs false
namespace Jvm.Pilot.@@N@@
open Jvm Jvm.ClassFile Sem Op Lib Jvm.Free Jvm.Stand Jvm.LawKit Jvm.RoadKit Bundle Jvm.Pilot.@@N@@.Jvm.D
abbrev y1 : MethodName := ⟨"com/example/polity/polity/model/Entry$Kind", "standsForObjects", "()Z"⟩

abbrev jv (x : Int64) : Slot := .val (.long x)
abbrev un : Slot := .unset
abbrev se : Slot := .second
abbrev AT (p : Program) (e : Env) (below : List Frame) (T : State) (m : MethodId) (pc : Nat) (ls : Array Slot) (st : List Value) (tg : State) : Prop := Steps p.tables e below (T.setTop (mkF m pc ls st)) tg
theorem ow {Z : State} {a0 : Array Value} (hw : ∀ d ∈ tables_1, d.before a0 Z = true) (i : Nat) {d : Jvm.Cond} (h : tables_1[i]? = some d) : d.before a0 Z = true := hw _ (List.mem_of_getElem? h)
theorem own_lrem {p : Program} {l : Launch} {e : Env} {R : Room} {s : State} {m : MethodId} {args : Array Value} {below : List Frame} {meth : Method} {c : Code} {T : State} {locs : List Loc} {cells slots : Nat} {g : JFrame} {target : State} (X : Stand p l e R s m args below meth c T locs cells slots) (hx : p.tables.exec = Jvm.exec) (hg : g.method = m) {x y : Int64} {rest : List Value} (hd : decode c.code g.pc = .ok (.lrem, 1)) (hs : g.stack = .long y :: .long x :: rest) (hy : y ≠ 0)
    (hr : Steps p.tables e below (T.setTop { g with pc := g.pc + 1, stack := .long (x % y) :: rest }) target) : Steps p.tables e below (T.setTop g) target :=
  XS.lrem X.here hx hg hd hs hy (by rw [lrem_mod]; exact hr)
theorem own_eqInt {args : Array Value} {first s : State} {o : Option Outcome} {idx : List Nat} {t : Term} {n : Int32} (h : (Jvm.Cond.eq t (.int n)).value args first o s idx = some true) : t.eval args first o idx s = some (.int n) := by
  simp only [Cond.value, Term.eval] at h
  cases ht : t.eval args first o idx s with
  | none => simp [ht] at h
  | some v => cases v <;> simp [ht] at h ⊢; exact h
theorem own_eqLong {args : Array Value} {first s : State} {o : Option Outcome} {idx : List Nat} {t : Term} {n : Int64} (h : (Jvm.Cond.eq t (.long n)).value args first o s idx = some true) : t.eval args first o idx s = some (.long n) := by
  simp only [Cond.value, Term.eval] at h
  cases ht : t.eval args first o idx s with
  | none => simp [ht] at h
  | some v => cases v <;> simp [ht] at h ⊢; exact h
theorem own_eqRef {args : Array Value} {first s : State} {o : Option Outcome} {idx : List Nat} {t u : Term} {a : Addr} (hu : u.eval args first o idx s = some (.ref a)) (h : (Jvm.Cond.eq t u).value args first o s idx = some true) : t.eval args first o idx s = some (.ref a) := by
  simp only [Cond.value, hu] at h
  cases ht : t.eval args first o idx s with
  | none => simp [ht] at h
  | some v => cases v <;> simp [ht] at h ⊢; exact h

theorem own_in {c : Cell} {n : Int32} (j : Int32) (S : c.slots.size = n.toNatClampNeg) (q : ¬ j < 0 ∧ j < n) : ¬ (j < 0 ∨ c.slots.size ≤ j.toNatClampNeg) := inb_of S q
theorem own_up {x a b : Int32} (h : x < a) (q : a.toInt ≤ b.toInt) : x < b := Int32.lt_iff_toInt_lt.mpr (Int.lt_of_lt_of_le (Int32.lt_iff_toInt_lt.mp h) q)
theorem own_dn {x a b : Int32} (h : ¬ x < a) (q : b.toInt ≤ a.toInt) : ¬ x < b := fun z => h (own_up z q)
theorem own_neInt {args : Array Value} {first s : State} {o : Option Outcome} {idx : List Nat} {t : Term} {x n : Int32} (ht : t.eval args first o idx s = some (.int x)) (h : (Jvm.Cond.not (Jvm.Cond.eq t (.int n))).value args first o s idx = some true) : ¬ x = n := by
  simpa [Cond.value, Term.eval, ht] using h

theorem own_len {Z : State} {args : Array Value} {t : Term} {a : Addr} {cl : Cell} {ty : FieldType} {n : Int32} (ev : t.eval args Z none [] Z = some (.ref a)) (A : Arr Z Z.heap a cl ty) (h : (Term.length t).eval args Z none [] Z = some (.int n)) : cl.slots.size < 2 ^ 31 ∧ cl.slots.size.toInt32 = n := by
  have q := A.fin (U := Z) (Vm.Alike.refl _)
  simp only [Term.eval, ev, q, Option.bind_eq_bind, Option.bind_some, Option.pure_def] at h
  split at h
  · rename_i hlt; exact ⟨hlt, by simpa using h⟩
  · simp at h

theorem own_nar {v : Value} {c : String} (h : v.isRef = true) : narrow (.object c) v = v := by cases v <;> first | rfl | simp [Value.isRef] at h
theorem own_fits {v : Value} {c : String} (h : v.isRef = true) : fits (.object c) v = true := by cases v <;> first | rfl | simp [Value.isRef] at h
theorem own_cat {v : Value} (h : v.isRef = true) : v.category = 1 := by cases v <;> first | rfl | simp [Value.isRef] at h

theorem own_notOf {Z : State} {a0 : Array Value} {C S K : String} {n : Nat} (w : (Jvm.Cond.superclass C S).before a0 Z = true) (w0 : (Jvm.Cond.noSuperclass S).before a0 Z = true) (wk : (Jvm.Cond.instantiable K n).before a0 Z = true) (h1 : C ≠ K) (h2 : S ≠ K) :
    ∃ c t, Z.vm.findClass C = some c ∧ Z.vm.findClass K = some t ∧ Z.vm.assignable c t = false := by
  obtain ⟨t, k', g0, g2, g5, g7, -⟩ := Cond.instantiable_spec wk
  obtain ⟨c, h0⟩ := found_sup w
  obtain ⟨p, k, kp, q1, q2, q3, q4, q5, q6, q7⟩ := Cond.superclass_spec h0 w
  obtain ⟨c0, k0, r1, r2, r3, -, -⟩ := Cond.noSuperclass_spec w0
  cases q1.symm.trans r1
  have ne1 := ids_ne h0 g0 h1
  have ne2 := ids_ne r1 g0 h2
  have g8 := (Bool.or_eq_false_iff.mp g7).1
  have n3 : ∀ fuel, Z.vm.isSubclassAux fuel c t = false := by
    intro fuel
    cases fuel with
    | zero => rfl
    | succ f =>
      cases f with
      | zero => simp [Vm.isSubclassAux, ne1, q2, q4]
      | succ g => simp [Vm.isSubclassAux, ne1, ne2, q2, q4, r2, r3]
  refine ⟨c, t, h0, g0, ?_⟩
  show Z.vm.assignableAux (255 + 1) c t = false
  simp [Vm.assignableAux, ne1, q2, g2, q5, g5, g8, Vm.isSubclass, n3]

theorem own_selP {Z s : State} {a0 args : Array Value} {y : MethodName} {n : Nat} (hZ : Z.Warmed39 s.vm) (wi : (Jvm.Cond.instantiable y.cls n).before a0 Z = true) (wp : (Jvm.Cond.privateMethod y).before a0 Z = true) (wm : (Jvm.Cond.instanceMethod y).before a0 Z = true) (hy : y.cls ≠ "java/lang/invoke/MethodHandle" ∧ y.cls ≠ "java/lang/invoke/VarHandle") : (Jvm.Cond.selects y.cls y y).before args s = true := by
  obtain ⟨c, k, hc, hk, -, hni, -⟩ := Cond.instantiable_spec (mvT (s := s) (args := args) hZ wi)
  exact selects_self_of_private hc hk (Bool.or_eq_false_iff.mp hni).1 (Cond.privateMethod_at (mvP hZ wp (args := #[]))) (mvT hZ wm) hy

theorem own_neS {Z : State} {h : Heap} {a b u w : Addr} {C f d : String} {k k' : ClassId} {ty : FieldType} {z z' : Int32} {vs vs' : List Value} {dv dv' : Value} (Fa : Fld Z h a C f d (.ref u)) (Va : Arv Z h u k ty z vs dv) (Fb : Fld Z h b C f d (.ref w)) (Vb : Arv Z h w k' ty z' vs' dv') (hn : z ≠ z' ∨ ∃ i : Nat, i < z.toNatClampNeg ∧ vs.getD i dv ≠ vs'.getD i dv') : a ≠ b := fun e => by
  subst e
  have hu : u = w := by
    rcases Decidable.em (u = w) with q | q
    · exact q
    · exact absurd rfl (Fld.ne Fa Fb (fun x => q (Value.ref.inj x)))
  subst hu
  obtain ⟨c1, A1, -, S1, N1, H1, -⟩ := Va
  obtain ⟨c2, A2, -, S2, N2, H2, -⟩ := Vb
  cases A1.1.symm.trans A2.1
  rcases hn with hn | ⟨i, hi, hn⟩
  · exact hn ((len_of S1 N1).symm.trans (len_of S2 N2))
  · have q1 := H1 i (by rw [S1]; exact hi)
    have q2 := H2 i (by rw [S1]; exact hi)
    exact hn (Option.some.inj (q1.symm.trans q2))
def Wd (Z : State) (w_COMMUNITY : Addr) (w_OBJECT : Addr) (w_OBJECT_GROUP : Addr) (w_NAMESPACE : Addr) (w_USER : Addr) (w_TRUST_ANCHOR : Addr) (w_SERVICE_TYPE : Addr) (w_ACTION_GROUP : Addr) (w_USER_GROUP : Addr) : Prop :=
  Sta Z Z.heap "com/example/polity/polity/model/Entry$Kind" "COMMUNITY" "Lcom/example/polity/polity/model/Entry$Kind;" (.ref w_COMMUNITY) ∧
  Exa Z Z.heap w_COMMUNITY "com/example/polity/polity/model/Entry$Kind" ∧
  Sta Z Z.heap "com/example/polity/polity/model/Entry$Kind" "OBJECT" "Lcom/example/polity/polity/model/Entry$Kind;" (.ref w_OBJECT) ∧
  Exa Z Z.heap w_OBJECT "com/example/polity/polity/model/Entry$Kind" ∧
  Fld Z Z.heap w_COMMUNITY "java/lang/Enum" "ordinal" "I" (.int (0 : Int32)) ∧
  Fld Z Z.heap w_OBJECT "java/lang/Enum" "ordinal" "I" (.int (5 : Int32)) ∧
  Sta Z Z.heap "com/example/polity/polity/model/Entry$Kind" "OBJECT_GROUP" "Lcom/example/polity/polity/model/Entry$Kind;" (.ref w_OBJECT_GROUP) ∧
  Exa Z Z.heap w_OBJECT_GROUP "com/example/polity/polity/model/Entry$Kind" ∧
  Fld Z Z.heap w_OBJECT_GROUP "java/lang/Enum" "ordinal" "I" (.int (7 : Int32)) ∧
  Sta Z Z.heap "com/example/polity/polity/model/Entry$Kind" "NAMESPACE" "Lcom/example/polity/polity/model/Entry$Kind;" (.ref w_NAMESPACE) ∧
  Exa Z Z.heap w_NAMESPACE "com/example/polity/polity/model/Entry$Kind" ∧
  Fld Z Z.heap w_NAMESPACE "java/lang/Enum" "ordinal" "I" (.int (3 : Int32)) ∧
  Sta Z Z.heap "com/example/polity/polity/model/Entry$Kind" "USER" "Lcom/example/polity/polity/model/Entry$Kind;" (.ref w_USER) ∧
  Exa Z Z.heap w_USER "com/example/polity/polity/model/Entry$Kind" ∧
  Fld Z Z.heap w_USER "java/lang/Enum" "ordinal" "I" (.int (2 : Int32)) ∧
  Sta Z Z.heap "com/example/polity/polity/model/Entry$Kind" "TRUST_ANCHOR" "Lcom/example/polity/polity/model/Entry$Kind;" (.ref w_TRUST_ANCHOR) ∧
  Exa Z Z.heap w_TRUST_ANCHOR "com/example/polity/polity/model/Entry$Kind" ∧
  Fld Z Z.heap w_TRUST_ANCHOR "java/lang/Enum" "ordinal" "I" (.int (1 : Int32)) ∧
  Sta Z Z.heap "com/example/polity/polity/model/Entry$Kind" "SERVICE_TYPE" "Lcom/example/polity/polity/model/Entry$Kind;" (.ref w_SERVICE_TYPE) ∧
  Exa Z Z.heap w_SERVICE_TYPE "com/example/polity/polity/model/Entry$Kind" ∧
  Fld Z Z.heap w_SERVICE_TYPE "java/lang/Enum" "ordinal" "I" (.int (4 : Int32)) ∧
  Sta Z Z.heap "com/example/polity/polity/model/Entry$Kind" "ACTION_GROUP" "Lcom/example/polity/polity/model/Entry$Kind;" (.ref w_ACTION_GROUP) ∧
  Exa Z Z.heap w_ACTION_GROUP "com/example/polity/polity/model/Entry$Kind" ∧
  Fld Z Z.heap w_ACTION_GROUP "java/lang/Enum" "ordinal" "I" (.int (8 : Int32)) ∧
  Sta Z Z.heap "com/example/polity/polity/model/Entry$Kind" "USER_GROUP" "Lcom/example/polity/polity/model/Entry$Kind;" (.ref w_USER_GROUP) ∧
  Exa Z Z.heap w_USER_GROUP "com/example/polity/polity/model/Entry$Kind" ∧
  Fld Z Z.heap w_USER_GROUP "java/lang/Enum" "ordinal" "I" (.int (6 : Int32))
theorem pn_0 : plainName "com/example/polity/polity/model/Entry$Kind" = true := by first | (simp [plainName, overriddenIn]; done) | decide +kernel
theorem pn_1 : plainName "com/example/polity/polity/model/KindStandsForObjectsPinLaw" = true := by first | (simp [plainName, overriddenIn]; done) | decide +kernel
theorem pd_0 : parseMethodDescriptor "()Z" = some ⟨[], some .boolean⟩ := by decide +kernel
theorem own_k (x : Int32) : (x &&& (2147483647 : Int32)) % (9 : Int32) = (0 : Int32) ∨ (x &&& (2147483647 : Int32)) % (9 : Int32) = (1 : Int32) ∨ (x &&& (2147483647 : Int32)) % (9 : Int32) = (2 : Int32) ∨ (x &&& (2147483647 : Int32)) % (9 : Int32) = (3 : Int32) ∨ (x &&& (2147483647 : Int32)) % (9 : Int32) = (4 : Int32) ∨ (x &&& (2147483647 : Int32)) % (9 : Int32) = (5 : Int32) ∨ (x &&& (2147483647 : Int32)) % (9 : Int32) = (6 : Int32) ∨ (x &&& (2147483647 : Int32)) % (9 : Int32) = (7 : Int32) ∨ (x &&& (2147483647 : Int32)) % (9 : Int32) = (8 : Int32) := by
  have h1 := c_mask x (2147483647 : Int32) 31 (by decide) (by decide)
  have h0 : 0 ≤ x.toInt % (2 ^ 31 : Nat) := Int.emod_nonneg _ (by decide)
  have h2 := (c_irem (x &&& (2147483647 : Int32)) (9 : Int32) 9 rfl).1 (by rw [h1]; exact h0)
  have l0 : ((0 : Int32)).toInt = 0 := rfl
  have l1 : ((1 : Int32)).toInt = 1 := rfl
  have l2 : ((2 : Int32)).toInt = 2 := rfl
  have l3 : ((3 : Int32)).toInt = 3 := rfl
  have l4 : ((4 : Int32)).toInt = 4 := rfl
  have l5 : ((5 : Int32)).toInt = 5 := rfl
  have l6 : ((6 : Int32)).toInt = 6 := rfl
  have l7 : ((7 : Int32)).toInt = 7 := rfl
  have l8 : ((8 : Int32)).toInt = 8 := rfl
  simp only [← Int32.toInt_inj, l0, l1, l2, l3, l4, l5, l6, l7, l8]
  omega

theorem d1_0 : decode prog_30_method_6_code 0 = .ok (.aload_n 0, 1) := by decide +kernel
theorem d1_1 : decode prog_30_method_6_code 1 = .ok (.getstatic 19, 3) := by decide +kernel
theorem d1_4 : decode prog_30_method_6_code 4 = .ok (.if_acmp .eq 10, 3) := by decide +kernel
theorem d1_7 : decode prog_30_method_6_code 7 = .ok (.aload_n 0, 1) := by decide +kernel
theorem d1_8 : decode prog_30_method_6_code 8 = .ok (.getstatic 25, 3) := by decide +kernel
theorem d1_11 : decode prog_30_method_6_code 11 = .ok (.if_acmp .ne 7, 3) := by decide +kernel
theorem d1_14 : decode prog_30_method_6_code 14 = .ok (.iconst 1, 1) := by decide +kernel
theorem d1_15 : decode prog_30_method_6_code 15 = .ok (.goto 4, 3) := by decide +kernel
theorem d1_18 : decode prog_30_method_6_code 18 = .ok (.iconst 0, 1) := by decide +kernel
theorem d1_19 : decode prog_30_method_6_code 19 = .ok (.ireturn, 1) := by decide +kernel
theorem ef_1 (m : MethodId) (a0 : Addr) : entryFrame m #[(.ref a0)] 1 = mkF m 0 #[rv a0] [] := by first | (simp [entryFrame, mkF, argsToLocals, Value.category]; done) | rfl
def f1 (a0 : Addr) (w_OBJECT : Addr) (w_OBJECT_GROUP : Addr) : Int32 := if a0 = w_OBJECT then (1 : Int32) else (if a0 = w_OBJECT_GROUP then (1 : Int32) else (0 : Int32))
def Q1 (Z : State) (a0 : Addr) (w_COMMUNITY : Addr) (w_OBJECT : Addr) (w_OBJECT_GROUP : Addr) (w_NAMESPACE : Addr) (w_USER : Addr) (w_TRUST_ANCHOR : Addr) (w_SERVICE_TYPE : Addr) (w_ACTION_GROUP : Addr) (w_USER_GROUP : Addr) (h0 : Heap) (n0 : Nat) (v : Option Value) (h : Heap) (L : List Loc) : Prop := v = some (.int (f1 a0 w_OBJECT w_OBJECT_GROUP)) ∧ Fr n0 L ∧ h = h0
set_option maxRecDepth 65536 in
set_option maxHeartbeats 40000000 in
theorem rm1 (l : Launch) (Z : State) (ar : Array Value) (hw : ∀ d ∈ tables_1, d.before ar Z = true) (ws : List Jvm.Cond) (a0 : Addr) (w_COMMUNITY : Addr) (w_OBJECT : Addr) (w_OBJECT_GROUP : Addr) (w_NAMESPACE : Addr) (w_USER : Addr) (w_TRUST_ANCHOR : Addr) (w_SERVICE_TYPE : Addr) (w_ACTION_GROUP : Addr) (w_USER_GROUP : Addr) (h0 : Heap) (n0 : Nat) (O0 : Old Z n0 h0) (HW : Wd Z w_COMMUNITY w_OBJECT w_OBJECT_GROUP w_NAMESPACE w_USER w_TRUST_ANCHOR w_SERVICE_TYPE w_ACTION_GROUP w_USER_GROUP) :
    MetFree l y1 (head1 (Jvm.Cond.code y1 prog_30_method_6_code 1 (some .boolean) :: ws) ({ frames := 0, cells := 0, slots := 0, locals := 0 } : Room)) (fun a U => a = #[(.ref a0)] ∧ Z.Warmed39 U.vm ∧ U.heap = h0) (fun _ _ _ _ _ => True) (fun _ U o U' => ∃ v L, o = .returned v ∧ Q1 Z a0 w_COMMUNITY w_OBJECT w_OBJECT_GROUP w_NAMESPACE w_USER w_TRUST_ANCHOR w_SERVICE_TYPE w_ACTION_GROUP w_USER_GROUP h0 n0 v U'.heap L ∧ FrameEnd U o U' L ({ frames := 0, cells := 0, slots := 0, locals := 0 } : Room).cells ({ frames := 0, cells := 0, slots := 0, locals := 0 } : Room).slots) := by
 refine MetFree.of_bodySF (plainFor_of_name pn_0) hisR ?_
 intro p e s m args below meth c s₁ Bd hml0 hP hK
 obtain ⟨rfl, hZ, hh⟩ := hP
 have hx := Bd.exec
 have hby := Bd.bytes
 have hml : c.maxLocals = 1 := hml0
 have hown : s.vm.findClass "com/example/polity/polity/model/Entry$Kind" = some m.cls := findClass_of_methodNamed Bd.named
 have hnm := (name_of_methodNamed Bd.named Bd.method).1
 have X0 : Stand p l e ({ frames := 0, cells := 0, slots := 0, locals := 0 } : Room) s m #[(.ref a0)] below meth c s₁ [] 0 0 := Stand.of_body Bd
 have e0 : s₁.heap = h0 := by rw [← hh, Bd.state]; rfl
 have N0 := Fr.nil n0
 have Z0 : n0 ≤ h0.size := Nat.le_trans (Nat.le_of_eq O0.1.symm) O0.2.1
 obtain ⟨S0, hS0⟩ : ∃ z, z = s₁.setTop (entryFrame m #[(.ref a0)] 1) := ⟨_, rfl⟩
 have pre0 : ∀ tg, AT p e below s₁ m 0 #[rv a0] [] tg → Steps p.tables e below S0 tg := fun tg kg => by rw [hS0]; exact castTop (ef_1 m a0) kg
 obtain ⟨S_COMMUNITY, E_COMMUNITY, S_OBJECT, E_OBJECT, F_ordinal_COMMUNITY, F_ordinal_OBJECT, S_OBJECT_GROUP, E_OBJECT_GROUP, F_ordinal_OBJECT_GROUP, S_NAMESPACE, E_NAMESPACE, F_ordinal_NAMESPACE, S_USER, E_USER, F_ordinal_USER, S_TRUST_ANCHOR, E_TRUST_ANCHOR, F_ordinal_TRUST_ANCHOR, S_SERVICE_TYPE, E_SERVICE_TYPE, F_ordinal_SERVICE_TYPE, S_ACTION_GROUP, E_ACTION_GROUP, F_ordinal_ACTION_GROUP, S_USER_GROUP, E_USER_GROUP, F_ordinal_USER_GROUP⟩ := id HW
 obtain ⟨T1, X1, e1, st1⟩ := getS2 X0 hx hZ hown (host := "") (Or.inl (ow hw 9 rfl)) Via.refl e0 (S_OBJECT.ext O0.2) (g := (mkF m 1 #[rv a0] [(.ref a0)])) rfl (hb hby d1_1)
 have pre2 : ∀ tg, AT p e below T1 m 4 #[rv a0] [(.ref w_OBJECT), (.ref a0)] tg → Steps p.tables e below S0 tg := fun tg kg => pre0 tg (by
  refine XS.aloadN X0.here hx rfl (hb hby d1_0) rfl rfl ?_
  show AT p e below s₁ m 1 #[rv a0] [(.ref a0)] _
  refine st1 _ ?_
  exact kg)
 rcases Decidable.em (a0 = w_OBJECT) with hc3 | hc3
 ·
  obtain ⟨fs, hr, hrun, hended, hW, hsame⟩ := X1.leave (v := some (.int (1 : Int32))) (fun h => by rw [Bd.returns] at h; cases h)
  subst hS0
  refine ⟨_, _, pre2 _ ?_, hrun, hended, _, _, rfl, ?_, ⟨_, rfl⟩, hW, hsame.mono (by decide) (by decide)⟩
  ·
   refine Jvm.RoadKit.acmp (g := (mkF m 4 #[rv a0] [(.ref w_OBJECT), (.ref a0)])) X1 hx rfl rfl rfl (pc0 := 4) (pc' := 14) (same := true) rfl (hb hby d1_4) rfl (decide_eq_true (congrArg Value.ref hc3)) (by decide) (by decide) ?_
   show AT p e below T1 m 14 #[rv a0] [] _
   refine XS.iconst X1.here hx rfl (hb hby d1_14) ?_
   show AT p e below T1 m 15 #[rv a0] [(.int (1 : Int32))] _
   refine XS.goto X1.here hx rfl (pc0 := 15) (pc' := 19) rfl (hb hby d1_15) (by decide) (by decide) ?_
   show AT p e below T1 m 19 #[rv a0] [(.int (1 : Int32))] _
   exact retN X1 hx (t := .boolean) Bd.returns (by simp) (hb hby d1_19) hr
  ·
   show Q1 Z a0 w_COMMUNITY w_OBJECT w_OBJECT_GROUP w_NAMESPACE w_USER w_TRUST_ANCHOR w_SERVICE_TYPE w_ACTION_GROUP w_USER_GROUP h0 n0 _ T1.heap _
   rw [e1]
   exact ⟨(by rw [f1, if_pos hc3]), N0, rfl⟩
 ·
  obtain ⟨T4, X4, e4, st4⟩ := getS2 X1 hx hZ hown (host := "") (Or.inl (ow hw 11 rfl)) Via.refl e1 (S_OBJECT_GROUP.ext O0.2) (g := (mkF m 8 #[rv a0] [(.ref a0)])) rfl (hb hby d1_8)
  have pre5 : ∀ tg, AT p e below T4 m 11 #[rv a0] [(.ref w_OBJECT_GROUP), (.ref a0)] tg → Steps p.tables e below S0 tg := fun tg kg => pre2 tg (by
   refine Jvm.RoadKit.acmp (g := (mkF m 4 #[rv a0] [(.ref w_OBJECT), (.ref a0)])) X1 hx rfl rfl rfl (pc0 := 4) (pc' := 7) (same := false) rfl (hb hby d1_4) rfl (decide_eq_false fun q => hc3 (Value.ref.inj q)) (by decide) (by decide) ?_
   show AT p e below T1 m 7 #[rv a0] [] _
   refine XS.aloadN X1.here hx rfl (hb hby d1_7) rfl rfl ?_
   show AT p e below T1 m 8 #[rv a0] [(.ref a0)] _
   refine st4 _ ?_
   exact kg)
  rcases Decidable.em (a0 = w_OBJECT_GROUP) with hc6 | hc6
  ·
   obtain ⟨fs, hr, hrun, hended, hW, hsame⟩ := X4.leave (v := some (.int (1 : Int32))) (fun h => by rw [Bd.returns] at h; cases h)
   subst hS0
   refine ⟨_, _, pre5 _ ?_, hrun, hended, _, _, rfl, ?_, ⟨_, rfl⟩, hW, hsame.mono (by decide) (by decide)⟩
   ·
    refine Jvm.RoadKit.acmp (g := (mkF m 11 #[rv a0] [(.ref w_OBJECT_GROUP), (.ref a0)])) X4 hx rfl rfl rfl (pc0 := 11) (pc' := 14) (same := true) rfl (hb hby d1_11) rfl (decide_eq_true (congrArg Value.ref hc6)) (by decide) (by decide) ?_
    show AT p e below T4 m 14 #[rv a0] [] _
    refine XS.iconst X4.here hx rfl (hb hby d1_14) ?_
    show AT p e below T4 m 15 #[rv a0] [(.int (1 : Int32))] _
    refine XS.goto X4.here hx rfl (pc0 := 15) (pc' := 19) rfl (hb hby d1_15) (by decide) (by decide) ?_
    show AT p e below T4 m 19 #[rv a0] [(.int (1 : Int32))] _
    exact retN X4 hx (t := .boolean) Bd.returns (by simp) (hb hby d1_19) hr
   ·
    show Q1 Z a0 w_COMMUNITY w_OBJECT w_OBJECT_GROUP w_NAMESPACE w_USER w_TRUST_ANCHOR w_SERVICE_TYPE w_ACTION_GROUP w_USER_GROUP h0 n0 _ T4.heap _
    rw [e4]
    exact ⟨(by rw [f1, if_neg hc3, if_pos hc6]), N0, rfl⟩
  ·
   obtain ⟨fs, hr, hrun, hended, hW, hsame⟩ := X4.leave (v := some (.int (0 : Int32))) (fun h => by rw [Bd.returns] at h; cases h)
   subst hS0
   refine ⟨_, _, pre5 _ ?_, hrun, hended, _, _, rfl, ?_, ⟨_, rfl⟩, hW, hsame.mono (by decide) (by decide)⟩
   ·
    refine Jvm.RoadKit.acmp (g := (mkF m 11 #[rv a0] [(.ref w_OBJECT_GROUP), (.ref a0)])) X4 hx rfl rfl rfl (pc0 := 11) (pc' := 18) (same := false) rfl (hb hby d1_11) rfl (decide_eq_false fun q => hc6 (Value.ref.inj q)) (by decide) (by decide) ?_
    show AT p e below T4 m 18 #[rv a0] [] _
    refine XS.iconst X4.here hx rfl (hb hby d1_18) ?_
    show AT p e below T4 m 19 #[rv a0] [(.int (0 : Int32))] _
    exact retN X4 hx (t := .boolean) Bd.returns (by simp) (hb hby d1_19) hr
   ·
    show Q1 Z a0 w_COMMUNITY w_OBJECT w_OBJECT_GROUP w_NAMESPACE w_USER w_TRUST_ANCHOR w_SERVICE_TYPE w_ACTION_GROUP w_USER_GROUP h0 n0 _ T4.heap _
    rw [e4]
    exact ⟨(by rw [f1, if_neg hc3, if_neg hc6]), N0, rfl⟩

theorem ef_0 (m : MethodId) (p0 : Int32) : entryFrame m #[(.int p0)] maxLocals = mkF m 0 #[iv p0, un, un, un] [] := by first | (simp [entryFrame, mkF, argsToLocals, Value.category, maxLocals]; done) | rfl
def Q0 (Z : State) (p0 : Int32) (w_COMMUNITY : Addr) (w_OBJECT : Addr) (w_OBJECT_GROUP : Addr) (w_NAMESPACE : Addr) (w_USER : Addr) (w_TRUST_ANCHOR : Addr) (w_SERVICE_TYPE : Addr) (w_ACTION_GROUP : Addr) (w_USER_GROUP : Addr) (h0 : Heap) (n0 : Nat) (v : Option Value) (h : Heap) (L : List Loc) : Prop := v = some (.int 1) ∧ Fr n0 L
set_option maxRecDepth 65536 in
set_option maxHeartbeats 40000000 in
theorem rm0 (l : Launch) (Z : State) (ar : Array Value) (hw : ∀ d ∈ tables_1, d.before ar Z = true) (ws : List Jvm.Cond) (p0 : Int32) (w_COMMUNITY : Addr) (w_OBJECT : Addr) (w_OBJECT_GROUP : Addr) (w_NAMESPACE : Addr) (w_USER : Addr) (w_TRUST_ANCHOR : Addr) (w_SERVICE_TYPE : Addr) (w_ACTION_GROUP : Addr) (w_USER_GROUP : Addr) (h0 : Heap) (n0 : Nat) (O0 : Old Z n0 h0) (HW : Wd Z w_COMMUNITY w_OBJECT w_OBJECT_GROUP w_NAMESPACE w_USER w_TRUST_ANCHOR w_SERVICE_TYPE w_ACTION_GROUP w_USER_GROUP) :
    MetFree l x (head1 (Jvm.Cond.code x code maxLocals ret :: ws) room_1) (fun a U => a = #[(.int p0)] ∧ Z.Warmed39 U.vm ∧ U.heap = h0) (fun _ _ _ _ _ => True) (fun _ U o U' => ∃ v L, o = .returned v ∧ Q0 Z p0 w_COMMUNITY w_OBJECT w_OBJECT_GROUP w_NAMESPACE w_USER w_TRUST_ANCHOR w_SERVICE_TYPE w_ACTION_GROUP w_USER_GROUP h0 n0 v U'.heap L ∧ FrameEnd U o U' L 0 0) := by
 refine MetFree.of_bodySF (plainFor_of_name pn_1) hisR ?_
 intro p e s m args below meth c s₁ Bd hml0 hP hK
 obtain ⟨rfl, hZ, hh⟩ := hP
 have hx := Bd.exec
 have hby := Bd.bytes
 have hml : c.maxLocals = 4 := hml0
 have hown : s.vm.findClass "com/example/polity/polity/model/KindStandsForObjectsPinLaw" = some m.cls := findClass_of_methodNamed Bd.named
 have hnm := (name_of_methodNamed Bd.named Bd.method).1
 have X0 : Stand p l e room_1 s m #[(.int p0)] below meth c s₁ [] 0 0 := Stand.of_body Bd
 have e0 : s₁.heap = h0 := by rw [← hh, Bd.state]; rfl
 have N0 := Fr.nil n0
 have Z0 : n0 ≤ h0.size := Nat.le_trans (Nat.le_of_eq O0.1.symm) O0.2.1
 obtain ⟨S0, hS0⟩ : ∃ z, z = s₁.setTop (entryFrame m #[(.int p0)] maxLocals) := ⟨_, rfl⟩
 have pre0 : ∀ tg, AT p e below s₁ m 0 #[iv p0, un, un, un] [] tg → Steps p.tables e below S0 tg := fun tg kg => by rw [hS0]; exact castTop (ef_0 m p0) kg
 obtain ⟨S_COMMUNITY, E_COMMUNITY, S_OBJECT, E_OBJECT, F_ordinal_COMMUNITY, F_ordinal_OBJECT, S_OBJECT_GROUP, E_OBJECT_GROUP, F_ordinal_OBJECT_GROUP, S_NAMESPACE, E_NAMESPACE, F_ordinal_NAMESPACE, S_USER, E_USER, F_ordinal_USER, S_TRUST_ANCHOR, E_TRUST_ANCHOR, F_ordinal_TRUST_ANCHOR, S_SERVICE_TYPE, E_SERVICE_TYPE, F_ordinal_SERVICE_TYPE, S_ACTION_GROUP, E_ACTION_GROUP, F_ordinal_ACTION_GROUP, S_USER_GROUP, E_USER_GROUP, F_ordinal_USER_GROUP⟩ := id HW
 have pre1 : ∀ tg, AT p e below s₁ m 8 #[iv p0, iv ((p0 &&& (2147483647 : Int32)) % (9 : Int32)), un, un] [] tg → Steps p.tables e below S0 tg := fun tg kg => pre0 tg (by
  refine XS.iloadN X0.here hx rfl (hb hby at_0) rfl ?_
  show AT p e below s₁ m 1 #[iv p0, un, un, un] [(.int p0)] _
  refine X0.ldcInt hx hown (mvT hZ (ow hw 0 rfl)) (g := (mkF m 1 #[iv p0, un, un, un] [(.int p0)])) rfl (hb hby at_1) _ ?_
  show AT p e below s₁ m 3 #[iv p0, un, un, un] [(.int (2147483647 : Int32)), (.int p0)] _
  refine XS.iand X0.here hx rfl (hb hby at_3) rfl ?_
  show AT p e below s₁ m 4 #[iv p0, un, un, un] [(.int (p0 &&& (2147483647 : Int32)))] _
  refine XS.bipush X0.here hx rfl (hb hby at_4) ?_
  show AT p e below s₁ m 6 #[iv p0, un, un, un] [(.int (9 : Int32)), (.int (p0 &&& (2147483647 : Int32)))] _
  refine iremM X0 hx rfl (hb hby at_6) rfl (by decide) ?_
  show AT p e below s₁ m 7 #[iv p0, un, un, un] [(.int ((p0 &&& (2147483647 : Int32)) % (9 : Int32)))] _
  refine XS.istoreN X0.here hx rfl (hb hby at_7) rfl (l' := #[iv p0, iv ((p0 &&& (2147483647 : Int32)) % (9 : Int32)), un, un]) rfl ?_
  exact kg)
 obtain ⟨k, hk⟩ : ∃ z, z = ((p0 &&& (2147483647 : Int32)) % (9 : Int32)) := ⟨_, rfl⟩
 have pre2 : ∀ tg, AT p e below s₁ m 8 #[iv p0, iv k, un, un] [] tg → Steps p.tables e below S0 tg := by rw [hk]; exact pre1
 have hsk : k = (0 : Int32) ∨ k = (1 : Int32) ∨ k = (2 : Int32) ∨ k = (3 : Int32) ∨ k = (4 : Int32) ∨ k = (5 : Int32) ∨ k = (6 : Int32) ∨ k = (7 : Int32) ∨ k = (8 : Int32) := by rw [hk]; exact own_k p0
 rcases hsk with rfl | rfl | rfl | rfl | rfl | rfl | rfl | rfl | rfl
 ·
  obtain ⟨T3, X3, e3, st3⟩ := getS2 X0 hx hZ hown (host := "") (Or.inl (ow hw 1 rfl)) Via.refl e0 (S_COMMUNITY.ext O0.2) (g := (mkF m 12 #[iv p0, iv (0 : Int32), un, un] [])) rfl (hb hby at_12)
  obtain ⟨cq4, kq4, q4a, q4b, q4c⟩ := isOf hZ e3 (E_COMMUNITY.ext O0.2)
  obtain ⟨_, _, ⟨T4, L4, k4, n4⟩, -, X4, ⟨Lc4, hQ4, l4, y4, z4⟩, st4⟩ := X3.virtualBack hx (y := y1) (z := y1) hown (mvT hZ (ow hw 4 rfl)) (mvT hZ (ow hw 5 rfl)) (notFace_of_selects (args := #[]) (mvT hZ (ow hw 7 rfl))) (mvT hZ (ow hw 7 rfl)) (mvT hZ (ow hw 6 rfl)) (by decide) (backOf (W := 0) (rm1 l Z ar hw [] w_COMMUNITY w_COMMUNITY w_OBJECT w_OBJECT_GROUP w_NAMESPACE w_USER w_TRUST_ANCHOR w_SERVICE_TYPE w_ACTION_GROUP w_USER_GROUP h0 n0 O0 HW) hZ (ow hw 8 rfl) (ow hw 2 rfl) (by decide) (by decide)) q4a q4c (g := (mkF m 128 #[iv p0, iv (0 : Int32), rv w_COMMUNITY, iv (0 : Int32)] [(.ref w_COMMUNITY)])) rfl (by rw [hml]; rfl) (Steps.refl _) (argsL := []) (rest := []) (lenOf pd_0 rfl) rfl (by show 2 * 0 + _ ≤ _; exact Nat.le_of_eq rfl) (hb hby at_128) (fun _ _ => ⟨rfl, e3, (by decide : 0 + 0 ≤ _), (by decide : 0 + 0 ≤ _)⟩)
  dsimp only [Pt.U, Pt.locs, Pt.cells, Pt.slots] at X4 l4 y4 z4 st4 hQ4
  subst l4 y4 z4
  obtain ⟨rfl, N4q, e4⟩ := hQ4
  have N4 := Fr.app N0 N4q
  have r4 : (f1 w_COMMUNITY w_OBJECT w_OBJECT_GROUP) = (0 : Int32) := by rw [f1, if_neg ((Fld.ne F_ordinal_COMMUNITY F_ordinal_OBJECT (by decide)) : ¬ (w_COMMUNITY = w_OBJECT)), if_neg ((Fld.ne F_ordinal_COMMUNITY F_ordinal_OBJECT_GROUP (by decide)) : ¬ (w_COMMUNITY = w_OBJECT_GROUP))] <;> decide
  rw [r4] at st4
  obtain ⟨fs, hr, hrun, hended, hW, hsame⟩ := X4.leave (v := some (.int (1 : Int32))) (fun h => by rw [Bd.returns] at h; cases h)
  subst hS0
  refine ⟨_, _, pre2 _ ?_, hrun, hended, _, _, rfl, ?_, ⟨_, rfl⟩, hW, hsame.mono (by decide) (by decide)⟩
  ·
   refine XS.iloadN X0.here hx rfl (hb hby at_8) rfl ?_
   show AT p e below s₁ m 9 #[iv p0, iv (0 : Int32), un, un] [(.int (0 : Int32))] _
   refine XS.ifNo X0.here hx rfl (hb hby at_9) rfl (XT.i0_ne_f ((by decide) : (0 : Int32) = (0 : Int32))) ?_
   show AT p e below s₁ m 12 #[iv p0, iv (0 : Int32), un, un] [] _
   refine st3 _ ?_
   show AT p e below T3 m 15 #[iv p0, iv (0 : Int32), un, un] [(.ref w_COMMUNITY)] _
   refine XS.astoreN X3.here hx rfl (hb hby at_15) rfl rfl (l' := #[iv p0, iv (0 : Int32), rv w_COMMUNITY, un]) rfl ?_
   show AT p e below T3 m 16 #[iv p0, iv (0 : Int32), rv w_COMMUNITY, un] [] _
   refine XS.iconst X3.here hx rfl (hb hby at_16) ?_
   show AT p e below T3 m 17 #[iv p0, iv (0 : Int32), rv w_COMMUNITY, un] [(.int (0 : Int32))] _
   refine XS.istoreN X3.here hx rfl (hb hby at_17) rfl (l' := #[iv p0, iv (0 : Int32), rv w_COMMUNITY, iv (0 : Int32)]) rfl ?_
   show AT p e below T3 m 18 #[iv p0, iv (0 : Int32), rv w_COMMUNITY, iv (0 : Int32)] [] _
   refine XS.goto X3.here hx rfl (pc0 := 18) (pc' := 127) rfl (hb hby at_18) (by decide) (by decide) ?_
   show AT p e below T3 m 127 #[iv p0, iv (0 : Int32), rv w_COMMUNITY, iv (0 : Int32)] [] _
   refine XS.aloadN X3.here hx rfl (hb hby at_127) rfl rfl ?_
   show AT p e below T3 m 128 #[iv p0, iv (0 : Int32), rv w_COMMUNITY, iv (0 : Int32)] [(.ref w_COMMUNITY)] _
   refine st4.trans ?_
   show AT p e below T4 m 131 #[iv p0, iv (0 : Int32), rv w_COMMUNITY, iv (0 : Int32)] [(.int (0 : Int32))] _
   refine XS.iloadN X4.here hx rfl (hb hby at_131) rfl ?_
   show AT p e below T4 m 132 #[iv p0, iv (0 : Int32), rv w_COMMUNITY, iv (0 : Int32)] [(.int (0 : Int32)), (.int (0 : Int32))] _
   refine XS.icmpNo X4.here hx rfl (hb hby at_132) rfl (XT.ii_ne_f ((by decide) : (0 : Int32) = (0 : Int32))) ?_
   show AT p e below T4 m 135 #[iv p0, iv (0 : Int32), rv w_COMMUNITY, iv (0 : Int32)] [] _
   refine XS.iconst X4.here hx rfl (hb hby at_135) ?_
   show AT p e below T4 m 136 #[iv p0, iv (0 : Int32), rv w_COMMUNITY, iv (0 : Int32)] [(.int (1 : Int32))] _
   refine XS.goto X4.here hx rfl (pc0 := 136) (pc' := 140) rfl (hb hby at_136) (by decide) (by decide) ?_
   show AT p e below T4 m 140 #[iv p0, iv (0 : Int32), rv w_COMMUNITY, iv (0 : Int32)] [(.int (1 : Int32))] _
   exact retN X4 hx (t := .boolean) Bd.returns (by simp) (hb hby at_140) hr
  ·
   show Q0 Z p0 w_COMMUNITY w_OBJECT w_OBJECT_GROUP w_NAMESPACE w_USER w_TRUST_ANCHOR w_SERVICE_TYPE w_ACTION_GROUP w_USER_GROUP h0 n0 _ T4.heap _
   rw [e4]
   exact ⟨rfl, N4⟩
 ·
  obtain ⟨T5, X5, e5, st5⟩ := getS2 X0 hx hZ hown (host := "") (Or.inl (ow hw 17 rfl)) Via.refl e0 (S_TRUST_ANCHOR.ext O0.2) (g := (mkF m 26 #[iv p0, iv (1 : Int32), un, un] [])) rfl (hb hby at_26)
  obtain ⟨cq6, kq6, q6a, q6b, q6c⟩ := isOf hZ e5 (E_TRUST_ANCHOR.ext O0.2)
  obtain ⟨_, _, ⟨T6, L6, k6, n6⟩, -, X6, ⟨Lc6, hQ6, l6, y6, z6⟩, st6⟩ := X5.virtualBack hx (y := y1) (z := y1) hown (mvT hZ (ow hw 4 rfl)) (mvT hZ (ow hw 5 rfl)) (notFace_of_selects (args := #[]) (mvT hZ (ow hw 7 rfl))) (mvT hZ (ow hw 7 rfl)) (mvT hZ (ow hw 6 rfl)) (by decide) (backOf (W := 0) (rm1 l Z ar hw [] w_TRUST_ANCHOR w_COMMUNITY w_OBJECT w_OBJECT_GROUP w_NAMESPACE w_USER w_TRUST_ANCHOR w_SERVICE_TYPE w_ACTION_GROUP w_USER_GROUP h0 n0 O0 HW) hZ (ow hw 8 rfl) (ow hw 2 rfl) (by decide) (by decide)) q6a q6c (g := (mkF m 128 #[iv p0, iv (1 : Int32), rv w_TRUST_ANCHOR, iv (0 : Int32)] [(.ref w_TRUST_ANCHOR)])) rfl (by rw [hml]; rfl) (Steps.refl _) (argsL := []) (rest := []) (lenOf pd_0 rfl) rfl (by show 2 * 0 + _ ≤ _; exact Nat.le_of_eq rfl) (hb hby at_128) (fun _ _ => ⟨rfl, e5, (by decide : 0 + 0 ≤ _), (by decide : 0 + 0 ≤ _)⟩)
  dsimp only [Pt.U, Pt.locs, Pt.cells, Pt.slots] at X6 l6 y6 z6 st6 hQ6
  subst l6 y6 z6
  obtain ⟨rfl, N6q, e6⟩ := hQ6
  have N6 := Fr.app N0 N6q
  have r6 : (f1 w_TRUST_ANCHOR w_OBJECT w_OBJECT_GROUP) = (0 : Int32) := by rw [f1, if_neg ((Fld.ne F_ordinal_TRUST_ANCHOR F_ordinal_OBJECT (by decide)) : ¬ (w_TRUST_ANCHOR = w_OBJECT)), if_neg ((Fld.ne F_ordinal_TRUST_ANCHOR F_ordinal_OBJECT_GROUP (by decide)) : ¬ (w_TRUST_ANCHOR = w_OBJECT_GROUP))] <;> decide
  rw [r6] at st6
  obtain ⟨fs, hr, hrun, hended, hW, hsame⟩ := X6.leave (v := some (.int (1 : Int32))) (fun h => by rw [Bd.returns] at h; cases h)
  subst hS0
  refine ⟨_, _, pre2 _ ?_, hrun, hended, _, _, rfl, ?_, ⟨_, rfl⟩, hW, hsame.mono (by decide) (by decide)⟩
  ·
   refine XS.iloadN X0.here hx rfl (hb hby at_8) rfl ?_
   show AT p e below s₁ m 9 #[iv p0, iv (1 : Int32), un, un] [(.int (1 : Int32))] _
   refine XS.ifYes X0.here hx rfl (pc0 := 9) (pc' := 21) rfl (hb hby at_9) rfl (XT.i0_ne_t ((by decide) : ¬ ((1 : Int32) = (0 : Int32)))) (by decide) (by decide) ?_
   show AT p e below s₁ m 21 #[iv p0, iv (1 : Int32), un, un] [] _
   refine XS.iloadN X0.here hx rfl (hb hby at_21) rfl ?_
   show AT p e below s₁ m 22 #[iv p0, iv (1 : Int32), un, un] [(.int (1 : Int32))] _
   refine XS.iconst X0.here hx rfl (hb hby at_22) ?_
   show AT p e below s₁ m 23 #[iv p0, iv (1 : Int32), un, un] [(.int (1 : Int32)), (.int (1 : Int32))] _
   refine XS.icmpNo X0.here hx rfl (hb hby at_23) rfl (XT.ii_ne_f ((by decide) : (1 : Int32) = (1 : Int32))) ?_
   show AT p e below s₁ m 26 #[iv p0, iv (1 : Int32), un, un] [] _
   refine st5 _ ?_
   show AT p e below T5 m 29 #[iv p0, iv (1 : Int32), un, un] [(.ref w_TRUST_ANCHOR)] _
   refine XS.astoreN X5.here hx rfl (hb hby at_29) rfl rfl (l' := #[iv p0, iv (1 : Int32), rv w_TRUST_ANCHOR, un]) rfl ?_
   show AT p e below T5 m 30 #[iv p0, iv (1 : Int32), rv w_TRUST_ANCHOR, un] [] _
   refine XS.iconst X5.here hx rfl (hb hby at_30) ?_
   show AT p e below T5 m 31 #[iv p0, iv (1 : Int32), rv w_TRUST_ANCHOR, un] [(.int (0 : Int32))] _
   refine XS.istoreN X5.here hx rfl (hb hby at_31) rfl (l' := #[iv p0, iv (1 : Int32), rv w_TRUST_ANCHOR, iv (0 : Int32)]) rfl ?_
   show AT p e below T5 m 32 #[iv p0, iv (1 : Int32), rv w_TRUST_ANCHOR, iv (0 : Int32)] [] _
   refine XS.goto X5.here hx rfl (pc0 := 32) (pc' := 127) rfl (hb hby at_32) (by decide) (by decide) ?_
   show AT p e below T5 m 127 #[iv p0, iv (1 : Int32), rv w_TRUST_ANCHOR, iv (0 : Int32)] [] _
   refine XS.aloadN X5.here hx rfl (hb hby at_127) rfl rfl ?_
   show AT p e below T5 m 128 #[iv p0, iv (1 : Int32), rv w_TRUST_ANCHOR, iv (0 : Int32)] [(.ref w_TRUST_ANCHOR)] _
   refine st6.trans ?_
   show AT p e below T6 m 131 #[iv p0, iv (1 : Int32), rv w_TRUST_ANCHOR, iv (0 : Int32)] [(.int (0 : Int32))] _
   refine XS.iloadN X6.here hx rfl (hb hby at_131) rfl ?_
   show AT p e below T6 m 132 #[iv p0, iv (1 : Int32), rv w_TRUST_ANCHOR, iv (0 : Int32)] [(.int (0 : Int32)), (.int (0 : Int32))] _
   refine XS.icmpNo X6.here hx rfl (hb hby at_132) rfl (XT.ii_ne_f ((by decide) : (0 : Int32) = (0 : Int32))) ?_
   show AT p e below T6 m 135 #[iv p0, iv (1 : Int32), rv w_TRUST_ANCHOR, iv (0 : Int32)] [] _
   refine XS.iconst X6.here hx rfl (hb hby at_135) ?_
   show AT p e below T6 m 136 #[iv p0, iv (1 : Int32), rv w_TRUST_ANCHOR, iv (0 : Int32)] [(.int (1 : Int32))] _
   refine XS.goto X6.here hx rfl (pc0 := 136) (pc' := 140) rfl (hb hby at_136) (by decide) (by decide) ?_
   show AT p e below T6 m 140 #[iv p0, iv (1 : Int32), rv w_TRUST_ANCHOR, iv (0 : Int32)] [(.int (1 : Int32))] _
   exact retN X6 hx (t := .boolean) Bd.returns (by simp) (hb hby at_140) hr
  ·
   show Q0 Z p0 w_COMMUNITY w_OBJECT w_OBJECT_GROUP w_NAMESPACE w_USER w_TRUST_ANCHOR w_SERVICE_TYPE w_ACTION_GROUP w_USER_GROUP h0 n0 _ T6.heap _
   rw [e6]
   exact ⟨rfl, N6⟩
 ·
  obtain ⟨T7, X7, e7, st7⟩ := getS2 X0 hx hZ hown (host := "") (Or.inl (ow hw 15 rfl)) Via.refl e0 (S_USER.ext O0.2) (g := (mkF m 40 #[iv p0, iv (2 : Int32), un, un] [])) rfl (hb hby at_40)
  obtain ⟨cq8, kq8, q8a, q8b, q8c⟩ := isOf hZ e7 (E_USER.ext O0.2)
  obtain ⟨_, _, ⟨T8, L8, k8, n8⟩, -, X8, ⟨Lc8, hQ8, l8, y8, z8⟩, st8⟩ := X7.virtualBack hx (y := y1) (z := y1) hown (mvT hZ (ow hw 4 rfl)) (mvT hZ (ow hw 5 rfl)) (notFace_of_selects (args := #[]) (mvT hZ (ow hw 7 rfl))) (mvT hZ (ow hw 7 rfl)) (mvT hZ (ow hw 6 rfl)) (by decide) (backOf (W := 0) (rm1 l Z ar hw [] w_USER w_COMMUNITY w_OBJECT w_OBJECT_GROUP w_NAMESPACE w_USER w_TRUST_ANCHOR w_SERVICE_TYPE w_ACTION_GROUP w_USER_GROUP h0 n0 O0 HW) hZ (ow hw 8 rfl) (ow hw 2 rfl) (by decide) (by decide)) q8a q8c (g := (mkF m 128 #[iv p0, iv (2 : Int32), rv w_USER, iv (0 : Int32)] [(.ref w_USER)])) rfl (by rw [hml]; rfl) (Steps.refl _) (argsL := []) (rest := []) (lenOf pd_0 rfl) rfl (by show 2 * 0 + _ ≤ _; exact Nat.le_of_eq rfl) (hb hby at_128) (fun _ _ => ⟨rfl, e7, (by decide : 0 + 0 ≤ _), (by decide : 0 + 0 ≤ _)⟩)
  dsimp only [Pt.U, Pt.locs, Pt.cells, Pt.slots] at X8 l8 y8 z8 st8 hQ8
  subst l8 y8 z8
  obtain ⟨rfl, N8q, e8⟩ := hQ8
  have N8 := Fr.app N0 N8q
  have r8 : (f1 w_USER w_OBJECT w_OBJECT_GROUP) = (0 : Int32) := by rw [f1, if_neg ((Fld.ne F_ordinal_USER F_ordinal_OBJECT (by decide)) : ¬ (w_USER = w_OBJECT)), if_neg ((Fld.ne F_ordinal_USER F_ordinal_OBJECT_GROUP (by decide)) : ¬ (w_USER = w_OBJECT_GROUP))] <;> decide
  rw [r8] at st8
  obtain ⟨fs, hr, hrun, hended, hW, hsame⟩ := X8.leave (v := some (.int (1 : Int32))) (fun h => by rw [Bd.returns] at h; cases h)
  subst hS0
  refine ⟨_, _, pre2 _ ?_, hrun, hended, _, _, rfl, ?_, ⟨_, rfl⟩, hW, hsame.mono (by decide) (by decide)⟩
  ·
   refine XS.iloadN X0.here hx rfl (hb hby at_8) rfl ?_
   show AT p e below s₁ m 9 #[iv p0, iv (2 : Int32), un, un] [(.int (2 : Int32))] _
   refine XS.ifYes X0.here hx rfl (pc0 := 9) (pc' := 21) rfl (hb hby at_9) rfl (XT.i0_ne_t ((by decide) : ¬ ((2 : Int32) = (0 : Int32)))) (by decide) (by decide) ?_
   show AT p e below s₁ m 21 #[iv p0, iv (2 : Int32), un, un] [] _
   refine XS.iloadN X0.here hx rfl (hb hby at_21) rfl ?_
   show AT p e below s₁ m 22 #[iv p0, iv (2 : Int32), un, un] [(.int (2 : Int32))] _
   refine XS.iconst X0.here hx rfl (hb hby at_22) ?_
   show AT p e below s₁ m 23 #[iv p0, iv (2 : Int32), un, un] [(.int (1 : Int32)), (.int (2 : Int32))] _
   refine XS.icmpYes X0.here hx rfl (pc0 := 23) (pc' := 35) rfl (hb hby at_23) rfl (XT.ii_ne_t ((by decide) : ¬ ((2 : Int32) = (1 : Int32)))) (by decide) (by decide) ?_
   show AT p e below s₁ m 35 #[iv p0, iv (2 : Int32), un, un] [] _
   refine XS.iloadN X0.here hx rfl (hb hby at_35) rfl ?_
   show AT p e below s₁ m 36 #[iv p0, iv (2 : Int32), un, un] [(.int (2 : Int32))] _
   refine XS.iconst X0.here hx rfl (hb hby at_36) ?_
   show AT p e below s₁ m 37 #[iv p0, iv (2 : Int32), un, un] [(.int (2 : Int32)), (.int (2 : Int32))] _
   refine XS.icmpNo X0.here hx rfl (hb hby at_37) rfl (XT.ii_ne_f ((by decide) : (2 : Int32) = (2 : Int32))) ?_
   show AT p e below s₁ m 40 #[iv p0, iv (2 : Int32), un, un] [] _
   refine st7 _ ?_
   show AT p e below T7 m 43 #[iv p0, iv (2 : Int32), un, un] [(.ref w_USER)] _
   refine XS.astoreN X7.here hx rfl (hb hby at_43) rfl rfl (l' := #[iv p0, iv (2 : Int32), rv w_USER, un]) rfl ?_
   show AT p e below T7 m 44 #[iv p0, iv (2 : Int32), rv w_USER, un] [] _
   refine XS.iconst X7.here hx rfl (hb hby at_44) ?_
   show AT p e below T7 m 45 #[iv p0, iv (2 : Int32), rv w_USER, un] [(.int (0 : Int32))] _
   refine XS.istoreN X7.here hx rfl (hb hby at_45) rfl (l' := #[iv p0, iv (2 : Int32), rv w_USER, iv (0 : Int32)]) rfl ?_
   show AT p e below T7 m 46 #[iv p0, iv (2 : Int32), rv w_USER, iv (0 : Int32)] [] _
   refine XS.goto X7.here hx rfl (pc0 := 46) (pc' := 127) rfl (hb hby at_46) (by decide) (by decide) ?_
   show AT p e below T7 m 127 #[iv p0, iv (2 : Int32), rv w_USER, iv (0 : Int32)] [] _
   refine XS.aloadN X7.here hx rfl (hb hby at_127) rfl rfl ?_
   show AT p e below T7 m 128 #[iv p0, iv (2 : Int32), rv w_USER, iv (0 : Int32)] [(.ref w_USER)] _
   refine st8.trans ?_
   show AT p e below T8 m 131 #[iv p0, iv (2 : Int32), rv w_USER, iv (0 : Int32)] [(.int (0 : Int32))] _
   refine XS.iloadN X8.here hx rfl (hb hby at_131) rfl ?_
   show AT p e below T8 m 132 #[iv p0, iv (2 : Int32), rv w_USER, iv (0 : Int32)] [(.int (0 : Int32)), (.int (0 : Int32))] _
   refine XS.icmpNo X8.here hx rfl (hb hby at_132) rfl (XT.ii_ne_f ((by decide) : (0 : Int32) = (0 : Int32))) ?_
   show AT p e below T8 m 135 #[iv p0, iv (2 : Int32), rv w_USER, iv (0 : Int32)] [] _
   refine XS.iconst X8.here hx rfl (hb hby at_135) ?_
   show AT p e below T8 m 136 #[iv p0, iv (2 : Int32), rv w_USER, iv (0 : Int32)] [(.int (1 : Int32))] _
   refine XS.goto X8.here hx rfl (pc0 := 136) (pc' := 140) rfl (hb hby at_136) (by decide) (by decide) ?_
   show AT p e below T8 m 140 #[iv p0, iv (2 : Int32), rv w_USER, iv (0 : Int32)] [(.int (1 : Int32))] _
   exact retN X8 hx (t := .boolean) Bd.returns (by simp) (hb hby at_140) hr
  ·
   show Q0 Z p0 w_COMMUNITY w_OBJECT w_OBJECT_GROUP w_NAMESPACE w_USER w_TRUST_ANCHOR w_SERVICE_TYPE w_ACTION_GROUP w_USER_GROUP h0 n0 _ T8.heap _
   rw [e8]
   exact ⟨rfl, N8⟩
 ·
  obtain ⟨T9, X9, e9, st9⟩ := getS2 X0 hx hZ hown (host := "") (Or.inl (ow hw 13 rfl)) Via.refl e0 (S_NAMESPACE.ext O0.2) (g := (mkF m 54 #[iv p0, iv (3 : Int32), un, un] [])) rfl (hb hby at_54)
  obtain ⟨cq10, kq10, q10a, q10b, q10c⟩ := isOf hZ e9 (E_NAMESPACE.ext O0.2)
  obtain ⟨_, _, ⟨T10, L10, k10, n10⟩, -, X10, ⟨Lc10, hQ10, l10, y10, z10⟩, st10⟩ := X9.virtualBack hx (y := y1) (z := y1) hown (mvT hZ (ow hw 4 rfl)) (mvT hZ (ow hw 5 rfl)) (notFace_of_selects (args := #[]) (mvT hZ (ow hw 7 rfl))) (mvT hZ (ow hw 7 rfl)) (mvT hZ (ow hw 6 rfl)) (by decide) (backOf (W := 0) (rm1 l Z ar hw [] w_NAMESPACE w_COMMUNITY w_OBJECT w_OBJECT_GROUP w_NAMESPACE w_USER w_TRUST_ANCHOR w_SERVICE_TYPE w_ACTION_GROUP w_USER_GROUP h0 n0 O0 HW) hZ (ow hw 8 rfl) (ow hw 2 rfl) (by decide) (by decide)) q10a q10c (g := (mkF m 128 #[iv p0, iv (3 : Int32), rv w_NAMESPACE, iv (0 : Int32)] [(.ref w_NAMESPACE)])) rfl (by rw [hml]; rfl) (Steps.refl _) (argsL := []) (rest := []) (lenOf pd_0 rfl) rfl (by show 2 * 0 + _ ≤ _; exact Nat.le_of_eq rfl) (hb hby at_128) (fun _ _ => ⟨rfl, e9, (by decide : 0 + 0 ≤ _), (by decide : 0 + 0 ≤ _)⟩)
  dsimp only [Pt.U, Pt.locs, Pt.cells, Pt.slots] at X10 l10 y10 z10 st10 hQ10
  subst l10 y10 z10
  obtain ⟨rfl, N10q, e10⟩ := hQ10
  have N10 := Fr.app N0 N10q
  have r10 : (f1 w_NAMESPACE w_OBJECT w_OBJECT_GROUP) = (0 : Int32) := by rw [f1, if_neg ((Fld.ne F_ordinal_NAMESPACE F_ordinal_OBJECT (by decide)) : ¬ (w_NAMESPACE = w_OBJECT)), if_neg ((Fld.ne F_ordinal_NAMESPACE F_ordinal_OBJECT_GROUP (by decide)) : ¬ (w_NAMESPACE = w_OBJECT_GROUP))] <;> decide
  rw [r10] at st10
  obtain ⟨fs, hr, hrun, hended, hW, hsame⟩ := X10.leave (v := some (.int (1 : Int32))) (fun h => by rw [Bd.returns] at h; cases h)
  subst hS0
  refine ⟨_, _, pre2 _ ?_, hrun, hended, _, _, rfl, ?_, ⟨_, rfl⟩, hW, hsame.mono (by decide) (by decide)⟩
  ·
   refine XS.iloadN X0.here hx rfl (hb hby at_8) rfl ?_
   show AT p e below s₁ m 9 #[iv p0, iv (3 : Int32), un, un] [(.int (3 : Int32))] _
   refine XS.ifYes X0.here hx rfl (pc0 := 9) (pc' := 21) rfl (hb hby at_9) rfl (XT.i0_ne_t ((by decide) : ¬ ((3 : Int32) = (0 : Int32)))) (by decide) (by decide) ?_
   show AT p e below s₁ m 21 #[iv p0, iv (3 : Int32), un, un] [] _
   refine XS.iloadN X0.here hx rfl (hb hby at_21) rfl ?_
   show AT p e below s₁ m 22 #[iv p0, iv (3 : Int32), un, un] [(.int (3 : Int32))] _
   refine XS.iconst X0.here hx rfl (hb hby at_22) ?_
   show AT p e below s₁ m 23 #[iv p0, iv (3 : Int32), un, un] [(.int (1 : Int32)), (.int (3 : Int32))] _
   refine XS.icmpYes X0.here hx rfl (pc0 := 23) (pc' := 35) rfl (hb hby at_23) rfl (XT.ii_ne_t ((by decide) : ¬ ((3 : Int32) = (1 : Int32)))) (by decide) (by decide) ?_
   show AT p e below s₁ m 35 #[iv p0, iv (3 : Int32), un, un] [] _
   refine XS.iloadN X0.here hx rfl (hb hby at_35) rfl ?_
   show AT p e below s₁ m 36 #[iv p0, iv (3 : Int32), un, un] [(.int (3 : Int32))] _
   refine XS.iconst X0.here hx rfl (hb hby at_36) ?_
   show AT p e below s₁ m 37 #[iv p0, iv (3 : Int32), un, un] [(.int (2 : Int32)), (.int (3 : Int32))] _
   refine XS.icmpYes X0.here hx rfl (pc0 := 37) (pc' := 49) rfl (hb hby at_37) rfl (XT.ii_ne_t ((by decide) : ¬ ((3 : Int32) = (2 : Int32)))) (by decide) (by decide) ?_
   show AT p e below s₁ m 49 #[iv p0, iv (3 : Int32), un, un] [] _
   refine XS.iloadN X0.here hx rfl (hb hby at_49) rfl ?_
   show AT p e below s₁ m 50 #[iv p0, iv (3 : Int32), un, un] [(.int (3 : Int32))] _
   refine XS.iconst X0.here hx rfl (hb hby at_50) ?_
   show AT p e below s₁ m 51 #[iv p0, iv (3 : Int32), un, un] [(.int (3 : Int32)), (.int (3 : Int32))] _
   refine XS.icmpNo X0.here hx rfl (hb hby at_51) rfl (XT.ii_ne_f ((by decide) : (3 : Int32) = (3 : Int32))) ?_
   show AT p e below s₁ m 54 #[iv p0, iv (3 : Int32), un, un] [] _
   refine st9 _ ?_
   show AT p e below T9 m 57 #[iv p0, iv (3 : Int32), un, un] [(.ref w_NAMESPACE)] _
   refine XS.astoreN X9.here hx rfl (hb hby at_57) rfl rfl (l' := #[iv p0, iv (3 : Int32), rv w_NAMESPACE, un]) rfl ?_
   show AT p e below T9 m 58 #[iv p0, iv (3 : Int32), rv w_NAMESPACE, un] [] _
   refine XS.iconst X9.here hx rfl (hb hby at_58) ?_
   show AT p e below T9 m 59 #[iv p0, iv (3 : Int32), rv w_NAMESPACE, un] [(.int (0 : Int32))] _
   refine XS.istoreN X9.here hx rfl (hb hby at_59) rfl (l' := #[iv p0, iv (3 : Int32), rv w_NAMESPACE, iv (0 : Int32)]) rfl ?_
   show AT p e below T9 m 60 #[iv p0, iv (3 : Int32), rv w_NAMESPACE, iv (0 : Int32)] [] _
   refine XS.goto X9.here hx rfl (pc0 := 60) (pc' := 127) rfl (hb hby at_60) (by decide) (by decide) ?_
   show AT p e below T9 m 127 #[iv p0, iv (3 : Int32), rv w_NAMESPACE, iv (0 : Int32)] [] _
   refine XS.aloadN X9.here hx rfl (hb hby at_127) rfl rfl ?_
   show AT p e below T9 m 128 #[iv p0, iv (3 : Int32), rv w_NAMESPACE, iv (0 : Int32)] [(.ref w_NAMESPACE)] _
   refine st10.trans ?_
   show AT p e below T10 m 131 #[iv p0, iv (3 : Int32), rv w_NAMESPACE, iv (0 : Int32)] [(.int (0 : Int32))] _
   refine XS.iloadN X10.here hx rfl (hb hby at_131) rfl ?_
   show AT p e below T10 m 132 #[iv p0, iv (3 : Int32), rv w_NAMESPACE, iv (0 : Int32)] [(.int (0 : Int32)), (.int (0 : Int32))] _
   refine XS.icmpNo X10.here hx rfl (hb hby at_132) rfl (XT.ii_ne_f ((by decide) : (0 : Int32) = (0 : Int32))) ?_
   show AT p e below T10 m 135 #[iv p0, iv (3 : Int32), rv w_NAMESPACE, iv (0 : Int32)] [] _
   refine XS.iconst X10.here hx rfl (hb hby at_135) ?_
   show AT p e below T10 m 136 #[iv p0, iv (3 : Int32), rv w_NAMESPACE, iv (0 : Int32)] [(.int (1 : Int32))] _
   refine XS.goto X10.here hx rfl (pc0 := 136) (pc' := 140) rfl (hb hby at_136) (by decide) (by decide) ?_
   show AT p e below T10 m 140 #[iv p0, iv (3 : Int32), rv w_NAMESPACE, iv (0 : Int32)] [(.int (1 : Int32))] _
   exact retN X10 hx (t := .boolean) Bd.returns (by simp) (hb hby at_140) hr
  ·
   show Q0 Z p0 w_COMMUNITY w_OBJECT w_OBJECT_GROUP w_NAMESPACE w_USER w_TRUST_ANCHOR w_SERVICE_TYPE w_ACTION_GROUP w_USER_GROUP h0 n0 _ T10.heap _
   rw [e10]
   exact ⟨rfl, N10⟩
 ·
  obtain ⟨T11, X11, e11, st11⟩ := getS2 X0 hx hZ hown (host := "") (Or.inl (ow hw 20 rfl)) Via.refl e0 (S_SERVICE_TYPE.ext O0.2) (g := (mkF m 68 #[iv p0, iv (4 : Int32), un, un] [])) rfl (hb hby at_68)
  obtain ⟨cq12, kq12, q12a, q12b, q12c⟩ := isOf hZ e11 (E_SERVICE_TYPE.ext O0.2)
  obtain ⟨_, _, ⟨T12, L12, k12, n12⟩, -, X12, ⟨Lc12, hQ12, l12, y12, z12⟩, st12⟩ := X11.virtualBack hx (y := y1) (z := y1) hown (mvT hZ (ow hw 4 rfl)) (mvT hZ (ow hw 5 rfl)) (notFace_of_selects (args := #[]) (mvT hZ (ow hw 7 rfl))) (mvT hZ (ow hw 7 rfl)) (mvT hZ (ow hw 6 rfl)) (by decide) (backOf (W := 0) (rm1 l Z ar hw [] w_SERVICE_TYPE w_COMMUNITY w_OBJECT w_OBJECT_GROUP w_NAMESPACE w_USER w_TRUST_ANCHOR w_SERVICE_TYPE w_ACTION_GROUP w_USER_GROUP h0 n0 O0 HW) hZ (ow hw 8 rfl) (ow hw 2 rfl) (by decide) (by decide)) q12a q12c (g := (mkF m 128 #[iv p0, iv (4 : Int32), rv w_SERVICE_TYPE, iv (0 : Int32)] [(.ref w_SERVICE_TYPE)])) rfl (by rw [hml]; rfl) (Steps.refl _) (argsL := []) (rest := []) (lenOf pd_0 rfl) rfl (by show 2 * 0 + _ ≤ _; exact Nat.le_of_eq rfl) (hb hby at_128) (fun _ _ => ⟨rfl, e11, (by decide : 0 + 0 ≤ _), (by decide : 0 + 0 ≤ _)⟩)
  dsimp only [Pt.U, Pt.locs, Pt.cells, Pt.slots] at X12 l12 y12 z12 st12 hQ12
  subst l12 y12 z12
  obtain ⟨rfl, N12q, e12⟩ := hQ12
  have N12 := Fr.app N0 N12q
  have r12 : (f1 w_SERVICE_TYPE w_OBJECT w_OBJECT_GROUP) = (0 : Int32) := by rw [f1, if_neg ((Fld.ne F_ordinal_SERVICE_TYPE F_ordinal_OBJECT (by decide)) : ¬ (w_SERVICE_TYPE = w_OBJECT)), if_neg ((Fld.ne F_ordinal_SERVICE_TYPE F_ordinal_OBJECT_GROUP (by decide)) : ¬ (w_SERVICE_TYPE = w_OBJECT_GROUP))] <;> decide
  rw [r12] at st12
  obtain ⟨fs, hr, hrun, hended, hW, hsame⟩ := X12.leave (v := some (.int (1 : Int32))) (fun h => by rw [Bd.returns] at h; cases h)
  subst hS0
  refine ⟨_, _, pre2 _ ?_, hrun, hended, _, _, rfl, ?_, ⟨_, rfl⟩, hW, hsame.mono (by decide) (by decide)⟩
  ·
   refine XS.iloadN X0.here hx rfl (hb hby at_8) rfl ?_
   show AT p e below s₁ m 9 #[iv p0, iv (4 : Int32), un, un] [(.int (4 : Int32))] _
   refine XS.ifYes X0.here hx rfl (pc0 := 9) (pc' := 21) rfl (hb hby at_9) rfl (XT.i0_ne_t ((by decide) : ¬ ((4 : Int32) = (0 : Int32)))) (by decide) (by decide) ?_
   show AT p e below s₁ m 21 #[iv p0, iv (4 : Int32), un, un] [] _
   refine XS.iloadN X0.here hx rfl (hb hby at_21) rfl ?_
   show AT p e below s₁ m 22 #[iv p0, iv (4 : Int32), un, un] [(.int (4 : Int32))] _
   refine XS.iconst X0.here hx rfl (hb hby at_22) ?_
   show AT p e below s₁ m 23 #[iv p0, iv (4 : Int32), un, un] [(.int (1 : Int32)), (.int (4 : Int32))] _
   refine XS.icmpYes X0.here hx rfl (pc0 := 23) (pc' := 35) rfl (hb hby at_23) rfl (XT.ii_ne_t ((by decide) : ¬ ((4 : Int32) = (1 : Int32)))) (by decide) (by decide) ?_
   show AT p e below s₁ m 35 #[iv p0, iv (4 : Int32), un, un] [] _
   refine XS.iloadN X0.here hx rfl (hb hby at_35) rfl ?_
   show AT p e below s₁ m 36 #[iv p0, iv (4 : Int32), un, un] [(.int (4 : Int32))] _
   refine XS.iconst X0.here hx rfl (hb hby at_36) ?_
   show AT p e below s₁ m 37 #[iv p0, iv (4 : Int32), un, un] [(.int (2 : Int32)), (.int (4 : Int32))] _
   refine XS.icmpYes X0.here hx rfl (pc0 := 37) (pc' := 49) rfl (hb hby at_37) rfl (XT.ii_ne_t ((by decide) : ¬ ((4 : Int32) = (2 : Int32)))) (by decide) (by decide) ?_
   show AT p e below s₁ m 49 #[iv p0, iv (4 : Int32), un, un] [] _
   refine XS.iloadN X0.here hx rfl (hb hby at_49) rfl ?_
   show AT p e below s₁ m 50 #[iv p0, iv (4 : Int32), un, un] [(.int (4 : Int32))] _
   refine XS.iconst X0.here hx rfl (hb hby at_50) ?_
   show AT p e below s₁ m 51 #[iv p0, iv (4 : Int32), un, un] [(.int (3 : Int32)), (.int (4 : Int32))] _
   refine XS.icmpYes X0.here hx rfl (pc0 := 51) (pc' := 63) rfl (hb hby at_51) rfl (XT.ii_ne_t ((by decide) : ¬ ((4 : Int32) = (3 : Int32)))) (by decide) (by decide) ?_
   show AT p e below s₁ m 63 #[iv p0, iv (4 : Int32), un, un] [] _
   refine XS.iloadN X0.here hx rfl (hb hby at_63) rfl ?_
   show AT p e below s₁ m 64 #[iv p0, iv (4 : Int32), un, un] [(.int (4 : Int32))] _
   refine XS.iconst X0.here hx rfl (hb hby at_64) ?_
   show AT p e below s₁ m 65 #[iv p0, iv (4 : Int32), un, un] [(.int (4 : Int32)), (.int (4 : Int32))] _
   refine XS.icmpNo X0.here hx rfl (hb hby at_65) rfl (XT.ii_ne_f ((by decide) : (4 : Int32) = (4 : Int32))) ?_
   show AT p e below s₁ m 68 #[iv p0, iv (4 : Int32), un, un] [] _
   refine st11 _ ?_
   show AT p e below T11 m 71 #[iv p0, iv (4 : Int32), un, un] [(.ref w_SERVICE_TYPE)] _
   refine XS.astoreN X11.here hx rfl (hb hby at_71) rfl rfl (l' := #[iv p0, iv (4 : Int32), rv w_SERVICE_TYPE, un]) rfl ?_
   show AT p e below T11 m 72 #[iv p0, iv (4 : Int32), rv w_SERVICE_TYPE, un] [] _
   refine XS.iconst X11.here hx rfl (hb hby at_72) ?_
   show AT p e below T11 m 73 #[iv p0, iv (4 : Int32), rv w_SERVICE_TYPE, un] [(.int (0 : Int32))] _
   refine XS.istoreN X11.here hx rfl (hb hby at_73) rfl (l' := #[iv p0, iv (4 : Int32), rv w_SERVICE_TYPE, iv (0 : Int32)]) rfl ?_
   show AT p e below T11 m 74 #[iv p0, iv (4 : Int32), rv w_SERVICE_TYPE, iv (0 : Int32)] [] _
   refine XS.goto X11.here hx rfl (pc0 := 74) (pc' := 127) rfl (hb hby at_74) (by decide) (by decide) ?_
   show AT p e below T11 m 127 #[iv p0, iv (4 : Int32), rv w_SERVICE_TYPE, iv (0 : Int32)] [] _
   refine XS.aloadN X11.here hx rfl (hb hby at_127) rfl rfl ?_
   show AT p e below T11 m 128 #[iv p0, iv (4 : Int32), rv w_SERVICE_TYPE, iv (0 : Int32)] [(.ref w_SERVICE_TYPE)] _
   refine st12.trans ?_
   show AT p e below T12 m 131 #[iv p0, iv (4 : Int32), rv w_SERVICE_TYPE, iv (0 : Int32)] [(.int (0 : Int32))] _
   refine XS.iloadN X12.here hx rfl (hb hby at_131) rfl ?_
   show AT p e below T12 m 132 #[iv p0, iv (4 : Int32), rv w_SERVICE_TYPE, iv (0 : Int32)] [(.int (0 : Int32)), (.int (0 : Int32))] _
   refine XS.icmpNo X12.here hx rfl (hb hby at_132) rfl (XT.ii_ne_f ((by decide) : (0 : Int32) = (0 : Int32))) ?_
   show AT p e below T12 m 135 #[iv p0, iv (4 : Int32), rv w_SERVICE_TYPE, iv (0 : Int32)] [] _
   refine XS.iconst X12.here hx rfl (hb hby at_135) ?_
   show AT p e below T12 m 136 #[iv p0, iv (4 : Int32), rv w_SERVICE_TYPE, iv (0 : Int32)] [(.int (1 : Int32))] _
   refine XS.goto X12.here hx rfl (pc0 := 136) (pc' := 140) rfl (hb hby at_136) (by decide) (by decide) ?_
   show AT p e below T12 m 140 #[iv p0, iv (4 : Int32), rv w_SERVICE_TYPE, iv (0 : Int32)] [(.int (1 : Int32))] _
   exact retN X12 hx (t := .boolean) Bd.returns (by simp) (hb hby at_140) hr
  ·
   show Q0 Z p0 w_COMMUNITY w_OBJECT w_OBJECT_GROUP w_NAMESPACE w_USER w_TRUST_ANCHOR w_SERVICE_TYPE w_ACTION_GROUP w_USER_GROUP h0 n0 _ T12.heap _
   rw [e12]
   exact ⟨rfl, N12⟩
 ·
  obtain ⟨T13, X13, e13, st13⟩ := getS2 X0 hx hZ hown (host := "") (Or.inl (ow hw 26 rfl)) Via.refl e0 (S_OBJECT.ext O0.2) (g := (mkF m 82 #[iv p0, iv (5 : Int32), un, un] [])) rfl (hb hby at_82)
  obtain ⟨cq14, kq14, q14a, q14b, q14c⟩ := isOf hZ e13 (E_OBJECT.ext O0.2)
  obtain ⟨_, _, ⟨T14, L14, k14, n14⟩, -, X14, ⟨Lc14, hQ14, l14, y14, z14⟩, st14⟩ := X13.virtualBack hx (y := y1) (z := y1) hown (mvT hZ (ow hw 4 rfl)) (mvT hZ (ow hw 5 rfl)) (notFace_of_selects (args := #[]) (mvT hZ (ow hw 7 rfl))) (mvT hZ (ow hw 7 rfl)) (mvT hZ (ow hw 6 rfl)) (by decide) (backOf (W := 0) (rm1 l Z ar hw [] w_OBJECT w_COMMUNITY w_OBJECT w_OBJECT_GROUP w_NAMESPACE w_USER w_TRUST_ANCHOR w_SERVICE_TYPE w_ACTION_GROUP w_USER_GROUP h0 n0 O0 HW) hZ (ow hw 8 rfl) (ow hw 2 rfl) (by decide) (by decide)) q14a q14c (g := (mkF m 128 #[iv p0, iv (5 : Int32), rv w_OBJECT, iv (1 : Int32)] [(.ref w_OBJECT)])) rfl (by rw [hml]; rfl) (Steps.refl _) (argsL := []) (rest := []) (lenOf pd_0 rfl) rfl (by show 2 * 0 + _ ≤ _; exact Nat.le_of_eq rfl) (hb hby at_128) (fun _ _ => ⟨rfl, e13, (by decide : 0 + 0 ≤ _), (by decide : 0 + 0 ≤ _)⟩)
  dsimp only [Pt.U, Pt.locs, Pt.cells, Pt.slots] at X14 l14 y14 z14 st14 hQ14
  subst l14 y14 z14
  obtain ⟨rfl, N14q, e14⟩ := hQ14
  have N14 := Fr.app N0 N14q
  have r14 : (f1 w_OBJECT w_OBJECT w_OBJECT_GROUP) = (1 : Int32) := by rw [f1, if_pos (rfl : w_OBJECT = w_OBJECT)] <;> decide
  rw [r14] at st14
  obtain ⟨fs, hr, hrun, hended, hW, hsame⟩ := X14.leave (v := some (.int (1 : Int32))) (fun h => by rw [Bd.returns] at h; cases h)
  subst hS0
  refine ⟨_, _, pre2 _ ?_, hrun, hended, _, _, rfl, ?_, ⟨_, rfl⟩, hW, hsame.mono (by decide) (by decide)⟩
  ·
   refine XS.iloadN X0.here hx rfl (hb hby at_8) rfl ?_
   show AT p e below s₁ m 9 #[iv p0, iv (5 : Int32), un, un] [(.int (5 : Int32))] _
   refine XS.ifYes X0.here hx rfl (pc0 := 9) (pc' := 21) rfl (hb hby at_9) rfl (XT.i0_ne_t ((by decide) : ¬ ((5 : Int32) = (0 : Int32)))) (by decide) (by decide) ?_
   show AT p e below s₁ m 21 #[iv p0, iv (5 : Int32), un, un] [] _
   refine XS.iloadN X0.here hx rfl (hb hby at_21) rfl ?_
   show AT p e below s₁ m 22 #[iv p0, iv (5 : Int32), un, un] [(.int (5 : Int32))] _
   refine XS.iconst X0.here hx rfl (hb hby at_22) ?_
   show AT p e below s₁ m 23 #[iv p0, iv (5 : Int32), un, un] [(.int (1 : Int32)), (.int (5 : Int32))] _
   refine XS.icmpYes X0.here hx rfl (pc0 := 23) (pc' := 35) rfl (hb hby at_23) rfl (XT.ii_ne_t ((by decide) : ¬ ((5 : Int32) = (1 : Int32)))) (by decide) (by decide) ?_
   show AT p e below s₁ m 35 #[iv p0, iv (5 : Int32), un, un] [] _
   refine XS.iloadN X0.here hx rfl (hb hby at_35) rfl ?_
   show AT p e below s₁ m 36 #[iv p0, iv (5 : Int32), un, un] [(.int (5 : Int32))] _
   refine XS.iconst X0.here hx rfl (hb hby at_36) ?_
   show AT p e below s₁ m 37 #[iv p0, iv (5 : Int32), un, un] [(.int (2 : Int32)), (.int (5 : Int32))] _
   refine XS.icmpYes X0.here hx rfl (pc0 := 37) (pc' := 49) rfl (hb hby at_37) rfl (XT.ii_ne_t ((by decide) : ¬ ((5 : Int32) = (2 : Int32)))) (by decide) (by decide) ?_
   show AT p e below s₁ m 49 #[iv p0, iv (5 : Int32), un, un] [] _
   refine XS.iloadN X0.here hx rfl (hb hby at_49) rfl ?_
   show AT p e below s₁ m 50 #[iv p0, iv (5 : Int32), un, un] [(.int (5 : Int32))] _
   refine XS.iconst X0.here hx rfl (hb hby at_50) ?_
   show AT p e below s₁ m 51 #[iv p0, iv (5 : Int32), un, un] [(.int (3 : Int32)), (.int (5 : Int32))] _
   refine XS.icmpYes X0.here hx rfl (pc0 := 51) (pc' := 63) rfl (hb hby at_51) rfl (XT.ii_ne_t ((by decide) : ¬ ((5 : Int32) = (3 : Int32)))) (by decide) (by decide) ?_
   show AT p e below s₁ m 63 #[iv p0, iv (5 : Int32), un, un] [] _
   refine XS.iloadN X0.here hx rfl (hb hby at_63) rfl ?_
   show AT p e below s₁ m 64 #[iv p0, iv (5 : Int32), un, un] [(.int (5 : Int32))] _
   refine XS.iconst X0.here hx rfl (hb hby at_64) ?_
   show AT p e below s₁ m 65 #[iv p0, iv (5 : Int32), un, un] [(.int (4 : Int32)), (.int (5 : Int32))] _
   refine XS.icmpYes X0.here hx rfl (pc0 := 65) (pc' := 77) rfl (hb hby at_65) rfl (XT.ii_ne_t ((by decide) : ¬ ((5 : Int32) = (4 : Int32)))) (by decide) (by decide) ?_
   show AT p e below s₁ m 77 #[iv p0, iv (5 : Int32), un, un] [] _
   refine XS.iloadN X0.here hx rfl (hb hby at_77) rfl ?_
   show AT p e below s₁ m 78 #[iv p0, iv (5 : Int32), un, un] [(.int (5 : Int32))] _
   refine XS.iconst X0.here hx rfl (hb hby at_78) ?_
   show AT p e below s₁ m 79 #[iv p0, iv (5 : Int32), un, un] [(.int (5 : Int32)), (.int (5 : Int32))] _
   refine XS.icmpNo X0.here hx rfl (hb hby at_79) rfl (XT.ii_ne_f ((by decide) : (5 : Int32) = (5 : Int32))) ?_
   show AT p e below s₁ m 82 #[iv p0, iv (5 : Int32), un, un] [] _
   refine st13 _ ?_
   show AT p e below T13 m 85 #[iv p0, iv (5 : Int32), un, un] [(.ref w_OBJECT)] _
   refine XS.astoreN X13.here hx rfl (hb hby at_85) rfl rfl (l' := #[iv p0, iv (5 : Int32), rv w_OBJECT, un]) rfl ?_
   show AT p e below T13 m 86 #[iv p0, iv (5 : Int32), rv w_OBJECT, un] [] _
   refine XS.iconst X13.here hx rfl (hb hby at_86) ?_
   show AT p e below T13 m 87 #[iv p0, iv (5 : Int32), rv w_OBJECT, un] [(.int (1 : Int32))] _
   refine XS.istoreN X13.here hx rfl (hb hby at_87) rfl (l' := #[iv p0, iv (5 : Int32), rv w_OBJECT, iv (1 : Int32)]) rfl ?_
   show AT p e below T13 m 88 #[iv p0, iv (5 : Int32), rv w_OBJECT, iv (1 : Int32)] [] _
   refine XS.goto X13.here hx rfl (pc0 := 88) (pc' := 127) rfl (hb hby at_88) (by decide) (by decide) ?_
   show AT p e below T13 m 127 #[iv p0, iv (5 : Int32), rv w_OBJECT, iv (1 : Int32)] [] _
   refine XS.aloadN X13.here hx rfl (hb hby at_127) rfl rfl ?_
   show AT p e below T13 m 128 #[iv p0, iv (5 : Int32), rv w_OBJECT, iv (1 : Int32)] [(.ref w_OBJECT)] _
   refine st14.trans ?_
   show AT p e below T14 m 131 #[iv p0, iv (5 : Int32), rv w_OBJECT, iv (1 : Int32)] [(.int (1 : Int32))] _
   refine XS.iloadN X14.here hx rfl (hb hby at_131) rfl ?_
   show AT p e below T14 m 132 #[iv p0, iv (5 : Int32), rv w_OBJECT, iv (1 : Int32)] [(.int (1 : Int32)), (.int (1 : Int32))] _
   refine XS.icmpNo X14.here hx rfl (hb hby at_132) rfl (XT.ii_ne_f ((by decide) : (1 : Int32) = (1 : Int32))) ?_
   show AT p e below T14 m 135 #[iv p0, iv (5 : Int32), rv w_OBJECT, iv (1 : Int32)] [] _
   refine XS.iconst X14.here hx rfl (hb hby at_135) ?_
   show AT p e below T14 m 136 #[iv p0, iv (5 : Int32), rv w_OBJECT, iv (1 : Int32)] [(.int (1 : Int32))] _
   refine XS.goto X14.here hx rfl (pc0 := 136) (pc' := 140) rfl (hb hby at_136) (by decide) (by decide) ?_
   show AT p e below T14 m 140 #[iv p0, iv (5 : Int32), rv w_OBJECT, iv (1 : Int32)] [(.int (1 : Int32))] _
   exact retN X14 hx (t := .boolean) Bd.returns (by simp) (hb hby at_140) hr
  ·
   show Q0 Z p0 w_COMMUNITY w_OBJECT w_OBJECT_GROUP w_NAMESPACE w_USER w_TRUST_ANCHOR w_SERVICE_TYPE w_ACTION_GROUP w_USER_GROUP h0 n0 _ T14.heap _
   rw [e14]
   exact ⟨rfl, N14⟩
 ·
  obtain ⟨T15, X15, e15, st15⟩ := getS2 X0 hx hZ hown (host := "") (Or.inl (ow hw 24 rfl)) Via.refl e0 (S_USER_GROUP.ext O0.2) (g := (mkF m 97 #[iv p0, iv (6 : Int32), un, un] [])) rfl (hb hby at_97)
  obtain ⟨cq16, kq16, q16a, q16b, q16c⟩ := isOf hZ e15 (E_USER_GROUP.ext O0.2)
  obtain ⟨_, _, ⟨T16, L16, k16, n16⟩, -, X16, ⟨Lc16, hQ16, l16, y16, z16⟩, st16⟩ := X15.virtualBack hx (y := y1) (z := y1) hown (mvT hZ (ow hw 4 rfl)) (mvT hZ (ow hw 5 rfl)) (notFace_of_selects (args := #[]) (mvT hZ (ow hw 7 rfl))) (mvT hZ (ow hw 7 rfl)) (mvT hZ (ow hw 6 rfl)) (by decide) (backOf (W := 0) (rm1 l Z ar hw [] w_USER_GROUP w_COMMUNITY w_OBJECT w_OBJECT_GROUP w_NAMESPACE w_USER w_TRUST_ANCHOR w_SERVICE_TYPE w_ACTION_GROUP w_USER_GROUP h0 n0 O0 HW) hZ (ow hw 8 rfl) (ow hw 2 rfl) (by decide) (by decide)) q16a q16c (g := (mkF m 128 #[iv p0, iv (6 : Int32), rv w_USER_GROUP, iv (0 : Int32)] [(.ref w_USER_GROUP)])) rfl (by rw [hml]; rfl) (Steps.refl _) (argsL := []) (rest := []) (lenOf pd_0 rfl) rfl (by show 2 * 0 + _ ≤ _; exact Nat.le_of_eq rfl) (hb hby at_128) (fun _ _ => ⟨rfl, e15, (by decide : 0 + 0 ≤ _), (by decide : 0 + 0 ≤ _)⟩)
  dsimp only [Pt.U, Pt.locs, Pt.cells, Pt.slots] at X16 l16 y16 z16 st16 hQ16
  subst l16 y16 z16
  obtain ⟨rfl, N16q, e16⟩ := hQ16
  have N16 := Fr.app N0 N16q
  have r16 : (f1 w_USER_GROUP w_OBJECT w_OBJECT_GROUP) = (0 : Int32) := by rw [f1, if_neg ((Fld.ne F_ordinal_USER_GROUP F_ordinal_OBJECT (by decide)) : ¬ (w_USER_GROUP = w_OBJECT)), if_neg ((Fld.ne F_ordinal_USER_GROUP F_ordinal_OBJECT_GROUP (by decide)) : ¬ (w_USER_GROUP = w_OBJECT_GROUP))] <;> decide
  rw [r16] at st16
  obtain ⟨fs, hr, hrun, hended, hW, hsame⟩ := X16.leave (v := some (.int (1 : Int32))) (fun h => by rw [Bd.returns] at h; cases h)
  subst hS0
  refine ⟨_, _, pre2 _ ?_, hrun, hended, _, _, rfl, ?_, ⟨_, rfl⟩, hW, hsame.mono (by decide) (by decide)⟩
  ·
   refine XS.iloadN X0.here hx rfl (hb hby at_8) rfl ?_
   show AT p e below s₁ m 9 #[iv p0, iv (6 : Int32), un, un] [(.int (6 : Int32))] _
   refine XS.ifYes X0.here hx rfl (pc0 := 9) (pc' := 21) rfl (hb hby at_9) rfl (XT.i0_ne_t ((by decide) : ¬ ((6 : Int32) = (0 : Int32)))) (by decide) (by decide) ?_
   show AT p e below s₁ m 21 #[iv p0, iv (6 : Int32), un, un] [] _
   refine XS.iloadN X0.here hx rfl (hb hby at_21) rfl ?_
   show AT p e below s₁ m 22 #[iv p0, iv (6 : Int32), un, un] [(.int (6 : Int32))] _
   refine XS.iconst X0.here hx rfl (hb hby at_22) ?_
   show AT p e below s₁ m 23 #[iv p0, iv (6 : Int32), un, un] [(.int (1 : Int32)), (.int (6 : Int32))] _
   refine XS.icmpYes X0.here hx rfl (pc0 := 23) (pc' := 35) rfl (hb hby at_23) rfl (XT.ii_ne_t ((by decide) : ¬ ((6 : Int32) = (1 : Int32)))) (by decide) (by decide) ?_
   show AT p e below s₁ m 35 #[iv p0, iv (6 : Int32), un, un] [] _
   refine XS.iloadN X0.here hx rfl (hb hby at_35) rfl ?_
   show AT p e below s₁ m 36 #[iv p0, iv (6 : Int32), un, un] [(.int (6 : Int32))] _
   refine XS.iconst X0.here hx rfl (hb hby at_36) ?_
   show AT p e below s₁ m 37 #[iv p0, iv (6 : Int32), un, un] [(.int (2 : Int32)), (.int (6 : Int32))] _
   refine XS.icmpYes X0.here hx rfl (pc0 := 37) (pc' := 49) rfl (hb hby at_37) rfl (XT.ii_ne_t ((by decide) : ¬ ((6 : Int32) = (2 : Int32)))) (by decide) (by decide) ?_
   show AT p e below s₁ m 49 #[iv p0, iv (6 : Int32), un, un] [] _
   refine XS.iloadN X0.here hx rfl (hb hby at_49) rfl ?_
   show AT p e below s₁ m 50 #[iv p0, iv (6 : Int32), un, un] [(.int (6 : Int32))] _
   refine XS.iconst X0.here hx rfl (hb hby at_50) ?_
   show AT p e below s₁ m 51 #[iv p0, iv (6 : Int32), un, un] [(.int (3 : Int32)), (.int (6 : Int32))] _
   refine XS.icmpYes X0.here hx rfl (pc0 := 51) (pc' := 63) rfl (hb hby at_51) rfl (XT.ii_ne_t ((by decide) : ¬ ((6 : Int32) = (3 : Int32)))) (by decide) (by decide) ?_
   show AT p e below s₁ m 63 #[iv p0, iv (6 : Int32), un, un] [] _
   refine XS.iloadN X0.here hx rfl (hb hby at_63) rfl ?_
   show AT p e below s₁ m 64 #[iv p0, iv (6 : Int32), un, un] [(.int (6 : Int32))] _
   refine XS.iconst X0.here hx rfl (hb hby at_64) ?_
   show AT p e below s₁ m 65 #[iv p0, iv (6 : Int32), un, un] [(.int (4 : Int32)), (.int (6 : Int32))] _
   refine XS.icmpYes X0.here hx rfl (pc0 := 65) (pc' := 77) rfl (hb hby at_65) rfl (XT.ii_ne_t ((by decide) : ¬ ((6 : Int32) = (4 : Int32)))) (by decide) (by decide) ?_
   show AT p e below s₁ m 77 #[iv p0, iv (6 : Int32), un, un] [] _
   refine XS.iloadN X0.here hx rfl (hb hby at_77) rfl ?_
   show AT p e below s₁ m 78 #[iv p0, iv (6 : Int32), un, un] [(.int (6 : Int32))] _
   refine XS.iconst X0.here hx rfl (hb hby at_78) ?_
   show AT p e below s₁ m 79 #[iv p0, iv (6 : Int32), un, un] [(.int (5 : Int32)), (.int (6 : Int32))] _
   refine XS.icmpYes X0.here hx rfl (pc0 := 79) (pc' := 91) rfl (hb hby at_79) rfl (XT.ii_ne_t ((by decide) : ¬ ((6 : Int32) = (5 : Int32)))) (by decide) (by decide) ?_
   show AT p e below s₁ m 91 #[iv p0, iv (6 : Int32), un, un] [] _
   refine XS.iloadN X0.here hx rfl (hb hby at_91) rfl ?_
   show AT p e below s₁ m 92 #[iv p0, iv (6 : Int32), un, un] [(.int (6 : Int32))] _
   refine XS.bipush X0.here hx rfl (hb hby at_92) ?_
   show AT p e below s₁ m 94 #[iv p0, iv (6 : Int32), un, un] [(.int (6 : Int32)), (.int (6 : Int32))] _
   refine XS.icmpNo X0.here hx rfl (hb hby at_94) rfl (XT.ii_ne_f ((by decide) : (6 : Int32) = (6 : Int32))) ?_
   show AT p e below s₁ m 97 #[iv p0, iv (6 : Int32), un, un] [] _
   refine st15 _ ?_
   show AT p e below T15 m 100 #[iv p0, iv (6 : Int32), un, un] [(.ref w_USER_GROUP)] _
   refine XS.astoreN X15.here hx rfl (hb hby at_100) rfl rfl (l' := #[iv p0, iv (6 : Int32), rv w_USER_GROUP, un]) rfl ?_
   show AT p e below T15 m 101 #[iv p0, iv (6 : Int32), rv w_USER_GROUP, un] [] _
   refine XS.iconst X15.here hx rfl (hb hby at_101) ?_
   show AT p e below T15 m 102 #[iv p0, iv (6 : Int32), rv w_USER_GROUP, un] [(.int (0 : Int32))] _
   refine XS.istoreN X15.here hx rfl (hb hby at_102) rfl (l' := #[iv p0, iv (6 : Int32), rv w_USER_GROUP, iv (0 : Int32)]) rfl ?_
   show AT p e below T15 m 103 #[iv p0, iv (6 : Int32), rv w_USER_GROUP, iv (0 : Int32)] [] _
   refine XS.goto X15.here hx rfl (pc0 := 103) (pc' := 127) rfl (hb hby at_103) (by decide) (by decide) ?_
   show AT p e below T15 m 127 #[iv p0, iv (6 : Int32), rv w_USER_GROUP, iv (0 : Int32)] [] _
   refine XS.aloadN X15.here hx rfl (hb hby at_127) rfl rfl ?_
   show AT p e below T15 m 128 #[iv p0, iv (6 : Int32), rv w_USER_GROUP, iv (0 : Int32)] [(.ref w_USER_GROUP)] _
   refine st16.trans ?_
   show AT p e below T16 m 131 #[iv p0, iv (6 : Int32), rv w_USER_GROUP, iv (0 : Int32)] [(.int (0 : Int32))] _
   refine XS.iloadN X16.here hx rfl (hb hby at_131) rfl ?_
   show AT p e below T16 m 132 #[iv p0, iv (6 : Int32), rv w_USER_GROUP, iv (0 : Int32)] [(.int (0 : Int32)), (.int (0 : Int32))] _
   refine XS.icmpNo X16.here hx rfl (hb hby at_132) rfl (XT.ii_ne_f ((by decide) : (0 : Int32) = (0 : Int32))) ?_
   show AT p e below T16 m 135 #[iv p0, iv (6 : Int32), rv w_USER_GROUP, iv (0 : Int32)] [] _
   refine XS.iconst X16.here hx rfl (hb hby at_135) ?_
   show AT p e below T16 m 136 #[iv p0, iv (6 : Int32), rv w_USER_GROUP, iv (0 : Int32)] [(.int (1 : Int32))] _
   refine XS.goto X16.here hx rfl (pc0 := 136) (pc' := 140) rfl (hb hby at_136) (by decide) (by decide) ?_
   show AT p e below T16 m 140 #[iv p0, iv (6 : Int32), rv w_USER_GROUP, iv (0 : Int32)] [(.int (1 : Int32))] _
   exact retN X16 hx (t := .boolean) Bd.returns (by simp) (hb hby at_140) hr
  ·
   show Q0 Z p0 w_COMMUNITY w_OBJECT w_OBJECT_GROUP w_NAMESPACE w_USER w_TRUST_ANCHOR w_SERVICE_TYPE w_ACTION_GROUP w_USER_GROUP h0 n0 _ T16.heap _
   rw [e16]
   exact ⟨rfl, N16⟩
 ·
  obtain ⟨T17, X17, e17, st17⟩ := getS2 X0 hx hZ hown (host := "") (Or.inl (ow hw 19 rfl)) Via.refl e0 (S_OBJECT_GROUP.ext O0.2) (g := (mkF m 112 #[iv p0, iv (7 : Int32), un, un] [])) rfl (hb hby at_112)
  obtain ⟨cq18, kq18, q18a, q18b, q18c⟩ := isOf hZ e17 (E_OBJECT_GROUP.ext O0.2)
  obtain ⟨_, _, ⟨T18, L18, k18, n18⟩, -, X18, ⟨Lc18, hQ18, l18, y18, z18⟩, st18⟩ := X17.virtualBack hx (y := y1) (z := y1) hown (mvT hZ (ow hw 4 rfl)) (mvT hZ (ow hw 5 rfl)) (notFace_of_selects (args := #[]) (mvT hZ (ow hw 7 rfl))) (mvT hZ (ow hw 7 rfl)) (mvT hZ (ow hw 6 rfl)) (by decide) (backOf (W := 0) (rm1 l Z ar hw [] w_OBJECT_GROUP w_COMMUNITY w_OBJECT w_OBJECT_GROUP w_NAMESPACE w_USER w_TRUST_ANCHOR w_SERVICE_TYPE w_ACTION_GROUP w_USER_GROUP h0 n0 O0 HW) hZ (ow hw 8 rfl) (ow hw 2 rfl) (by decide) (by decide)) q18a q18c (g := (mkF m 128 #[iv p0, iv (7 : Int32), rv w_OBJECT_GROUP, iv (1 : Int32)] [(.ref w_OBJECT_GROUP)])) rfl (by rw [hml]; rfl) (Steps.refl _) (argsL := []) (rest := []) (lenOf pd_0 rfl) rfl (by show 2 * 0 + _ ≤ _; exact Nat.le_of_eq rfl) (hb hby at_128) (fun _ _ => ⟨rfl, e17, (by decide : 0 + 0 ≤ _), (by decide : 0 + 0 ≤ _)⟩)
  dsimp only [Pt.U, Pt.locs, Pt.cells, Pt.slots] at X18 l18 y18 z18 st18 hQ18
  subst l18 y18 z18
  obtain ⟨rfl, N18q, e18⟩ := hQ18
  have N18 := Fr.app N0 N18q
  have r18 : (f1 w_OBJECT_GROUP w_OBJECT w_OBJECT_GROUP) = (1 : Int32) := by rw [f1, if_neg ((Fld.ne F_ordinal_OBJECT_GROUP F_ordinal_OBJECT (by decide)) : ¬ (w_OBJECT_GROUP = w_OBJECT)), if_pos (rfl : w_OBJECT_GROUP = w_OBJECT_GROUP)] <;> decide
  rw [r18] at st18
  obtain ⟨fs, hr, hrun, hended, hW, hsame⟩ := X18.leave (v := some (.int (1 : Int32))) (fun h => by rw [Bd.returns] at h; cases h)
  subst hS0
  refine ⟨_, _, pre2 _ ?_, hrun, hended, _, _, rfl, ?_, ⟨_, rfl⟩, hW, hsame.mono (by decide) (by decide)⟩
  ·
   refine XS.iloadN X0.here hx rfl (hb hby at_8) rfl ?_
   show AT p e below s₁ m 9 #[iv p0, iv (7 : Int32), un, un] [(.int (7 : Int32))] _
   refine XS.ifYes X0.here hx rfl (pc0 := 9) (pc' := 21) rfl (hb hby at_9) rfl (XT.i0_ne_t ((by decide) : ¬ ((7 : Int32) = (0 : Int32)))) (by decide) (by decide) ?_
   show AT p e below s₁ m 21 #[iv p0, iv (7 : Int32), un, un] [] _
   refine XS.iloadN X0.here hx rfl (hb hby at_21) rfl ?_
   show AT p e below s₁ m 22 #[iv p0, iv (7 : Int32), un, un] [(.int (7 : Int32))] _
   refine XS.iconst X0.here hx rfl (hb hby at_22) ?_
   show AT p e below s₁ m 23 #[iv p0, iv (7 : Int32), un, un] [(.int (1 : Int32)), (.int (7 : Int32))] _
   refine XS.icmpYes X0.here hx rfl (pc0 := 23) (pc' := 35) rfl (hb hby at_23) rfl (XT.ii_ne_t ((by decide) : ¬ ((7 : Int32) = (1 : Int32)))) (by decide) (by decide) ?_
   show AT p e below s₁ m 35 #[iv p0, iv (7 : Int32), un, un] [] _
   refine XS.iloadN X0.here hx rfl (hb hby at_35) rfl ?_
   show AT p e below s₁ m 36 #[iv p0, iv (7 : Int32), un, un] [(.int (7 : Int32))] _
   refine XS.iconst X0.here hx rfl (hb hby at_36) ?_
   show AT p e below s₁ m 37 #[iv p0, iv (7 : Int32), un, un] [(.int (2 : Int32)), (.int (7 : Int32))] _
   refine XS.icmpYes X0.here hx rfl (pc0 := 37) (pc' := 49) rfl (hb hby at_37) rfl (XT.ii_ne_t ((by decide) : ¬ ((7 : Int32) = (2 : Int32)))) (by decide) (by decide) ?_
   show AT p e below s₁ m 49 #[iv p0, iv (7 : Int32), un, un] [] _
   refine XS.iloadN X0.here hx rfl (hb hby at_49) rfl ?_
   show AT p e below s₁ m 50 #[iv p0, iv (7 : Int32), un, un] [(.int (7 : Int32))] _
   refine XS.iconst X0.here hx rfl (hb hby at_50) ?_
   show AT p e below s₁ m 51 #[iv p0, iv (7 : Int32), un, un] [(.int (3 : Int32)), (.int (7 : Int32))] _
   refine XS.icmpYes X0.here hx rfl (pc0 := 51) (pc' := 63) rfl (hb hby at_51) rfl (XT.ii_ne_t ((by decide) : ¬ ((7 : Int32) = (3 : Int32)))) (by decide) (by decide) ?_
   show AT p e below s₁ m 63 #[iv p0, iv (7 : Int32), un, un] [] _
   refine XS.iloadN X0.here hx rfl (hb hby at_63) rfl ?_
   show AT p e below s₁ m 64 #[iv p0, iv (7 : Int32), un, un] [(.int (7 : Int32))] _
   refine XS.iconst X0.here hx rfl (hb hby at_64) ?_
   show AT p e below s₁ m 65 #[iv p0, iv (7 : Int32), un, un] [(.int (4 : Int32)), (.int (7 : Int32))] _
   refine XS.icmpYes X0.here hx rfl (pc0 := 65) (pc' := 77) rfl (hb hby at_65) rfl (XT.ii_ne_t ((by decide) : ¬ ((7 : Int32) = (4 : Int32)))) (by decide) (by decide) ?_
   show AT p e below s₁ m 77 #[iv p0, iv (7 : Int32), un, un] [] _
   refine XS.iloadN X0.here hx rfl (hb hby at_77) rfl ?_
   show AT p e below s₁ m 78 #[iv p0, iv (7 : Int32), un, un] [(.int (7 : Int32))] _
   refine XS.iconst X0.here hx rfl (hb hby at_78) ?_
   show AT p e below s₁ m 79 #[iv p0, iv (7 : Int32), un, un] [(.int (5 : Int32)), (.int (7 : Int32))] _
   refine XS.icmpYes X0.here hx rfl (pc0 := 79) (pc' := 91) rfl (hb hby at_79) rfl (XT.ii_ne_t ((by decide) : ¬ ((7 : Int32) = (5 : Int32)))) (by decide) (by decide) ?_
   show AT p e below s₁ m 91 #[iv p0, iv (7 : Int32), un, un] [] _
   refine XS.iloadN X0.here hx rfl (hb hby at_91) rfl ?_
   show AT p e below s₁ m 92 #[iv p0, iv (7 : Int32), un, un] [(.int (7 : Int32))] _
   refine XS.bipush X0.here hx rfl (hb hby at_92) ?_
   show AT p e below s₁ m 94 #[iv p0, iv (7 : Int32), un, un] [(.int (6 : Int32)), (.int (7 : Int32))] _
   refine XS.icmpYes X0.here hx rfl (pc0 := 94) (pc' := 106) rfl (hb hby at_94) rfl (XT.ii_ne_t ((by decide) : ¬ ((7 : Int32) = (6 : Int32)))) (by decide) (by decide) ?_
   show AT p e below s₁ m 106 #[iv p0, iv (7 : Int32), un, un] [] _
   refine XS.iloadN X0.here hx rfl (hb hby at_106) rfl ?_
   show AT p e below s₁ m 107 #[iv p0, iv (7 : Int32), un, un] [(.int (7 : Int32))] _
   refine XS.bipush X0.here hx rfl (hb hby at_107) ?_
   show AT p e below s₁ m 109 #[iv p0, iv (7 : Int32), un, un] [(.int (7 : Int32)), (.int (7 : Int32))] _
   refine XS.icmpNo X0.here hx rfl (hb hby at_109) rfl (XT.ii_ne_f ((by decide) : (7 : Int32) = (7 : Int32))) ?_
   show AT p e below s₁ m 112 #[iv p0, iv (7 : Int32), un, un] [] _
   refine st17 _ ?_
   show AT p e below T17 m 115 #[iv p0, iv (7 : Int32), un, un] [(.ref w_OBJECT_GROUP)] _
   refine XS.astoreN X17.here hx rfl (hb hby at_115) rfl rfl (l' := #[iv p0, iv (7 : Int32), rv w_OBJECT_GROUP, un]) rfl ?_
   show AT p e below T17 m 116 #[iv p0, iv (7 : Int32), rv w_OBJECT_GROUP, un] [] _
   refine XS.iconst X17.here hx rfl (hb hby at_116) ?_
   show AT p e below T17 m 117 #[iv p0, iv (7 : Int32), rv w_OBJECT_GROUP, un] [(.int (1 : Int32))] _
   refine XS.istoreN X17.here hx rfl (hb hby at_117) rfl (l' := #[iv p0, iv (7 : Int32), rv w_OBJECT_GROUP, iv (1 : Int32)]) rfl ?_
   show AT p e below T17 m 118 #[iv p0, iv (7 : Int32), rv w_OBJECT_GROUP, iv (1 : Int32)] [] _
   refine XS.goto X17.here hx rfl (pc0 := 118) (pc' := 127) rfl (hb hby at_118) (by decide) (by decide) ?_
   show AT p e below T17 m 127 #[iv p0, iv (7 : Int32), rv w_OBJECT_GROUP, iv (1 : Int32)] [] _
   refine XS.aloadN X17.here hx rfl (hb hby at_127) rfl rfl ?_
   show AT p e below T17 m 128 #[iv p0, iv (7 : Int32), rv w_OBJECT_GROUP, iv (1 : Int32)] [(.ref w_OBJECT_GROUP)] _
   refine st18.trans ?_
   show AT p e below T18 m 131 #[iv p0, iv (7 : Int32), rv w_OBJECT_GROUP, iv (1 : Int32)] [(.int (1 : Int32))] _
   refine XS.iloadN X18.here hx rfl (hb hby at_131) rfl ?_
   show AT p e below T18 m 132 #[iv p0, iv (7 : Int32), rv w_OBJECT_GROUP, iv (1 : Int32)] [(.int (1 : Int32)), (.int (1 : Int32))] _
   refine XS.icmpNo X18.here hx rfl (hb hby at_132) rfl (XT.ii_ne_f ((by decide) : (1 : Int32) = (1 : Int32))) ?_
   show AT p e below T18 m 135 #[iv p0, iv (7 : Int32), rv w_OBJECT_GROUP, iv (1 : Int32)] [] _
   refine XS.iconst X18.here hx rfl (hb hby at_135) ?_
   show AT p e below T18 m 136 #[iv p0, iv (7 : Int32), rv w_OBJECT_GROUP, iv (1 : Int32)] [(.int (1 : Int32))] _
   refine XS.goto X18.here hx rfl (pc0 := 136) (pc' := 140) rfl (hb hby at_136) (by decide) (by decide) ?_
   show AT p e below T18 m 140 #[iv p0, iv (7 : Int32), rv w_OBJECT_GROUP, iv (1 : Int32)] [(.int (1 : Int32))] _
   exact retN X18 hx (t := .boolean) Bd.returns (by simp) (hb hby at_140) hr
  ·
   show Q0 Z p0 w_COMMUNITY w_OBJECT w_OBJECT_GROUP w_NAMESPACE w_USER w_TRUST_ANCHOR w_SERVICE_TYPE w_ACTION_GROUP w_USER_GROUP h0 n0 _ T18.heap _
   rw [e18]
   exact ⟨rfl, N18⟩
 ·
  obtain ⟨T19, X19, e19, st19⟩ := getS2 X0 hx hZ hown (host := "") (Or.inl (ow hw 22 rfl)) Via.refl e0 (S_ACTION_GROUP.ext O0.2) (g := (mkF m 121 #[iv p0, iv (8 : Int32), un, un] [])) rfl (hb hby at_121)
  obtain ⟨cq20, kq20, q20a, q20b, q20c⟩ := isOf hZ e19 (E_ACTION_GROUP.ext O0.2)
  obtain ⟨_, _, ⟨T20, L20, k20, n20⟩, -, X20, ⟨Lc20, hQ20, l20, y20, z20⟩, st20⟩ := X19.virtualBack hx (y := y1) (z := y1) hown (mvT hZ (ow hw 4 rfl)) (mvT hZ (ow hw 5 rfl)) (notFace_of_selects (args := #[]) (mvT hZ (ow hw 7 rfl))) (mvT hZ (ow hw 7 rfl)) (mvT hZ (ow hw 6 rfl)) (by decide) (backOf (W := 0) (rm1 l Z ar hw [] w_ACTION_GROUP w_COMMUNITY w_OBJECT w_OBJECT_GROUP w_NAMESPACE w_USER w_TRUST_ANCHOR w_SERVICE_TYPE w_ACTION_GROUP w_USER_GROUP h0 n0 O0 HW) hZ (ow hw 8 rfl) (ow hw 2 rfl) (by decide) (by decide)) q20a q20c (g := (mkF m 128 #[iv p0, iv (8 : Int32), rv w_ACTION_GROUP, iv (0 : Int32)] [(.ref w_ACTION_GROUP)])) rfl (by rw [hml]; rfl) (Steps.refl _) (argsL := []) (rest := []) (lenOf pd_0 rfl) rfl (by show 2 * 0 + _ ≤ _; exact Nat.le_of_eq rfl) (hb hby at_128) (fun _ _ => ⟨rfl, e19, (by decide : 0 + 0 ≤ _), (by decide : 0 + 0 ≤ _)⟩)
  dsimp only [Pt.U, Pt.locs, Pt.cells, Pt.slots] at X20 l20 y20 z20 st20 hQ20
  subst l20 y20 z20
  obtain ⟨rfl, N20q, e20⟩ := hQ20
  have N20 := Fr.app N0 N20q
  have r20 : (f1 w_ACTION_GROUP w_OBJECT w_OBJECT_GROUP) = (0 : Int32) := by rw [f1, if_neg ((Fld.ne F_ordinal_ACTION_GROUP F_ordinal_OBJECT (by decide)) : ¬ (w_ACTION_GROUP = w_OBJECT)), if_neg ((Fld.ne F_ordinal_ACTION_GROUP F_ordinal_OBJECT_GROUP (by decide)) : ¬ (w_ACTION_GROUP = w_OBJECT_GROUP))] <;> decide
  rw [r20] at st20
  obtain ⟨fs, hr, hrun, hended, hW, hsame⟩ := X20.leave (v := some (.int (1 : Int32))) (fun h => by rw [Bd.returns] at h; cases h)
  subst hS0
  refine ⟨_, _, pre2 _ ?_, hrun, hended, _, _, rfl, ?_, ⟨_, rfl⟩, hW, hsame.mono (by decide) (by decide)⟩
  ·
   refine XS.iloadN X0.here hx rfl (hb hby at_8) rfl ?_
   show AT p e below s₁ m 9 #[iv p0, iv (8 : Int32), un, un] [(.int (8 : Int32))] _
   refine XS.ifYes X0.here hx rfl (pc0 := 9) (pc' := 21) rfl (hb hby at_9) rfl (XT.i0_ne_t ((by decide) : ¬ ((8 : Int32) = (0 : Int32)))) (by decide) (by decide) ?_
   show AT p e below s₁ m 21 #[iv p0, iv (8 : Int32), un, un] [] _
   refine XS.iloadN X0.here hx rfl (hb hby at_21) rfl ?_
   show AT p e below s₁ m 22 #[iv p0, iv (8 : Int32), un, un] [(.int (8 : Int32))] _
   refine XS.iconst X0.here hx rfl (hb hby at_22) ?_
   show AT p e below s₁ m 23 #[iv p0, iv (8 : Int32), un, un] [(.int (1 : Int32)), (.int (8 : Int32))] _
   refine XS.icmpYes X0.here hx rfl (pc0 := 23) (pc' := 35) rfl (hb hby at_23) rfl (XT.ii_ne_t ((by decide) : ¬ ((8 : Int32) = (1 : Int32)))) (by decide) (by decide) ?_
   show AT p e below s₁ m 35 #[iv p0, iv (8 : Int32), un, un] [] _
   refine XS.iloadN X0.here hx rfl (hb hby at_35) rfl ?_
   show AT p e below s₁ m 36 #[iv p0, iv (8 : Int32), un, un] [(.int (8 : Int32))] _
   refine XS.iconst X0.here hx rfl (hb hby at_36) ?_
   show AT p e below s₁ m 37 #[iv p0, iv (8 : Int32), un, un] [(.int (2 : Int32)), (.int (8 : Int32))] _
   refine XS.icmpYes X0.here hx rfl (pc0 := 37) (pc' := 49) rfl (hb hby at_37) rfl (XT.ii_ne_t ((by decide) : ¬ ((8 : Int32) = (2 : Int32)))) (by decide) (by decide) ?_
   show AT p e below s₁ m 49 #[iv p0, iv (8 : Int32), un, un] [] _
   refine XS.iloadN X0.here hx rfl (hb hby at_49) rfl ?_
   show AT p e below s₁ m 50 #[iv p0, iv (8 : Int32), un, un] [(.int (8 : Int32))] _
   refine XS.iconst X0.here hx rfl (hb hby at_50) ?_
   show AT p e below s₁ m 51 #[iv p0, iv (8 : Int32), un, un] [(.int (3 : Int32)), (.int (8 : Int32))] _
   refine XS.icmpYes X0.here hx rfl (pc0 := 51) (pc' := 63) rfl (hb hby at_51) rfl (XT.ii_ne_t ((by decide) : ¬ ((8 : Int32) = (3 : Int32)))) (by decide) (by decide) ?_
   show AT p e below s₁ m 63 #[iv p0, iv (8 : Int32), un, un] [] _
   refine XS.iloadN X0.here hx rfl (hb hby at_63) rfl ?_
   show AT p e below s₁ m 64 #[iv p0, iv (8 : Int32), un, un] [(.int (8 : Int32))] _
   refine XS.iconst X0.here hx rfl (hb hby at_64) ?_
   show AT p e below s₁ m 65 #[iv p0, iv (8 : Int32), un, un] [(.int (4 : Int32)), (.int (8 : Int32))] _
   refine XS.icmpYes X0.here hx rfl (pc0 := 65) (pc' := 77) rfl (hb hby at_65) rfl (XT.ii_ne_t ((by decide) : ¬ ((8 : Int32) = (4 : Int32)))) (by decide) (by decide) ?_
   show AT p e below s₁ m 77 #[iv p0, iv (8 : Int32), un, un] [] _
   refine XS.iloadN X0.here hx rfl (hb hby at_77) rfl ?_
   show AT p e below s₁ m 78 #[iv p0, iv (8 : Int32), un, un] [(.int (8 : Int32))] _
   refine XS.iconst X0.here hx rfl (hb hby at_78) ?_
   show AT p e below s₁ m 79 #[iv p0, iv (8 : Int32), un, un] [(.int (5 : Int32)), (.int (8 : Int32))] _
   refine XS.icmpYes X0.here hx rfl (pc0 := 79) (pc' := 91) rfl (hb hby at_79) rfl (XT.ii_ne_t ((by decide) : ¬ ((8 : Int32) = (5 : Int32)))) (by decide) (by decide) ?_
   show AT p e below s₁ m 91 #[iv p0, iv (8 : Int32), un, un] [] _
   refine XS.iloadN X0.here hx rfl (hb hby at_91) rfl ?_
   show AT p e below s₁ m 92 #[iv p0, iv (8 : Int32), un, un] [(.int (8 : Int32))] _
   refine XS.bipush X0.here hx rfl (hb hby at_92) ?_
   show AT p e below s₁ m 94 #[iv p0, iv (8 : Int32), un, un] [(.int (6 : Int32)), (.int (8 : Int32))] _
   refine XS.icmpYes X0.here hx rfl (pc0 := 94) (pc' := 106) rfl (hb hby at_94) rfl (XT.ii_ne_t ((by decide) : ¬ ((8 : Int32) = (6 : Int32)))) (by decide) (by decide) ?_
   show AT p e below s₁ m 106 #[iv p0, iv (8 : Int32), un, un] [] _
   refine XS.iloadN X0.here hx rfl (hb hby at_106) rfl ?_
   show AT p e below s₁ m 107 #[iv p0, iv (8 : Int32), un, un] [(.int (8 : Int32))] _
   refine XS.bipush X0.here hx rfl (hb hby at_107) ?_
   show AT p e below s₁ m 109 #[iv p0, iv (8 : Int32), un, un] [(.int (7 : Int32)), (.int (8 : Int32))] _
   refine XS.icmpYes X0.here hx rfl (pc0 := 109) (pc' := 121) rfl (hb hby at_109) rfl (XT.ii_ne_t ((by decide) : ¬ ((8 : Int32) = (7 : Int32)))) (by decide) (by decide) ?_
   show AT p e below s₁ m 121 #[iv p0, iv (8 : Int32), un, un] [] _
   refine st19 _ ?_
   show AT p e below T19 m 124 #[iv p0, iv (8 : Int32), un, un] [(.ref w_ACTION_GROUP)] _
   refine XS.astoreN X19.here hx rfl (hb hby at_124) rfl rfl (l' := #[iv p0, iv (8 : Int32), rv w_ACTION_GROUP, un]) rfl ?_
   show AT p e below T19 m 125 #[iv p0, iv (8 : Int32), rv w_ACTION_GROUP, un] [] _
   refine XS.iconst X19.here hx rfl (hb hby at_125) ?_
   show AT p e below T19 m 126 #[iv p0, iv (8 : Int32), rv w_ACTION_GROUP, un] [(.int (0 : Int32))] _
   refine XS.istoreN X19.here hx rfl (hb hby at_126) rfl (l' := #[iv p0, iv (8 : Int32), rv w_ACTION_GROUP, iv (0 : Int32)]) rfl ?_
   show AT p e below T19 m 127 #[iv p0, iv (8 : Int32), rv w_ACTION_GROUP, iv (0 : Int32)] [] _
   refine XS.aloadN X19.here hx rfl (hb hby at_127) rfl rfl ?_
   show AT p e below T19 m 128 #[iv p0, iv (8 : Int32), rv w_ACTION_GROUP, iv (0 : Int32)] [(.ref w_ACTION_GROUP)] _
   refine st20.trans ?_
   show AT p e below T20 m 131 #[iv p0, iv (8 : Int32), rv w_ACTION_GROUP, iv (0 : Int32)] [(.int (0 : Int32))] _
   refine XS.iloadN X20.here hx rfl (hb hby at_131) rfl ?_
   show AT p e below T20 m 132 #[iv p0, iv (8 : Int32), rv w_ACTION_GROUP, iv (0 : Int32)] [(.int (0 : Int32)), (.int (0 : Int32))] _
   refine XS.icmpNo X20.here hx rfl (hb hby at_132) rfl (XT.ii_ne_f ((by decide) : (0 : Int32) = (0 : Int32))) ?_
   show AT p e below T20 m 135 #[iv p0, iv (8 : Int32), rv w_ACTION_GROUP, iv (0 : Int32)] [] _
   refine XS.iconst X20.here hx rfl (hb hby at_135) ?_
   show AT p e below T20 m 136 #[iv p0, iv (8 : Int32), rv w_ACTION_GROUP, iv (0 : Int32)] [(.int (1 : Int32))] _
   refine XS.goto X20.here hx rfl (pc0 := 136) (pc' := 140) rfl (hb hby at_136) (by decide) (by decide) ?_
   show AT p e below T20 m 140 #[iv p0, iv (8 : Int32), rv w_ACTION_GROUP, iv (0 : Int32)] [(.int (1 : Int32))] _
   exact retN X20 hx (t := .boolean) Bd.returns (by simp) (hb hby at_140) hr
  ·
   show Q0 Z p0 w_COMMUNITY w_OBJECT w_OBJECT_GROUP w_NAMESPACE w_USER w_TRUST_ANCHOR w_SERVICE_TYPE w_ACTION_GROUP w_USER_GROUP h0 n0 _ T20.heap _
   rw [e20]
   exact ⟨rfl, N20⟩

set_option maxRecDepth 65536 in
set_option maxHeartbeats 40000000 in
theorem comes_1 {Post : Tables → Env → Array Value → State → Outcome → State → Prop} (hpost : ∀ tb e args s v u, (limb_1_1.after args s (.returned v) u = true ∧ limb_1_2.after args s (.returned v) u = true ∧ True) → FrameEnd s (.returned v) u (Jvm.fieldLocs frame_1_writes args s ++ Jvm.arrayLocs frame_1_arrays args s ++ Jvm.staticLocs frame_1_statics s) 0 0 → Post tb e args s (.returned v) u) :
    ArmFor flags0 classFile x code maxLocals ret World_1 tables_1 room_1 Calls_1 rest_1 Pre_1 Post := by
  intro l hfl _ _ p e ha hc hk s m args below hf hA hF happ hP
  obtain ⟨hcalls, hrest, hpre⟩ := hP
  obtain ⟨-, -, -, hnamed, -, -, -, hat⟩ := (Spec.applies_iff hf).mp happ
  obtain ⟨hg, hn⟩ := and_e (Cond.before_iff.mp (show (Jvm.Cond.and given_1 narrow_1).before args s = true from hpre))
  obtain ⟨hg1, hg2⟩ := and_e hg
  obtain ⟨w0, rfl⟩ : ∃ w0 : Value, args = #[w0] := by
    have hs : args.size = 1 := by simpa [Cond.value, given_1] using hg1
    obtain ⟨L⟩ := args
    match L, hs with
    | [w0], _ => exact ⟨w0, rfl⟩
  have hw := fun d (hd : d ∈ tables_1) => atoms_spec (ws := Jvm.Cond.code x code maxLocals ret :: tables_1) hat d (List.mem_cons_of_mem _ hd)
  have hfit : Fit s := fun {y c} hc i hi => by
    obtain ⟨ha, rfl⟩ := Array.getElem?_eq_some_iff.mp hc
    have q := List.all_eq_true.mp ((Array.all_eq_true_iff_forall_mem.mp hF) _ (Array.getElem_mem ha)) i (List.mem_range.mpr hi)
    simpa [Array.getElem?_eq_getElem hi] using q
  obtain ⟨i0, ei0⟩ := is_v hg2
  obtain rfl : w0 = (.int i0) := Option.some.inj ei0
  obtain ⟨hn1, hn2⟩ := and_e hn
  obtain ⟨hn21, hn22⟩ := and_e hn2
  obtain ⟨hn221, hn222⟩ := and_e hn22
  obtain ⟨hn2221, hn2222⟩ := and_e hn222
  obtain ⟨hn22221, hn22222⟩ := and_e hn2222
  obtain ⟨hn222221, hn222222⟩ := and_e hn22222
  obtain ⟨hn2222221, hn2222222⟩ := and_e hn222222
  obtain ⟨hn22222221, hn22222222⟩ := and_e hn2222222
  obtain ⟨hn222222221, hn222222222⟩ := and_e hn22222222
  obtain ⟨hn2222222221, hn2222222222⟩ := and_e hn222222222
  obtain ⟨hn22222222221, hn22222222222⟩ := and_e hn2222222222
  obtain ⟨hn222222222221, hn222222222222⟩ := and_e hn22222222222
  obtain ⟨hn2222222222221, hn2222222222222⟩ := and_e hn222222222222
  obtain ⟨hn22222222222221, hn22222222222222⟩ := and_e hn2222222222222
  obtain ⟨hn222222222222221, hn222222222222222⟩ := and_e hn22222222222222
  obtain ⟨hn2222222222222221, hn2222222222222222⟩ := and_e hn222222222222222
  obtain ⟨hn22222222222222221, hn22222222222222222⟩ := and_e hn2222222222222222
  obtain ⟨w_COMMUNITY, ev_w_COMMUNITY⟩ := exa_v hn1
  have S_COMMUNITY : Sta s s.heap "com/example/polity/polity/model/Entry$Kind" "COMMUNITY" "Lcom/example/polity/polity/model/Entry$Kind;" (.ref w_COMMUNITY) := Sta.start ev_w_COMMUNITY (Or.inr ⟨(ow hw 2 rfl), (ow hw 3 rfl)⟩)
  have E_COMMUNITY : Exa s s.heap w_COMMUNITY "com/example/polity/polity/model/Entry$Kind" := Exa.start ev_w_COMMUNITY hn1
  obtain ⟨w_OBJECT, ev_w_OBJECT⟩ := exa_v hn21
  have S_OBJECT : Sta s s.heap "com/example/polity/polity/model/Entry$Kind" "OBJECT" "Lcom/example/polity/polity/model/Entry$Kind;" (.ref w_OBJECT) := Sta.start ev_w_OBJECT (Or.inr ⟨(ow hw 2 rfl), (ow hw 10 rfl)⟩)
  have E_OBJECT : Exa s s.heap w_OBJECT "com/example/polity/polity/model/Entry$Kind" := Exa.start ev_w_OBJECT hn21
  have evhn221 := own_eqInt hn221
  have F_ordinal_COMMUNITY : Fld s s.heap w_COMMUNITY "java/lang/Enum" "ordinal" "I" (.int (0 : Int32)) := Fld.start ((fld_at ev_w_COMMUNITY).symm.trans evhn221)
  have evhn2221 := own_eqInt hn2221
  have F_ordinal_OBJECT : Fld s s.heap w_OBJECT "java/lang/Enum" "ordinal" "I" (.int (5 : Int32)) := Fld.start ((fld_at ev_w_OBJECT).symm.trans evhn2221)
  obtain ⟨w_OBJECT_GROUP, ev_w_OBJECT_GROUP⟩ := exa_v hn22221
  have S_OBJECT_GROUP : Sta s s.heap "com/example/polity/polity/model/Entry$Kind" "OBJECT_GROUP" "Lcom/example/polity/polity/model/Entry$Kind;" (.ref w_OBJECT_GROUP) := Sta.start ev_w_OBJECT_GROUP (Or.inr ⟨(ow hw 2 rfl), (ow hw 12 rfl)⟩)
  have E_OBJECT_GROUP : Exa s s.heap w_OBJECT_GROUP "com/example/polity/polity/model/Entry$Kind" := Exa.start ev_w_OBJECT_GROUP hn22221
  have evhn222221 := own_eqInt hn222221
  have F_ordinal_OBJECT_GROUP : Fld s s.heap w_OBJECT_GROUP "java/lang/Enum" "ordinal" "I" (.int (7 : Int32)) := Fld.start ((fld_at ev_w_OBJECT_GROUP).symm.trans evhn222221)
  obtain ⟨w_NAMESPACE, ev_w_NAMESPACE⟩ := exa_v hn2222221
  have S_NAMESPACE : Sta s s.heap "com/example/polity/polity/model/Entry$Kind" "NAMESPACE" "Lcom/example/polity/polity/model/Entry$Kind;" (.ref w_NAMESPACE) := Sta.start ev_w_NAMESPACE (Or.inr ⟨(ow hw 2 rfl), (ow hw 14 rfl)⟩)
  have E_NAMESPACE : Exa s s.heap w_NAMESPACE "com/example/polity/polity/model/Entry$Kind" := Exa.start ev_w_NAMESPACE hn2222221
  have evhn22222221 := own_eqInt hn22222221
  have F_ordinal_NAMESPACE : Fld s s.heap w_NAMESPACE "java/lang/Enum" "ordinal" "I" (.int (3 : Int32)) := Fld.start ((fld_at ev_w_NAMESPACE).symm.trans evhn22222221)
  obtain ⟨w_USER, ev_w_USER⟩ := exa_v hn222222221
  have S_USER : Sta s s.heap "com/example/polity/polity/model/Entry$Kind" "USER" "Lcom/example/polity/polity/model/Entry$Kind;" (.ref w_USER) := Sta.start ev_w_USER (Or.inr ⟨(ow hw 2 rfl), (ow hw 16 rfl)⟩)
  have E_USER : Exa s s.heap w_USER "com/example/polity/polity/model/Entry$Kind" := Exa.start ev_w_USER hn222222221
  have evhn2222222221 := own_eqInt hn2222222221
  have F_ordinal_USER : Fld s s.heap w_USER "java/lang/Enum" "ordinal" "I" (.int (2 : Int32)) := Fld.start ((fld_at ev_w_USER).symm.trans evhn2222222221)
  obtain ⟨w_TRUST_ANCHOR, ev_w_TRUST_ANCHOR⟩ := exa_v hn22222222221
  have S_TRUST_ANCHOR : Sta s s.heap "com/example/polity/polity/model/Entry$Kind" "TRUST_ANCHOR" "Lcom/example/polity/polity/model/Entry$Kind;" (.ref w_TRUST_ANCHOR) := Sta.start ev_w_TRUST_ANCHOR (Or.inr ⟨(ow hw 2 rfl), (ow hw 18 rfl)⟩)
  have E_TRUST_ANCHOR : Exa s s.heap w_TRUST_ANCHOR "com/example/polity/polity/model/Entry$Kind" := Exa.start ev_w_TRUST_ANCHOR hn22222222221
  have evhn222222222221 := own_eqInt hn222222222221
  have F_ordinal_TRUST_ANCHOR : Fld s s.heap w_TRUST_ANCHOR "java/lang/Enum" "ordinal" "I" (.int (1 : Int32)) := Fld.start ((fld_at ev_w_TRUST_ANCHOR).symm.trans evhn222222222221)
  obtain ⟨w_SERVICE_TYPE, ev_w_SERVICE_TYPE⟩ := exa_v hn2222222222221
  have S_SERVICE_TYPE : Sta s s.heap "com/example/polity/polity/model/Entry$Kind" "SERVICE_TYPE" "Lcom/example/polity/polity/model/Entry$Kind;" (.ref w_SERVICE_TYPE) := Sta.start ev_w_SERVICE_TYPE (Or.inr ⟨(ow hw 2 rfl), (ow hw 21 rfl)⟩)
  have E_SERVICE_TYPE : Exa s s.heap w_SERVICE_TYPE "com/example/polity/polity/model/Entry$Kind" := Exa.start ev_w_SERVICE_TYPE hn2222222222221
  have evhn22222222222221 := own_eqInt hn22222222222221
  have F_ordinal_SERVICE_TYPE : Fld s s.heap w_SERVICE_TYPE "java/lang/Enum" "ordinal" "I" (.int (4 : Int32)) := Fld.start ((fld_at ev_w_SERVICE_TYPE).symm.trans evhn22222222222221)
  obtain ⟨w_ACTION_GROUP, ev_w_ACTION_GROUP⟩ := exa_v hn222222222222221
  have S_ACTION_GROUP : Sta s s.heap "com/example/polity/polity/model/Entry$Kind" "ACTION_GROUP" "Lcom/example/polity/polity/model/Entry$Kind;" (.ref w_ACTION_GROUP) := Sta.start ev_w_ACTION_GROUP (Or.inr ⟨(ow hw 2 rfl), (ow hw 23 rfl)⟩)
  have E_ACTION_GROUP : Exa s s.heap w_ACTION_GROUP "com/example/polity/polity/model/Entry$Kind" := Exa.start ev_w_ACTION_GROUP hn222222222222221
  have evhn2222222222222221 := own_eqInt hn2222222222222221
  have F_ordinal_ACTION_GROUP : Fld s s.heap w_ACTION_GROUP "java/lang/Enum" "ordinal" "I" (.int (8 : Int32)) := Fld.start ((fld_at ev_w_ACTION_GROUP).symm.trans evhn2222222222222221)
  obtain ⟨w_USER_GROUP, ev_w_USER_GROUP⟩ := exa_v hn22222222222222221
  have S_USER_GROUP : Sta s s.heap "com/example/polity/polity/model/Entry$Kind" "USER_GROUP" "Lcom/example/polity/polity/model/Entry$Kind;" (.ref w_USER_GROUP) := Sta.start ev_w_USER_GROUP (Or.inr ⟨(ow hw 2 rfl), (ow hw 25 rfl)⟩)
  have E_USER_GROUP : Exa s s.heap w_USER_GROUP "com/example/polity/polity/model/Entry$Kind" := Exa.start ev_w_USER_GROUP hn22222222222222221
  have evhn22222222222222222 := own_eqInt hn22222222222222222
  have F_ordinal_USER_GROUP : Fld s s.heap w_USER_GROUP "java/lang/Enum" "ordinal" "I" (.int (6 : Int32)) := Fld.start ((fld_at ev_w_USER_GROUP).symm.trans evhn22222222222222222)
  have HW : Wd s w_COMMUNITY w_OBJECT w_OBJECT_GROUP w_NAMESPACE w_USER w_TRUST_ANCHOR w_SERVICE_TYPE w_ACTION_GROUP w_USER_GROUP := ⟨S_COMMUNITY, E_COMMUNITY, S_OBJECT, E_OBJECT, F_ordinal_COMMUNITY, F_ordinal_OBJECT, S_OBJECT_GROUP, E_OBJECT_GROUP, F_ordinal_OBJECT_GROUP, S_NAMESPACE, E_NAMESPACE, F_ordinal_NAMESPACE, S_USER, E_USER, F_ordinal_USER, S_TRUST_ANCHOR, E_TRUST_ANCHOR, F_ordinal_TRUST_ANCHOR, S_SERVICE_TYPE, E_SERVICE_TYPE, F_ordinal_SERVICE_TYPE, S_ACTION_GROUP, E_ACTION_GROUP, F_ordinal_ACTION_GROUP, S_USER_GROUP, E_USER_GROUP, F_ordinal_USER_GROUP⟩
  obtain ⟨n, o, h1, h2, h3, _, L, rfl, ⟨rfl, N⟩, hq⟩ := rm0 l s _ hw tables_1 i0 w_COMMUNITY w_OBJECT w_OBJECT_GROUP w_NAMESPACE w_USER w_TRUST_ANCHOR w_SERVICE_TYPE w_ACTION_GROUP w_USER_GROUP s.heap s.heap.size (Old.start s) HW p e ha hc hk s m _ below hf ((Spec.applies_iff_loose hf).mp happ).1 ⟨rfl, State.Warmed39.refl s, rfl⟩ trivial
  refine ⟨n, _, h1, h2, h3, hpost _ _ _ _ _ _ ⟨Cond.after_iff.mpr rfl, Cond.after_iff.mpr (eq_i res_at (Term.int_eval (1)) rfl), trivial⟩ ⟨hq.1, hq.2.1, (hq.2.2.sift fun y hy => Or.inr (N y hy)).mono (by decide) (by decide)⟩⟩
theorem main_1_1 : Claimed_1_1 := comes_1 fun _ _ _ _ _ _ h hF => ⟨h.1, hF⟩
theorem main_1_2 : Claimed_1_2 := comes_1 fun _ _ _ _ _ _ h hF => ⟨h.2.1, hF⟩
end Jvm.Pilot.@@N@@
namespace Jvm.Pilot.@@N@@
open Jvm Jvm.ClassFile Sem Op Lib Jvm.Free Jvm.Stand Jvm.Pilot.@@N@@.Jvm.D
/-! MADE BY PROGRAM (witnessworld.py) out of the Statement's table words and the real class files: 12 classes; the members and pool entries that the words name. The judged class is class 1, her method 1. -/
namespace start1
open Jvm.ClassFile
def u (s : String) : CpInfo := .utf8 (stringToUtf16 s)
/-- a pool by its gaps: so many unusable entries, then the entry; so many at the end -/
def gap : Nat → List CpInfo → List CpInfo
  | 0, r => r
  | n + 1, r => .unusable :: gap n r
def poolList (es : List (Nat × CpInfo)) (last : Nat) : List CpInfo := es.foldr (fun e r => gap e.1 (e.2 :: r)) (gap last [])
def pool (es : List (Nat × CpInfo)) (last : Nat) : Array CpInfo := ⟨poolList es last⟩
def fileOf (pool : Array CpInfo) (this : Nat) (attrs : Array Attribute := #[]) (ms : Array MethodInfo := #[]) (fl : Nat := 33) (sup : Nat := 0) (ifs : Array Nat := #[]) (fds : Array FieldInfo := #[]) : ClassFile where
  minorVersion := 0
  majorVersion := 65
  constantPool := pool
  accessFlags := fl
  thisClass := this
  superClass := sup
  interfaces := ifs
  fields := fds
  methods := ms
  attributes := attrs
def plain (name : String) (sup : Option ClassId) : Class where
  name := name
  kind := .ordinary
  loader := none
  accessFlags := 33
  super := sup
  interfaces := #[]
  cf := none
  fields := #[]
  methods := #[]
  instanceTypes := #[]
  staticTypes := #[]
  resolved := #[]
  callSites := []
  init := .initialized
  statics := none
  mirror := none

def pool0 : Array CpInfo := pool [(5, u "<init>"), (0, u "()V"), (1, .class_ 10), (1, u "java/lang/Object")] 113

def k0m0 : Method := { name := "<init>", desc := "()V", sig := { parameters := [], returnType := none }, accessFlags := 1, code := none }
/-- java/lang/Object -/
def k0 : Class := { plain "java/lang/Object" none with
  accessFlags := 33
  interfaces := #[]
  cf := some (fileOf pool0 8 #[] #[{ accessFlags := 1, nameIndex := 5, descriptorIndex := 6, attributes := #[] }] 33 0 #[] #[])
  fields := #[]
  methods := #[k0m0]
  instanceTypes := #[]
  staticTypes := #[]
  resolved := Array.replicate 124 none
  statics := none }

def pool1 : Array CpInfo := pool [(2, .class_ 4), (1, u "java/lang/Object"), (0, u "<init>"), (0, u "()V"), (0, .integer 2147483647), (0, .fieldref 9 10), (0, .class_ 11), (0, .nameAndType 12 13), (0, u "com/example/polity/polity/model/Entry$Kind"), (0, u "COMMUNITY"), (0, u "Lcom/example/polity/polity/model/Entry$Kind;"), (0, .fieldref 9 15), (0, .nameAndType 16 13), (0, u "TRUST_ANCHOR"), (0, .fieldref 9 18), (0, .nameAndType 19 13), (0, u "USER"), (0, .fieldref 9 21), (0, .nameAndType 22 13), (0, u "NAMESPACE"), (0, .fieldref 9 24), (0, .nameAndType 25 13), (0, u "SERVICE_TYPE"), (0, .fieldref 9 27), (0, .nameAndType 28 13), (0, u "OBJECT"), (0, .fieldref 9 30), (0, .nameAndType 31 13), (0, u "USER_GROUP"), (0, .fieldref 9 33), (0, .nameAndType 34 13), (0, u "OBJECT_GROUP"), (0, .fieldref 9 36), (0, .nameAndType 37 13), (0, u "ACTION_GROUP"), (0, .methodref 9 39), (0, .nameAndType 40 41), (0, u "standsForObjects"), (0, u "()Z"), (0, .class_ 43), (0, u "com/example/polity/polity/model/KindStandsForObjectsPinLaw"), (2, u "law"), (0, u "(I)Z")] 7

def k1m0 : Method := { name := "<init>", desc := "()V", sig := { parameters := [], returnType := none }, accessFlags := 2, code := none }
def k1c1 : Code := { maxStack := 2, maxLocals := 4, code := code, exceptionTable := #[], attributes := #[] }
def k1m1 : Method := { name := "law", desc := "(I)Z", sig := { parameters := [.int], returnType := some .boolean }, accessFlags := 9, code := some k1c1 }
/-- com/example/polity/polity/model/KindStandsForObjectsPinLaw -/
def k1 : Class := { plain "com/example/polity/polity/model/KindStandsForObjectsPinLaw" (some 0) with
  accessFlags := 49
  interfaces := #[]
  cf := some (fileOf pool1 42 #[] #[{ accessFlags := 2, nameIndex := 5, descriptorIndex := 6, attributes := #[] }, { accessFlags := 9, nameIndex := 46, descriptorIndex := 47, attributes := #[] }] 49 2 #[] #[])
  fields := #[]
  methods := #[k1m0, k1m1]
  instanceTypes := #[]
  staticTypes := #[]
  resolved := Array.replicate 55 none
  statics := none }

def pool2 : Array CpInfo := pool [(1, .class_ 2), (0, u "java/lang/constant/Constable"), (0, .class_ 4), (0, u "java/lang/Object")] 6

/-- java/lang/constant/Constable -/
def k2 : Class := { plain "java/lang/constant/Constable" (some 0) with
  accessFlags := 1537
  interfaces := #[]
  cf := some (fileOf pool2 1 #[] #[] 1537 3 #[] #[])
  fields := #[]
  methods := #[]
  instanceTypes := #[]
  staticTypes := #[]
  resolved := Array.replicate 11 none
  statics := none }

def pool3 : Array CpInfo := pool [(1, .class_ 2), (0, u "java/lang/Comparable"), (0, .class_ 4), (0, u "java/lang/Object")] 7

/-- java/lang/Comparable -/
def k3 : Class := { plain "java/lang/Comparable" (some 0) with
  accessFlags := 1537
  interfaces := #[]
  cf := some (fileOf pool3 1 #[] #[] 1537 3 #[] #[])
  fields := #[]
  methods := #[]
  instanceTypes := #[]
  staticTypes := #[]
  resolved := Array.replicate 12 none
  statics := none }

def pool4 : Array CpInfo := pool [(1, .class_ 2), (0, u "java/io/Serializable"), (0, .class_ 4), (0, u "java/lang/Object")] 2

/-- java/io/Serializable -/
def k4 : Class := { plain "java/io/Serializable" (some 0) with
  accessFlags := 1537
  interfaces := #[]
  cf := some (fileOf pool4 1 #[] #[] 1537 3 #[] #[])
  fields := #[]
  methods := #[]
  instanceTypes := #[]
  staticTypes := #[]
  resolved := Array.replicate 7 none
  statics := none }

def pool5 : Array CpInfo := pool [(2, .class_ 4), (1, u "java/lang/Enum"), (0, u "name"), (0, u "Ljava/lang/String;"), (2, u "ordinal"), (0, u "I"), (1, .class_ 14), (1, u "java/lang/Object"), (4, u "hash"), (86, .class_ 108), (1, u "java/lang/Enum$EnumDesc"), (2, .class_ 112), (0, u "java/lang/constant/Constable"), (0, .class_ 114), (0, u "java/lang/Comparable"), (0, .class_ 116), (0, u "java/io/Serializable")] 87

/-- java/lang/Enum -/
def k5 : Class := { plain "java/lang/Enum" (some 0) with
  accessFlags := 1057
  interfaces := #[2, 3, 4]
  cf := some (fileOf pool5 2 #[.nestMembers #[106]] #[] 1057 12 #[111, 113, 115] #[{ accessFlags := 18, nameIndex := 5, descriptorIndex := 6, attributes := #[] }, { accessFlags := 18, nameIndex := 9, descriptorIndex := 10, attributes := #[] }, { accessFlags := 2, nameIndex := 19, descriptorIndex := 10, attributes := #[] }])
  fields := #[{ name := "name", type := (.object "java/lang/String"), accessFlags := 18, slot := 0, constantValue := 0 }, { name := "ordinal", type := .int, accessFlags := 18, slot := 1, constantValue := 0 }, { name := "hash", type := .int, accessFlags := 2, slot := 2, constantValue := 0 }]
  methods := #[]
  instanceTypes := #[(.object "java/lang/String"), .int, .int]
  staticTypes := #[]
  resolved := Array.replicate 204 none
  statics := none }

def pool6 : Array CpInfo := pool [(1, .class_ 2), (0, u "com/example/polity/polity/model/Entry$Kind"), (2, u "COMMUNITY"), (0, u "Lcom/example/polity/polity/model/Entry$Kind;"), (2, u "TRUST_ANCHOR"), (2, u "USER"), (2, u "NAMESPACE"), (2, u "SERVICE_TYPE"), (0, .fieldref 1 20), (0, .nameAndType 21 6), (0, u "OBJECT"), (2, u "USER_GROUP"), (0, .fieldref 1 26), (0, .nameAndType 27 6), (0, u "OBJECT_GROUP"), (2, u "ACTION_GROUP"), (2, u "$VALUES"), (0, u "[Lcom/example/polity/polity/model/Entry$Kind;"), (6, .class_ 43), (1, u "java/lang/Enum"), (8, u "noun"), (0, u "Ljava/lang/String;"), (43, u "()Z"), (1, u "standsForObjects"), (6, .class_ 107), (0, u "com/example/polity/polity/model/Entry")] 2

def k6c0 : Code := { maxStack := 2, maxLocals := 1, code := prog_30_method_6_code, exceptionTable := #[], attributes := #[] }
def k6m0 : Method := { name := "standsForObjects", desc := "()Z", sig := { parameters := [], returnType := some .boolean }, accessFlags := 1, code := some k6c0 }
/-- com/example/polity/polity/model/Entry$Kind -/
def k6 : Class := { plain "com/example/polity/polity/model/Entry$Kind" (some 5) with
  accessFlags := 16433
  interfaces := #[]
  cf := some (fileOf pool6 1 #[.nestHost 106] #[{ accessFlags := 1, nameIndex := 99, descriptorIndex := 97, attributes := #[] }] 16433 41 #[] #[{ accessFlags := 16409, nameIndex := 5, descriptorIndex := 6, attributes := #[] }, { accessFlags := 16409, nameIndex := 9, descriptorIndex := 6, attributes := #[] }, { accessFlags := 16409, nameIndex := 12, descriptorIndex := 6, attributes := #[] }, { accessFlags := 16409, nameIndex := 15, descriptorIndex := 6, attributes := #[] }, { accessFlags := 16409, nameIndex := 18, descriptorIndex := 6, attributes := #[] }, { accessFlags := 16409, nameIndex := 21, descriptorIndex := 6, attributes := #[] }, { accessFlags := 16409, nameIndex := 24, descriptorIndex := 6, attributes := #[] }, { accessFlags := 16409, nameIndex := 27, descriptorIndex := 6, attributes := #[] }, { accessFlags := 16409, nameIndex := 30, descriptorIndex := 6, attributes := #[] }, { accessFlags := 18, nameIndex := 52, descriptorIndex := 53, attributes := #[] }, { accessFlags := 4122, nameIndex := 33, descriptorIndex := 34, attributes := #[] }])
  fields := #[{ name := "COMMUNITY", type := (.object "com/example/polity/polity/model/Entry$Kind"), accessFlags := 16409, slot := 0, constantValue := 0 }, { name := "TRUST_ANCHOR", type := (.object "com/example/polity/polity/model/Entry$Kind"), accessFlags := 16409, slot := 1, constantValue := 0 }, { name := "USER", type := (.object "com/example/polity/polity/model/Entry$Kind"), accessFlags := 16409, slot := 2, constantValue := 0 }, { name := "NAMESPACE", type := (.object "com/example/polity/polity/model/Entry$Kind"), accessFlags := 16409, slot := 3, constantValue := 0 }, { name := "SERVICE_TYPE", type := (.object "com/example/polity/polity/model/Entry$Kind"), accessFlags := 16409, slot := 4, constantValue := 0 }, { name := "OBJECT", type := (.object "com/example/polity/polity/model/Entry$Kind"), accessFlags := 16409, slot := 5, constantValue := 0 }, { name := "USER_GROUP", type := (.object "com/example/polity/polity/model/Entry$Kind"), accessFlags := 16409, slot := 6, constantValue := 0 }, { name := "OBJECT_GROUP", type := (.object "com/example/polity/polity/model/Entry$Kind"), accessFlags := 16409, slot := 7, constantValue := 0 }, { name := "ACTION_GROUP", type := (.object "com/example/polity/polity/model/Entry$Kind"), accessFlags := 16409, slot := 8, constantValue := 0 }, { name := "noun", type := (.object "java/lang/String"), accessFlags := 18, slot := 3, constantValue := 0 }, { name := "$VALUES", type := (.array (.object "com/example/polity/polity/model/Entry$Kind")), accessFlags := 4122, slot := 9, constantValue := 0 }]
  methods := #[k6m0]
  instanceTypes := #[(.object "java/lang/String"), .int, .int, (.object "java/lang/String")]
  staticTypes := #[(.object "com/example/polity/polity/model/Entry$Kind"), (.object "com/example/polity/polity/model/Entry$Kind"), (.object "com/example/polity/polity/model/Entry$Kind"), (.object "com/example/polity/polity/model/Entry$Kind"), (.object "com/example/polity/polity/model/Entry$Kind"), (.object "com/example/polity/polity/model/Entry$Kind"), (.object "com/example/polity/polity/model/Entry$Kind"), (.object "com/example/polity/polity/model/Entry$Kind"), (.object "com/example/polity/polity/model/Entry$Kind"), (.array (.object "com/example/polity/polity/model/Entry$Kind"))]
  resolved := Array.replicate 110 none
  statics := some 0 }

def pool7 : Array CpInfo := pool [(1, u "java/lang/Cloneable"), (0, .class_ 1), (0, u "java/lang/Object"), (0, .class_ 3)] 3

/-- java/lang/Cloneable -/
def k7 : Class := { plain "java/lang/Cloneable" (some 0) with
  accessFlags := 1537
  interfaces := #[]
  cf := some (fileOf pool7 2 #[] #[] 1537 4 #[] #[])
  fields := #[]
  methods := #[]
  instanceTypes := #[]
  staticTypes := #[]
  resolved := Array.replicate 8 none
  statics := none }

/-- the primitive byte -/
def k8 : Class := { plain "byte" none with kind := .primitive 'B', accessFlags := 0x411 }
/-- [B -/
def k9 : Class := { plain "[B" (some 0) with kind := .array 8 .byte, interfaces := #[7, 4], accessFlags := 1041 }

/-- the primitive int -/
def k10 : Class := { plain "int" none with kind := .primitive 'I', accessFlags := 0x411 }
/-- [I -/
def k11 : Class := { plain "[I" (some 0) with kind := .array 10 .int, interfaces := #[7, 4], accessFlags := 1041 }

def heap : Heap := #[{ cls := 6, slots := #[.ref 1, .ref 6, .ref 5, .ref 4, .ref 7, .ref 2, .ref 9, .ref 3, .ref 8, .null], vm := .statics 6 },
  { cls := 6, slots := #[.null, .int 0, .int 0, .null], vm := .none },
  { cls := 6, slots := #[.null, .int 5, .int 0, .null], vm := .none },
  { cls := 6, slots := #[.null, .int 7, .int 0, .null], vm := .none },
  { cls := 6, slots := #[.null, .int 3, .int 0, .null], vm := .none },
  { cls := 6, slots := #[.null, .int 2, .int 0, .null], vm := .none },
  { cls := 6, slots := #[.null, .int 1, .int 0, .null], vm := .none },
  { cls := 6, slots := #[.null, .int 4, .int 0, .null], vm := .none },
  { cls := 6, slots := #[.null, .int 8, .int 0, .null], vm := .none },
  { cls := 6, slots := #[.null, .int 6, .int 0, .null], vm := .none }]
def classes : Array Class := #[k0, k1, k2, k3, k4, k5, k6, k7, k8, k9, k10, k11]
def interned : List (Array UInt16 × Addr) := []
def slotsUsed : Nat := 46
def theMethod : MethodId := ⟨1, 1⟩
def args0 : Array Value := #[.int 5]
def aboutOver (below : List Frame) : State where
  vm := { classes := classes, interned := interned.toArray }
  heap := heap
  slotsUsed := slotsUsed
  threads := #[{ frames := .invoking theMethod args0 :: below }]
def below0 : List Frame := [.native { method := ⟨0, 0⟩, args := #[] }]
def about1 : State := aboutOver below0
def p0 : Program := .bare "" "" ""
def e0 : Env := launch0.env 0 0 0
theorem w_frames : about1.frames = Frame.invoking theMethod args0 :: below0 := rfl
set_option maxRecDepth 65536 in
theorem w_args : argsFit about1.vm theMethod args0 = true := by decide +kernel
set_option maxRecDepth 65536 in
theorem w_heap : heapFits about1 = true := by decide +kernel
set_option maxRecDepth 65536 in
theorem w_runnable : about1.curStatus? = some .runnable := by decide +kernel
set_option maxRecDepth 65536 in
theorem w_alone : about1.alone = true := by decide +kernel
set_option maxRecDepth 65536 in
theorem w_named : about1.methodNamed? x = some theMethod := by decide +kernel
set_option maxRecDepth 65536 in
theorem w_hears : about1.hears theMethod below0 = true := by decide +kernel
set_option maxRecDepth 65536 in
theorem w_ripe : about1.ripe theMethod args0 below0 = true := by decide +kernel
theorem w_running : about1.status = .running := rfl
set_option maxRecDepth 65536 in
theorem w_room : about1.hasRoom e0.platform room_1 = true :=
  launch0.hasRoom_least _ room_1 (by decide +kernel) (by decide +kernel) (by decide +kernel) (by decide +kernel) (by decide +kernel) (by decide +kernel)
theorem allAtoms_all (ts : List Jvm.Cond) (a : Array Jvm.Value) (st : Jvm.State) : (allAtoms ts).before a st = ts.all (fun c => c.before a st) := by
  induction ts with
  | nil => rfl
  | cons c t ih =>
    show (Jvm.Cond.and c (allAtoms t)).before a st = _
    rw [Jvm.Cond.before_and, ih, List.all_cons]
def words1 : List Jvm.Cond := Jvm.Cond.code x code maxLocals ret :: tables_1
/-- a 'code' word, met by the world's own term for the bytes: nothing is compared byte by byte -/
theorem code_word {y : MethodName} {bytes : ByteArray} {mx : Nat} {rt : Option FieldType} {a : Array Value} {s : State} {m : MethodId} {meth : Method} {c : Code} (h1 : s.methodNamed? y = some m) (h2 : s.vm.method? m = some meth) (h3 : meth.code = some c) (h4 : c.code = bytes)
    (h5 : (c.maxLocals == mx && c.exceptionTable.isEmpty && decide (c.maxStack ≤ mostOperands) && decide (meth.sig.returnType = rt) && !meth.locks && decide (parseMethodDescriptor y.desc = some meth.sig)) = true) : (Jvm.Cond.code y bytes mx rt).before a s = true := by
  simp only [Bool.and_eq_true, beq_iff_eq, Bool.not_eq_true', decide_eq_true_eq] at h5
  obtain ⟨⟨⟨⟨⟨g1, g2⟩, g3⟩, g4⟩, g5⟩, g6⟩ := h5
  simp [Cond.before, Cond.holds, Cond.value, h1, h2, h3, h4, g1, g2, g3, g4, g5, g6]
def isCode : Jvm.Cond → Bool
  | .code _ _ _ _ => true
  | _ => false
theorem all_split {L : List Jvm.Cond} {P : Jvm.Cond → Bool} (h1 : L.all (fun c => isCode c || P c) = true) (h2 : ∀ c ∈ L.filter isCode, P c = true) : L.all P = true := by
  refine List.all_eq_true.mpr fun c hc => ?_
  have h := List.all_eq_true.mp h1 c hc
  rcases Bool.eq_false_or_eq_true (isCode c) with hi | hi
  · exact h2 c (List.mem_filter.mpr ⟨hc, hi⟩)
  · simpa [hi] using h
set_option maxRecDepth 65536 in
theorem w_c0 : (Jvm.Cond.code x code maxLocals ret).before args0 about1 = true := code_word (m := ⟨1, 1⟩) (meth := k1m1) (c := k1c1) (by decide +kernel) rfl rfl rfl (by decide +kernel)
set_option maxRecDepth 65536 in
theorem w_c1 : (Jvm.Cond.code ({ cls := "com/example/polity/polity/model/Entry$Kind", name := "standsForObjects", desc := "()Z" } : Jvm.MethodName) prog_30_method_6_code (1 : Nat) (Option.some Jvm.ClassFile.FieldType.boolean)).before args0 about1 = true := code_word (m := ⟨6, 0⟩) (meth := k6m0) (c := k6c0) (by decide +kernel) rfl rfl rfl (by decide +kernel)
def codes1 : List Jvm.Cond := [Jvm.Cond.code x code maxLocals ret, Jvm.Cond.code ({ cls := "com/example/polity/polity/model/Entry$Kind", name := "standsForObjects", desc := "()Z" } : Jvm.MethodName) prog_30_method_6_code (1 : Nat) (Option.some Jvm.ClassFile.FieldType.boolean)]
set_option maxRecDepth 65536 in
theorem codes_eq : words1.filter isCode = codes1 := rfl
theorem w_codes : ∀ c ∈ words1.filter isCode, c.before args0 about1 = true := by
  rw [codes_eq]
  intro c hc
  simp only [codes1, List.mem_cons, List.not_mem_nil, or_false] at hc
  rcases hc with rfl | rfl
  · exact w_c0
  · exact w_c1
set_option maxRecDepth 65536 in
theorem w_t1 : (words1.take 24).all (fun c => isCode c || c.before args0 about1) = true := by decide +kernel
set_option maxRecDepth 65536 in
theorem w_t2 : (words1.drop 24).all (fun c => isCode c || c.before args0 about1) = true := by decide +kernel
theorem w_tables : (allAtoms (Jvm.Cond.code x code maxLocals ret :: tables_1)).before args0 about1 = true := by
  rw [allAtoms_all]
  show words1.all (fun c => c.before args0 about1) = true
  refine all_split ?_ w_codes
  rw [← List.take_append_drop 24 words1, List.all_append, w_t1, w_t2]
  rfl
set_option maxRecDepth 65536 in
theorem w_case : (Jvm.Cond.and given_1 narrow_1).before args0 about1 = true := by decide +kernel
theorem w_applies : (headSpec (Jvm.Cond.code x code maxLocals ret :: tables_1) room_1).applies x e0.platform about1 = true :=
  (Spec.applies_iff w_frames).mpr ⟨w_running, w_runnable, w_alone, w_named, w_hears, w_ripe, w_room, w_tables⟩
theorem atStart : AtStart classFile x code maxLocals ret World_1 tables_1 room_1 Calls_1 rest_1 Pre_1 launch0 p0 e0 about1 theMethod args0 below0 :=
  ⟨lists_1, trivial, launch0.admits_env _ _ _, launch0.least_env, fairChoices_fair.cas, fairChoices_fair.clock, w_frames, w_args, w_heap, w_applies, trivial, trivial, w_case⟩
end start1
theorem witness_1 : WitnessClaimed_1 := ⟨start1.p0, start1.e0, start1.about1, start1.theMethod, start1.args0, start1.below0, start1.atStart⟩
end Jvm.Pilot.@@N@@
