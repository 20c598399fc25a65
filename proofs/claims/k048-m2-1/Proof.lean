import JvmDerived
import JvmDerived.Pilot.@@N@@Statement
import JvmDerived.Pilot.@@N@@Code
set_option linter.unusedVariables false
set_option linter.unusedSimpArgs false
namespace Jvm.Pilot.@@N@@
open Jvm Jvm.ClassFile Sem Op Lib Jvm.Free Jvm.Stand Jvm.LawKit Jvm.RoadKit Bundle Jvm.Pilot.@@N@@.Jvm.D
abbrev y1 : MethodName := ⟨"com/example/uni_frame/uniframe/protocol/TypeCode", "valueType", "(I)Lcom/example/uni_frame/uniframe/protocol/ValueType;"⟩
abbrev y2 : MethodName := ⟨"com/example/uni_frame/uniframe/protocol/TypeCodeValueTypePinLaw", "expected", "(I)Lcom/example/uni_frame/uniframe/protocol/ValueType;"⟩

abbrev jv (x : Int64) : Slot := .val (.long x)
abbrev un : Slot := .unset
abbrev se : Slot := .second
abbrev AT (p : Program) (e : Env) (below : List Frame) (T : State) (m : MethodId) (pc : Nat) (ls : Array Slot) (st : List Value) (tg : State) : Prop := Steps p.tables e below (T.setTop (mkF m pc ls st)) tg
theorem ow {Z : State} {a0 : Array Value} (hw : ∀ d ∈ tables_1, d.before a0 Z = true) (i : Nat) {d : Jvm.Cond} (h : tables_1[i]? = some d) : d.before a0 Z = true := hw _ (List.mem_of_getElem? h)
theorem own_lrem {p : Program} {l : Launch} {e : Env} {R : Room} {s : State} {m : MethodId} {args : Array Value} {below : List Frame} {meth : Method} {c : Code} {T : State} {locs : List Loc} {cells slots : Nat} {g : JFrame} {target : State} (X : Stand p l e R s m args below meth c T locs cells slots) (hx : p.tables.exec = Jvm.exec) (hg : g.method = m) {x y : Int64} {rest : List Value} (hd : decode c.code g.pc = .ok (.lrem, 1)) (hs : g.stack = .long y :: .long x :: rest) (hy : y ≠ 0)
    (hr : Steps p.tables e below (T.setTop { g with pc := g.pc + 1, stack := .long (x % y) :: rest }) target) : Steps p.tables e below (T.setTop g) target :=
  XS.lrem X.here hx hg hd hs hy (by rw [lrem_mod]; exact hr)
theorem own_eqInt {args : Array Value} {first s : State} {o : Option Outcome} {idx : List Nat} {t : Term} {n : Int32} (h : (Jvm.Cond.eq t (.int n)).value args first o s idx = some true) : t.eval args first o idx s = some (.int n) := by
  simp only [Cond.value, Term.eval] at h
  cases ht : t.eval args first o idx s with
  | none => simp [ht] at h
  | some v => cases v <;> simp [ht] at h ⊢; exact h
theorem own_eqLong {args : Array Value} {first s : State} {o : Option Outcome} {idx : List Nat} {t : Term} {n : Int64} (h : (Jvm.Cond.eq t (.long n)).value args first o s idx = some true) : t.eval args first o idx s = some (.long n) := by
  simp only [Cond.value, Term.eval] at h
  cases ht : t.eval args first o idx s with
  | none => simp [ht] at h
  | some v => cases v <;> simp [ht] at h ⊢; exact h
theorem own_eqRef {args : Array Value} {first s : State} {o : Option Outcome} {idx : List Nat} {t u : Term} {a : Addr} (hu : u.eval args first o idx s = some (.ref a)) (h : (Jvm.Cond.eq t u).value args first o s idx = some true) : t.eval args first o idx s = some (.ref a) := by
  simp only [Cond.value, hu] at h
  cases ht : t.eval args first o idx s with
  | none => simp [ht] at h
  | some v => cases v <;> simp [ht] at h ⊢; exact h

theorem own_x32 {a b : Int} (h : (a - b) % 4294967296 = 0) (r : -2147483648 ≤ a ∧ a ≤ 2147483647) (q : -2147483648 ≤ b ∧ b ≤ 2147483647) : a = b := by omega
theorem own_x64 {a b : Int} (h : (a - b) % 18446744073709551616 = 0) (r : -9223372036854775808 ≤ a ∧ a ≤ 9223372036854775807) (q : -9223372036854775808 ≤ b ∧ b ≤ 9223372036854775807) : a = b := by omega
theorem own_in {c : Cell} {n : Int32} (j : Int32) (S : c.slots.size = n.toNatClampNeg) (q : ¬ j < 0 ∧ j < n) : ¬ (j < 0 ∨ c.slots.size ≤ j.toNatClampNeg) := inb_of S q
theorem own_up {x a b : Int32} (h : x < a) (q : a.toInt ≤ b.toInt) : x < b := Int32.lt_iff_toInt_lt.mpr (Int.lt_of_lt_of_le (Int32.lt_iff_toInt_lt.mp h) q)
theorem own_dn {x a b : Int32} (h : ¬ x < a) (q : b.toInt ≤ a.toInt) : ¬ x < b := fun z => h (own_up z q)
theorem own_neInt {args : Array Value} {first s : State} {o : Option Outcome} {idx : List Nat} {t : Term} {x n : Int32} (ht : t.eval args first o idx s = some (.int x)) (h : (Jvm.Cond.not (Jvm.Cond.eq t (.int n))).value args first o s idx = some true) : ¬ x = n := by
  simpa [Cond.value, Term.eval, ht] using h

theorem own_len {Z : State} {args : Array Value} {t : Term} {a : Addr} {cl : Cell} {ty : FieldType} {n : Int32} (ev : t.eval args Z none [] Z = some (.ref a)) (A : Arr Z Z.heap a cl ty) (h : (Term.length t).eval args Z none [] Z = some (.int n)) : cl.slots.size < 2 ^ 31 ∧ cl.slots.size.toInt32 = n := by
  have q := A.fin (U := Z) (Vm.Alike.refl _)
  simp only [Term.eval, ev, q, Option.bind_eq_bind, Option.bind_some, Option.pure_def] at h
  split at h
  · rename_i hlt; exact ⟨hlt, by simpa using h⟩
  · simp at h

theorem own_nar {v : Value} {c : String} (h : v.isRef = true) : narrow (.object c) v = v := by cases v <;> first | rfl | simp [Value.isRef] at h
theorem own_fits {v : Value} {c : String} (h : v.isRef = true) : fits (.object c) v = true := by cases v <;> first | rfl | simp [Value.isRef] at h
theorem own_cat {v : Value} (h : v.isRef = true) : v.category = 1 := by cases v <;> first | rfl | simp [Value.isRef] at h

theorem own_notOf {Z : State} {a0 : Array Value} {C S K : String} {n : Nat} (w : (Jvm.Cond.superclass C S).before a0 Z = true) (w0 : (Jvm.Cond.noSuperclass S).before a0 Z = true) (wk : (Jvm.Cond.instantiable K n).before a0 Z = true) (h1 : C ≠ K) (h2 : S ≠ K) :
    ∃ c t, Z.vm.findClass C = some c ∧ Z.vm.findClass K = some t ∧ Z.vm.assignable c t = false := by
  obtain ⟨t, k', g0, g2, g5, g7, -⟩ := Cond.instantiable_spec wk
  obtain ⟨c, h0⟩ := found_sup w
  obtain ⟨p, k, kp, q1, q2, q3, q4, q5, q6, q7⟩ := Cond.superclass_spec h0 w
  obtain ⟨c0, k0, r1, r2, r3, -, -⟩ := Cond.noSuperclass_spec w0
  cases q1.symm.trans r1
  have ne1 := ids_ne h0 g0 h1
  have ne2 := ids_ne r1 g0 h2
  have g8 := (Bool.or_eq_false_iff.mp g7).1
  have n3 : ∀ fuel, Z.vm.isSubclassAux fuel c t = false := by
    intro fuel
    cases fuel with
    | zero => rfl
    | succ f =>
      cases f with
      | zero => simp [Vm.isSubclassAux, ne1, q2, q4]
      | succ g => simp [Vm.isSubclassAux, ne1, ne2, q2, q4, r2, r3]
  refine ⟨c, t, h0, g0, ?_⟩
  show Z.vm.assignableAux (255 + 1) c t = false
  simp [Vm.assignableAux, ne1, q2, g2, q5, g5, g8, Vm.isSubclass, n3]

theorem own_selP {Z s : State} {a0 args : Array Value} {y : MethodName} {n : Nat} (hZ : Z.Warmed39 s.vm) (wi : (Jvm.Cond.instantiable y.cls n).before a0 Z = true) (wp : (Jvm.Cond.privateMethod y).before a0 Z = true) (wm : (Jvm.Cond.instanceMethod y).before a0 Z = true) (hy : y.cls ≠ "java/lang/invoke/MethodHandle" ∧ y.cls ≠ "java/lang/invoke/VarHandle") : (Jvm.Cond.selects y.cls y y).before args s = true := by
  obtain ⟨c, k, hc, hk, -, hni, -⟩ := Cond.instantiable_spec (mvT (s := s) (args := args) hZ wi)
  exact selects_self_of_private hc hk (Bool.or_eq_false_iff.mp hni).1 (Cond.privateMethod_at (mvP hZ wp (args := #[]))) (mvT hZ wm) hy

theorem own_neS {Z : State} {h : Heap} {a b u w : Addr} {C f d : String} {k k' : ClassId} {ty : FieldType} {z z' : Int32} {vs vs' : List Value} {dv dv' : Value} (Fa : Fld Z h a C f d (.ref u)) (Va : Arv Z h u k ty z vs dv) (Fb : Fld Z h b C f d (.ref w)) (Vb : Arv Z h w k' ty z' vs' dv') (hn : z ≠ z' ∨ ∃ i : Nat, i < z.toNatClampNeg ∧ vs.getD i dv ≠ vs'.getD i dv') : a ≠ b := fun e => by
  subst e
  have hu : u = w := by
    rcases Decidable.em (u = w) with q | q
    · exact q
    · exact absurd rfl (Fld.ne Fa Fb (fun x => q (Value.ref.inj x)))
  subst hu
  obtain ⟨c1, A1, -, S1, N1, H1, -⟩ := Va
  obtain ⟨c2, A2, -, S2, N2, H2, -⟩ := Vb
  cases A1.1.symm.trans A2.1
  rcases hn with hn | ⟨i, hi, hn⟩
  · exact hn ((len_of S1 N1).symm.trans (len_of S2 N2))
  · have q1 := H1 i (by rw [S1]; exact hi)
    have q2 := H2 i (by rw [S1]; exact hi)
    exact hn (Option.some.inj (q1.symm.trans q2))
def Wd (Z : State) (w_TYPES : Addr) (w_I16 : Addr) (w_DOUBLE : Addr) (w_I64 : Addr) (w_BINARY : Addr) (w_SET : Addr) (w_I8 : Addr) (w_STRUCT : Addr) (w_BOOL : Addr) (w_LIST : Addr) (w_MAP : Addr) (w_UUID : Addr) (w_I32 : Addr) (k_TYPES : ClassId) : Prop :=
  Sta Z Z.heap "com/example/uni_frame/uniframe/protocol/TypeCode" "TYPES" "[Lcom/example/uni_frame/uniframe/protocol/ValueType;" (.ref w_TYPES) ∧
  Sta Z Z.heap "com/example/uni_frame/uniframe/protocol/ValueType" "I16" "Lcom/example/uni_frame/uniframe/protocol/ValueType;" (.ref w_I16) ∧
  Exa Z Z.heap w_I16 "com/example/uni_frame/uniframe/protocol/ValueType" ∧
  Sta Z Z.heap "com/example/uni_frame/uniframe/protocol/ValueType" "DOUBLE" "Lcom/example/uni_frame/uniframe/protocol/ValueType;" (.ref w_DOUBLE) ∧
  Exa Z Z.heap w_DOUBLE "com/example/uni_frame/uniframe/protocol/ValueType" ∧
  Sta Z Z.heap "com/example/uni_frame/uniframe/protocol/ValueType" "I64" "Lcom/example/uni_frame/uniframe/protocol/ValueType;" (.ref w_I64) ∧
  Exa Z Z.heap w_I64 "com/example/uni_frame/uniframe/protocol/ValueType" ∧
  Sta Z Z.heap "com/example/uni_frame/uniframe/protocol/ValueType" "BINARY" "Lcom/example/uni_frame/uniframe/protocol/ValueType;" (.ref w_BINARY) ∧
  Exa Z Z.heap w_BINARY "com/example/uni_frame/uniframe/protocol/ValueType" ∧
  Sta Z Z.heap "com/example/uni_frame/uniframe/protocol/ValueType" "SET" "Lcom/example/uni_frame/uniframe/protocol/ValueType;" (.ref w_SET) ∧
  Exa Z Z.heap w_SET "com/example/uni_frame/uniframe/protocol/ValueType" ∧
  Sta Z Z.heap "com/example/uni_frame/uniframe/protocol/ValueType" "I8" "Lcom/example/uni_frame/uniframe/protocol/ValueType;" (.ref w_I8) ∧
  Exa Z Z.heap w_I8 "com/example/uni_frame/uniframe/protocol/ValueType" ∧
  Sta Z Z.heap "com/example/uni_frame/uniframe/protocol/ValueType" "STRUCT" "Lcom/example/uni_frame/uniframe/protocol/ValueType;" (.ref w_STRUCT) ∧
  Exa Z Z.heap w_STRUCT "com/example/uni_frame/uniframe/protocol/ValueType" ∧
  Sta Z Z.heap "com/example/uni_frame/uniframe/protocol/ValueType" "BOOL" "Lcom/example/uni_frame/uniframe/protocol/ValueType;" (.ref w_BOOL) ∧
  Exa Z Z.heap w_BOOL "com/example/uni_frame/uniframe/protocol/ValueType" ∧
  Sta Z Z.heap "com/example/uni_frame/uniframe/protocol/ValueType" "LIST" "Lcom/example/uni_frame/uniframe/protocol/ValueType;" (.ref w_LIST) ∧
  Exa Z Z.heap w_LIST "com/example/uni_frame/uniframe/protocol/ValueType" ∧
  Sta Z Z.heap "com/example/uni_frame/uniframe/protocol/ValueType" "MAP" "Lcom/example/uni_frame/uniframe/protocol/ValueType;" (.ref w_MAP) ∧
  Exa Z Z.heap w_MAP "com/example/uni_frame/uniframe/protocol/ValueType" ∧
  Sta Z Z.heap "com/example/uni_frame/uniframe/protocol/ValueType" "UUID" "Lcom/example/uni_frame/uniframe/protocol/ValueType;" (.ref w_UUID) ∧
  Exa Z Z.heap w_UUID "com/example/uni_frame/uniframe/protocol/ValueType" ∧
  Sta Z Z.heap "com/example/uni_frame/uniframe/protocol/ValueType" "I32" "Lcom/example/uni_frame/uniframe/protocol/ValueType;" (.ref w_I32) ∧
  Exa Z Z.heap w_I32 "com/example/uni_frame/uniframe/protocol/ValueType" ∧
  Arv Z Z.heap w_TYPES k_TYPES (.object "com/example/uni_frame/uniframe/protocol/ValueType") (12 : Int32) [(.ref w_BOOL), (.ref w_I8), (.ref w_I16), (.ref w_I32), (.ref w_I64), (.ref w_DOUBLE), (.ref w_BINARY), (.ref w_LIST), (.ref w_SET), (.ref w_MAP), (.ref w_STRUCT), (.ref w_UUID)] .null
theorem pn_0 : plainName "com/example/uni_frame/uniframe/protocol/TypeCode" = true := by first | (simp [plainName, overriddenIn]; done) | decide +kernel
theorem pn_1 : plainName "com/example/uni_frame/uniframe/protocol/TypeCodeValueTypePinLaw" = true := by first | (simp [plainName, overriddenIn]; done) | decide +kernel
theorem pd_0 : parseMethodDescriptor "(I)Lcom/example/uni_frame/uniframe/protocol/ValueType;" = some ⟨[.int], some (.object "com/example/uni_frame/uniframe/protocol/ValueType")⟩ := by decide +kernel
theorem own_k (x : Int32) : ((x &&& (2147483647 : Int32)) % (13 : Int32)) - (1 : Int32) = (-1 : Int32) ∨ ((x &&& (2147483647 : Int32)) % (13 : Int32)) - (1 : Int32) = (0 : Int32) ∨ ((x &&& (2147483647 : Int32)) % (13 : Int32)) - (1 : Int32) = (1 : Int32) ∨ ((x &&& (2147483647 : Int32)) % (13 : Int32)) - (1 : Int32) = (2 : Int32) ∨ ((x &&& (2147483647 : Int32)) % (13 : Int32)) - (1 : Int32) = (3 : Int32) ∨ ((x &&& (2147483647 : Int32)) % (13 : Int32)) - (1 : Int32) = (4 : Int32) ∨ ((x &&& (2147483647 : Int32)) % (13 : Int32)) - (1 : Int32) = (5 : Int32) ∨ ((x &&& (2147483647 : Int32)) % (13 : Int32)) - (1 : Int32) = (6 : Int32) ∨ ((x &&& (2147483647 : Int32)) % (13 : Int32)) - (1 : Int32) = (7 : Int32) ∨ ((x &&& (2147483647 : Int32)) % (13 : Int32)) - (1 : Int32) = (8 : Int32) ∨ ((x &&& (2147483647 : Int32)) % (13 : Int32)) - (1 : Int32) = (9 : Int32) ∨ ((x &&& (2147483647 : Int32)) % (13 : Int32)) - (1 : Int32) = (10 : Int32) ∨ ((x &&& (2147483647 : Int32)) % (13 : Int32)) - (1 : Int32) = (11 : Int32) := by
  have h1 := c_mask x (2147483647 : Int32) 31 (by decide) (by decide)
  have h0 : 0 ≤ x.toInt % (2 ^ 31 : Nat) := Int.emod_nonneg _ (by decide)
  have h2 := (c_irem (x &&& (2147483647 : Int32)) (13 : Int32) 13 rfl).1 (by rw [h1]; exact h0)
  have h3 := c_isub ((x &&& (2147483647 : Int32)) % (13 : Int32)) (1 : Int32)
  have h4 := rng32 (((x &&& (2147483647 : Int32)) % (13 : Int32)) - (1 : Int32))
  have h5 : ((1 : Int32)).toInt = 1 := rfl
  have l0 : ((-1 : Int32)).toInt = -1 := rfl
  have l1 : ((0 : Int32)).toInt = 0 := rfl
  have l2 : ((1 : Int32)).toInt = 1 := rfl
  have l3 : ((2 : Int32)).toInt = 2 := rfl
  have l4 : ((3 : Int32)).toInt = 3 := rfl
  have l5 : ((4 : Int32)).toInt = 4 := rfl
  have l6 : ((5 : Int32)).toInt = 5 := rfl
  have l7 : ((6 : Int32)).toInt = 6 := rfl
  have l8 : ((7 : Int32)).toInt = 7 := rfl
  have l9 : ((8 : Int32)).toInt = 8 := rfl
  have l10 : ((9 : Int32)).toInt = 9 := rfl
  have l11 : ((10 : Int32)).toInt = 10 := rfl
  have l12 : ((11 : Int32)).toInt = 11 := rfl
  simp only [← Int32.toInt_inj, l0, l1, l2, l3, l4, l5, l6, l7, l8, l9, l10, l11, l12]
  omega

theorem d1_0 : decode prog_17_method_2_code 0 = .ok (.iload_n 0, 1) := by decide +kernel
theorem d1_1 : decode prog_17_method_2_code 1 = .ok (.iconst (-1), 1) := by decide +kernel
theorem d1_2 : decode prog_17_method_2_code 2 = .ok (.if_icmp .ne 7, 3) := by decide +kernel
theorem d1_5 : decode prog_17_method_2_code 5 = .ok (.aconst_null, 1) := by decide +kernel
theorem d1_6 : decode prog_17_method_2_code 6 = .ok (.goto 8, 3) := by decide +kernel
theorem d1_14 : decode prog_17_method_2_code 14 = .ok (.areturn, 1) := by decide +kernel
theorem ef_1_0 (m : MethodId)  : entryFrame m #[(.int (-1 : Int32))] 1 = mkF m 0 #[iv (-1 : Int32)] [] := by first | (simp [entryFrame, mkF, argsToLocals, Value.category]; done) | rfl
def f1_0  : Value := .null
def Q1_0 (Z : State)  (h0 : Heap) (n0 : Nat) (v : Option Value) (h : Heap) (L : List Loc) : Prop := v = some f1_0 ∧ Fr n0 L ∧ h = h0
set_option maxRecDepth 65536 in
set_option maxHeartbeats 40000000 in
theorem rm1_0 (l : Launch) (Z : State) (ar : Array Value) (hw : ∀ d ∈ tables_1, d.before ar Z = true) (ws : List Jvm.Cond)  (h0 : Heap) (n0 : Nat) (O0 : Old Z n0 h0) :
    MetFree l y1 (head1 (Jvm.Cond.code y1 prog_17_method_2_code 1 (some (.object "com/example/uni_frame/uniframe/protocol/ValueType")) :: ws) ({ frames := 0, cells := 0, slots := 0, locals := 0 } : Room)) (fun a U => a = #[(.int (-1 : Int32))] ∧ Z.Warmed39 U.vm ∧ U.heap = h0) (fun _ _ _ _ _ => True) (fun _ U o U' => ∃ v L, o = .returned v ∧ Q1_0 Z  h0 n0 v U'.heap L ∧ FrameEnd U o U' L ({ frames := 0, cells := 0, slots := 0, locals := 0 } : Room).cells ({ frames := 0, cells := 0, slots := 0, locals := 0 } : Room).slots) := by
 refine MetFree.of_bodySF (plainFor_of_name pn_0) hisR ?_
 intro p e s m args below meth c s₁ Bd hml0 hP hK
 obtain ⟨rfl, hZ, hh⟩ := hP
 have hx := Bd.exec
 have hby := Bd.bytes
 have hml : c.maxLocals = 1 := hml0
 have hown : s.vm.findClass "com/example/uni_frame/uniframe/protocol/TypeCode" = some m.cls := findClass_of_methodNamed Bd.named
 have hnm := (name_of_methodNamed Bd.named Bd.method).1
 have X0 : Stand p l e ({ frames := 0, cells := 0, slots := 0, locals := 0 } : Room) s m #[(.int (-1 : Int32))] below meth c s₁ [] 0 0 := Stand.of_body Bd
 have e0 : s₁.heap = h0 := by rw [← hh, Bd.state]; rfl
 have N0 := Fr.nil n0
 have Z0 : n0 ≤ h0.size := Nat.le_trans (Nat.le_of_eq O0.1.symm) O0.2.1
 obtain ⟨S0, hS0⟩ : ∃ z, z = s₁.setTop (entryFrame m #[(.int (-1 : Int32))] 1) := ⟨_, rfl⟩
 have pre0 : ∀ tg, AT p e below s₁ m 0 #[iv (-1 : Int32)] [] tg → Steps p.tables e below S0 tg := fun tg kg => by rw [hS0]; exact castTop (ef_1_0 m ) kg
 obtain ⟨fs, hr, hrun, hended, hW, hsame⟩ := X0.leave (v := some .null) (fun h => by rw [Bd.returns] at h; cases h)
 subst hS0
 refine ⟨_, _, pre0 _ ?_, hrun, hended, _, _, rfl, ?_, ⟨_, rfl⟩, hW, hsame.mono (by decide) (by decide)⟩
 ·
  refine XS.iloadN X0.here hx rfl (hb hby d1_0) rfl ?_
  show AT p e below s₁ m 1 #[iv (-1 : Int32)] [(.int (-1 : Int32))] _
  refine XS.iconst X0.here hx rfl (hb hby d1_1) ?_
  show AT p e below s₁ m 2 #[iv (-1 : Int32)] [(.int (-1 : Int32)), (.int (-1 : Int32))] _
  refine XS.icmpNo X0.here hx rfl (hb hby d1_2) rfl (XT.ii_ne_f ((by decide) : (-1 : Int32) = (-1 : Int32))) ?_
  show AT p e below s₁ m 5 #[iv (-1 : Int32)] [] _
  refine XS.aconstNull X0.here hx rfl (hb hby d1_5) ?_
  show AT p e below s₁ m 6 #[iv (-1 : Int32)] [.null] _
  refine XS.goto X0.here hx rfl (pc0 := 6) (pc' := 14) rfl (hb hby d1_6) (by decide) (by decide) ?_
  show AT p e below s₁ m 14 #[iv (-1 : Int32)] [.null] _
  exact retOut X0 hx (t := (.object "com/example/uni_frame/uniframe/protocol/ValueType")) (i := .areturn) Bd.returns rfl (Or.inr (Or.inr (Or.inr (Or.inr ⟨rfl, rfl, rfl⟩)))) (hb hby d1_14) hr
 ·
  show Q1_0 Z  h0 n0 _ s₁.heap _
  rw [e0]
  exact ⟨rfl, N0, rfl⟩

theorem d1_9 : decode prog_17_method_2_code 9 = .ok (.getstatic 9, 3) := by decide +kernel
theorem d1_12 : decode prog_17_method_2_code 12 = .ok (.iload_n 0, 1) := by decide +kernel
theorem d1_13 : decode prog_17_method_2_code 13 = .ok (.aaload, 1) := by decide +kernel
theorem ef_1_1 (m : MethodId)  : entryFrame m #[(.int (0 : Int32))] 1 = mkF m 0 #[iv (0 : Int32)] [] := by first | (simp [entryFrame, mkF, argsToLocals, Value.category]; done) | rfl
def f1_1 (w_BOOL : Addr) : Addr := w_BOOL
def Q1_1 (Z : State)  (w_TYPES : Addr) (w_I16 : Addr) (w_DOUBLE : Addr) (w_I64 : Addr) (w_BINARY : Addr) (w_SET : Addr) (w_I8 : Addr) (w_STRUCT : Addr) (w_BOOL : Addr) (w_LIST : Addr) (w_MAP : Addr) (w_UUID : Addr) (w_I32 : Addr) (k_TYPES : ClassId) (h0 : Heap) (n0 : Nat) (v : Option Value) (h : Heap) (L : List Loc) : Prop := v = some (.ref (f1_1 w_BOOL)) ∧ Fr n0 L ∧ h = h0
set_option maxRecDepth 65536 in
set_option maxHeartbeats 40000000 in
theorem rm1_1 (l : Launch) (Z : State) (ar : Array Value) (hw : ∀ d ∈ tables_1, d.before ar Z = true) (ws : List Jvm.Cond)  (w_TYPES : Addr) (w_I16 : Addr) (w_DOUBLE : Addr) (w_I64 : Addr) (w_BINARY : Addr) (w_SET : Addr) (w_I8 : Addr) (w_STRUCT : Addr) (w_BOOL : Addr) (w_LIST : Addr) (w_MAP : Addr) (w_UUID : Addr) (w_I32 : Addr) (k_TYPES : ClassId) (h0 : Heap) (n0 : Nat) (O0 : Old Z n0 h0) (HW : Wd Z w_TYPES w_I16 w_DOUBLE w_I64 w_BINARY w_SET w_I8 w_STRUCT w_BOOL w_LIST w_MAP w_UUID w_I32 k_TYPES) :
    MetFree l y1 (head1 (Jvm.Cond.code y1 prog_17_method_2_code 1 (some (.object "com/example/uni_frame/uniframe/protocol/ValueType")) :: ws) ({ frames := 0, cells := 0, slots := 0, locals := 0 } : Room)) (fun a U => a = #[(.int (0 : Int32))] ∧ Z.Warmed39 U.vm ∧ U.heap = h0) (fun _ _ _ _ _ => True) (fun _ U o U' => ∃ v L, o = .returned v ∧ Q1_1 Z  w_TYPES w_I16 w_DOUBLE w_I64 w_BINARY w_SET w_I8 w_STRUCT w_BOOL w_LIST w_MAP w_UUID w_I32 k_TYPES h0 n0 v U'.heap L ∧ FrameEnd U o U' L ({ frames := 0, cells := 0, slots := 0, locals := 0 } : Room).cells ({ frames := 0, cells := 0, slots := 0, locals := 0 } : Room).slots) := by
 refine MetFree.of_bodySF (plainFor_of_name pn_0) hisR ?_
 intro p e s m args below meth c s₁ Bd hml0 hP hK
 obtain ⟨rfl, hZ, hh⟩ := hP
 have hx := Bd.exec
 have hby := Bd.bytes
 have hml : c.maxLocals = 1 := hml0
 have hown : s.vm.findClass "com/example/uni_frame/uniframe/protocol/TypeCode" = some m.cls := findClass_of_methodNamed Bd.named
 have hnm := (name_of_methodNamed Bd.named Bd.method).1
 have X0 : Stand p l e ({ frames := 0, cells := 0, slots := 0, locals := 0 } : Room) s m #[(.int (0 : Int32))] below meth c s₁ [] 0 0 := Stand.of_body Bd
 have e0 : s₁.heap = h0 := by rw [← hh, Bd.state]; rfl
 have N0 := Fr.nil n0
 have Z0 : n0 ≤ h0.size := Nat.le_trans (Nat.le_of_eq O0.1.symm) O0.2.1
 obtain ⟨S0, hS0⟩ : ∃ z, z = s₁.setTop (entryFrame m #[(.int (0 : Int32))] 1) := ⟨_, rfl⟩
 have pre0 : ∀ tg, AT p e below s₁ m 0 #[iv (0 : Int32)] [] tg → Steps p.tables e below S0 tg := fun tg kg => by rw [hS0]; exact castTop (ef_1_1 m ) kg
 obtain ⟨S_TYPES, S_I16, E_I16, S_DOUBLE, E_DOUBLE, S_I64, E_I64, S_BINARY, E_BINARY, S_SET, E_SET, S_I8, E_I8, S_STRUCT, E_STRUCT, S_BOOL, E_BOOL, S_LIST, E_LIST, S_MAP, E_MAP, S_UUID, E_UUID, S_I32, E_I32, V_TYPES⟩ := id HW
 obtain ⟨T1, X1, e1, st1⟩ := getS2 X0 hx hZ hown (host := "") (Or.inl (ow hw 9 rfl)) Via.refl e0 (S_TYPES.ext O0.2) (g := (mkF m 9 #[iv (0 : Int32)] [])) rfl (hb hby d1_9)
 obtain ⟨cl2, Ar2, q2, S2, N2, H2, G2⟩ := id (V_TYPES.ext O0.2)
 have hin2 := own_in (0 : Int32) S2 ⟨by decide, by decide⟩
 have hat2 : cl2.slots[((0 : Int32)).toNatClampNeg]? = some (.ref w_BOOL) := Has.at H2 hin2 rfl
 obtain ⟨fs, hr, hrun, hended, hW, hsame⟩ := X1.leave (v := some (.ref w_BOOL)) (fun h => by rw [Bd.returns] at h; cases h)
 subst hS0
 refine ⟨_, _, pre0 _ ?_, hrun, hended, _, _, rfl, ?_, ⟨_, rfl⟩, hW, hsame.mono (by decide) (by decide)⟩
 ·
  refine XS.iloadN X0.here hx rfl (hb hby d1_0) rfl ?_
  show AT p e below s₁ m 1 #[iv (0 : Int32)] [(.int (0 : Int32))] _
  refine XS.iconst X0.here hx rfl (hb hby d1_1) ?_
  show AT p e below s₁ m 2 #[iv (0 : Int32)] [(.int (-1 : Int32)), (.int (0 : Int32))] _
  refine XS.icmpYes X0.here hx rfl (pc0 := 2) (pc' := 9) rfl (hb hby d1_2) rfl (XT.ii_ne_t ((by decide) : ¬ ((0 : Int32) = (-1 : Int32)))) (by decide) (by decide) ?_
  show AT p e below s₁ m 9 #[iv (0 : Int32)] [] _
  refine st1 _ ?_
  show AT p e below T1 m 12 #[iv (0 : Int32)] [(.ref w_TYPES)] _
  refine XS.iloadN X1.here hx rfl (hb hby d1_12) rfl ?_
  show AT p e below T1 m 13 #[iv (0 : Int32)] [(.int (0 : Int32)), (.ref w_TYPES)] _
  refine X1.aaload hx (j := (0 : Int32)) (v := (.ref w_BOOL)) (by rw [e1]; exact Ar2.1) (State.isArrayOf_alike hZ.alike Ar2.2.1) rfl Ar2.2.2 hin2 hat2 (g := (mkF m 13 #[iv (0 : Int32)] [(.int (0 : Int32)), (.ref w_TYPES)])) rfl rfl (hb hby d1_13) _ ?_
  show AT p e below T1 m 14 #[iv (0 : Int32)] [(.ref w_BOOL)] _
  exact retOut X1 hx (t := (.object "com/example/uni_frame/uniframe/protocol/ValueType")) (i := .areturn) Bd.returns rfl (Or.inr (Or.inr (Or.inr (Or.inr ⟨rfl, rfl, rfl⟩)))) (hb hby d1_14) hr
 ·
  show Q1_1 Z  w_TYPES w_I16 w_DOUBLE w_I64 w_BINARY w_SET w_I8 w_STRUCT w_BOOL w_LIST w_MAP w_UUID w_I32 k_TYPES h0 n0 _ T1.heap _
  rw [e1]
  exact ⟨rfl, N0, rfl⟩

theorem ef_1_2 (m : MethodId)  : entryFrame m #[(.int (1 : Int32))] 1 = mkF m 0 #[iv (1 : Int32)] [] := by first | (simp [entryFrame, mkF, argsToLocals, Value.category]; done) | rfl
def f1_2 (w_I8 : Addr) : Addr := w_I8
def Q1_2 (Z : State)  (w_TYPES : Addr) (w_I16 : Addr) (w_DOUBLE : Addr) (w_I64 : Addr) (w_BINARY : Addr) (w_SET : Addr) (w_I8 : Addr) (w_STRUCT : Addr) (w_BOOL : Addr) (w_LIST : Addr) (w_MAP : Addr) (w_UUID : Addr) (w_I32 : Addr) (k_TYPES : ClassId) (h0 : Heap) (n0 : Nat) (v : Option Value) (h : Heap) (L : List Loc) : Prop := v = some (.ref (f1_2 w_I8)) ∧ Fr n0 L ∧ h = h0
set_option maxRecDepth 65536 in
set_option maxHeartbeats 40000000 in
theorem rm1_2 (l : Launch) (Z : State) (ar : Array Value) (hw : ∀ d ∈ tables_1, d.before ar Z = true) (ws : List Jvm.Cond)  (w_TYPES : Addr) (w_I16 : Addr) (w_DOUBLE : Addr) (w_I64 : Addr) (w_BINARY : Addr) (w_SET : Addr) (w_I8 : Addr) (w_STRUCT : Addr) (w_BOOL : Addr) (w_LIST : Addr) (w_MAP : Addr) (w_UUID : Addr) (w_I32 : Addr) (k_TYPES : ClassId) (h0 : Heap) (n0 : Nat) (O0 : Old Z n0 h0) (HW : Wd Z w_TYPES w_I16 w_DOUBLE w_I64 w_BINARY w_SET w_I8 w_STRUCT w_BOOL w_LIST w_MAP w_UUID w_I32 k_TYPES) :
    MetFree l y1 (head1 (Jvm.Cond.code y1 prog_17_method_2_code 1 (some (.object "com/example/uni_frame/uniframe/protocol/ValueType")) :: ws) ({ frames := 0, cells := 0, slots := 0, locals := 0 } : Room)) (fun a U => a = #[(.int (1 : Int32))] ∧ Z.Warmed39 U.vm ∧ U.heap = h0) (fun _ _ _ _ _ => True) (fun _ U o U' => ∃ v L, o = .returned v ∧ Q1_2 Z  w_TYPES w_I16 w_DOUBLE w_I64 w_BINARY w_SET w_I8 w_STRUCT w_BOOL w_LIST w_MAP w_UUID w_I32 k_TYPES h0 n0 v U'.heap L ∧ FrameEnd U o U' L ({ frames := 0, cells := 0, slots := 0, locals := 0 } : Room).cells ({ frames := 0, cells := 0, slots := 0, locals := 0 } : Room).slots) := by
 refine MetFree.of_bodySF (plainFor_of_name pn_0) hisR ?_
 intro p e s m args below meth c s₁ Bd hml0 hP hK
 obtain ⟨rfl, hZ, hh⟩ := hP
 have hx := Bd.exec
 have hby := Bd.bytes
 have hml : c.maxLocals = 1 := hml0
 have hown : s.vm.findClass "com/example/uni_frame/uniframe/protocol/TypeCode" = some m.cls := findClass_of_methodNamed Bd.named
 have hnm := (name_of_methodNamed Bd.named Bd.method).1
 have X0 : Stand p l e ({ frames := 0, cells := 0, slots := 0, locals := 0 } : Room) s m #[(.int (1 : Int32))] below meth c s₁ [] 0 0 := Stand.of_body Bd
 have e0 : s₁.heap = h0 := by rw [← hh, Bd.state]; rfl
 have N0 := Fr.nil n0
 have Z0 : n0 ≤ h0.size := Nat.le_trans (Nat.le_of_eq O0.1.symm) O0.2.1
 obtain ⟨S0, hS0⟩ : ∃ z, z = s₁.setTop (entryFrame m #[(.int (1 : Int32))] 1) := ⟨_, rfl⟩
 have pre0 : ∀ tg, AT p e below s₁ m 0 #[iv (1 : Int32)] [] tg → Steps p.tables e below S0 tg := fun tg kg => by rw [hS0]; exact castTop (ef_1_2 m ) kg
 obtain ⟨S_TYPES, S_I16, E_I16, S_DOUBLE, E_DOUBLE, S_I64, E_I64, S_BINARY, E_BINARY, S_SET, E_SET, S_I8, E_I8, S_STRUCT, E_STRUCT, S_BOOL, E_BOOL, S_LIST, E_LIST, S_MAP, E_MAP, S_UUID, E_UUID, S_I32, E_I32, V_TYPES⟩ := id HW
 obtain ⟨T1, X1, e1, st1⟩ := getS2 X0 hx hZ hown (host := "") (Or.inl (ow hw 9 rfl)) Via.refl e0 (S_TYPES.ext O0.2) (g := (mkF m 9 #[iv (1 : Int32)] [])) rfl (hb hby d1_9)
 obtain ⟨cl2, Ar2, q2, S2, N2, H2, G2⟩ := id (V_TYPES.ext O0.2)
 have hin2 := own_in (1 : Int32) S2 ⟨by decide, by decide⟩
 have hat2 : cl2.slots[((1 : Int32)).toNatClampNeg]? = some (.ref w_I8) := Has.at H2 hin2 rfl
 obtain ⟨fs, hr, hrun, hended, hW, hsame⟩ := X1.leave (v := some (.ref w_I8)) (fun h => by rw [Bd.returns] at h; cases h)
 subst hS0
 refine ⟨_, _, pre0 _ ?_, hrun, hended, _, _, rfl, ?_, ⟨_, rfl⟩, hW, hsame.mono (by decide) (by decide)⟩
 ·
  refine XS.iloadN X0.here hx rfl (hb hby d1_0) rfl ?_
  show AT p e below s₁ m 1 #[iv (1 : Int32)] [(.int (1 : Int32))] _
  refine XS.iconst X0.here hx rfl (hb hby d1_1) ?_
  show AT p e below s₁ m 2 #[iv (1 : Int32)] [(.int (-1 : Int32)), (.int (1 : Int32))] _
  refine XS.icmpYes X0.here hx rfl (pc0 := 2) (pc' := 9) rfl (hb hby d1_2) rfl (XT.ii_ne_t ((by decide) : ¬ ((1 : Int32) = (-1 : Int32)))) (by decide) (by decide) ?_
  show AT p e below s₁ m 9 #[iv (1 : Int32)] [] _
  refine st1 _ ?_
  show AT p e below T1 m 12 #[iv (1 : Int32)] [(.ref w_TYPES)] _
  refine XS.iloadN X1.here hx rfl (hb hby d1_12) rfl ?_
  show AT p e below T1 m 13 #[iv (1 : Int32)] [(.int (1 : Int32)), (.ref w_TYPES)] _
  refine X1.aaload hx (j := (1 : Int32)) (v := (.ref w_I8)) (by rw [e1]; exact Ar2.1) (State.isArrayOf_alike hZ.alike Ar2.2.1) rfl Ar2.2.2 hin2 hat2 (g := (mkF m 13 #[iv (1 : Int32)] [(.int (1 : Int32)), (.ref w_TYPES)])) rfl rfl (hb hby d1_13) _ ?_
  show AT p e below T1 m 14 #[iv (1 : Int32)] [(.ref w_I8)] _
  exact retOut X1 hx (t := (.object "com/example/uni_frame/uniframe/protocol/ValueType")) (i := .areturn) Bd.returns rfl (Or.inr (Or.inr (Or.inr (Or.inr ⟨rfl, rfl, rfl⟩)))) (hb hby d1_14) hr
 ·
  show Q1_2 Z  w_TYPES w_I16 w_DOUBLE w_I64 w_BINARY w_SET w_I8 w_STRUCT w_BOOL w_LIST w_MAP w_UUID w_I32 k_TYPES h0 n0 _ T1.heap _
  rw [e1]
  exact ⟨rfl, N0, rfl⟩

theorem ef_1_3 (m : MethodId)  : entryFrame m #[(.int (2 : Int32))] 1 = mkF m 0 #[iv (2 : Int32)] [] := by first | (simp [entryFrame, mkF, argsToLocals, Value.category]; done) | rfl
def f1_3 (w_I16 : Addr) : Addr := w_I16
def Q1_3 (Z : State)  (w_TYPES : Addr) (w_I16 : Addr) (w_DOUBLE : Addr) (w_I64 : Addr) (w_BINARY : Addr) (w_SET : Addr) (w_I8 : Addr) (w_STRUCT : Addr) (w_BOOL : Addr) (w_LIST : Addr) (w_MAP : Addr) (w_UUID : Addr) (w_I32 : Addr) (k_TYPES : ClassId) (h0 : Heap) (n0 : Nat) (v : Option Value) (h : Heap) (L : List Loc) : Prop := v = some (.ref (f1_3 w_I16)) ∧ Fr n0 L ∧ h = h0
set_option maxRecDepth 65536 in
set_option maxHeartbeats 40000000 in
theorem rm1_3 (l : Launch) (Z : State) (ar : Array Value) (hw : ∀ d ∈ tables_1, d.before ar Z = true) (ws : List Jvm.Cond)  (w_TYPES : Addr) (w_I16 : Addr) (w_DOUBLE : Addr) (w_I64 : Addr) (w_BINARY : Addr) (w_SET : Addr) (w_I8 : Addr) (w_STRUCT : Addr) (w_BOOL : Addr) (w_LIST : Addr) (w_MAP : Addr) (w_UUID : Addr) (w_I32 : Addr) (k_TYPES : ClassId) (h0 : Heap) (n0 : Nat) (O0 : Old Z n0 h0) (HW : Wd Z w_TYPES w_I16 w_DOUBLE w_I64 w_BINARY w_SET w_I8 w_STRUCT w_BOOL w_LIST w_MAP w_UUID w_I32 k_TYPES) :
    MetFree l y1 (head1 (Jvm.Cond.code y1 prog_17_method_2_code 1 (some (.object "com/example/uni_frame/uniframe/protocol/ValueType")) :: ws) ({ frames := 0, cells := 0, slots := 0, locals := 0 } : Room)) (fun a U => a = #[(.int (2 : Int32))] ∧ Z.Warmed39 U.vm ∧ U.heap = h0) (fun _ _ _ _ _ => True) (fun _ U o U' => ∃ v L, o = .returned v ∧ Q1_3 Z  w_TYPES w_I16 w_DOUBLE w_I64 w_BINARY w_SET w_I8 w_STRUCT w_BOOL w_LIST w_MAP w_UUID w_I32 k_TYPES h0 n0 v U'.heap L ∧ FrameEnd U o U' L ({ frames := 0, cells := 0, slots := 0, locals := 0 } : Room).cells ({ frames := 0, cells := 0, slots := 0, locals := 0 } : Room).slots) := by
 refine MetFree.of_bodySF (plainFor_of_name pn_0) hisR ?_
 intro p e s m args below meth c s₁ Bd hml0 hP hK
 obtain ⟨rfl, hZ, hh⟩ := hP
 have hx := Bd.exec
 have hby := Bd.bytes
 have hml : c.maxLocals = 1 := hml0
 have hown : s.vm.findClass "com/example/uni_frame/uniframe/protocol/TypeCode" = some m.cls := findClass_of_methodNamed Bd.named
 have hnm := (name_of_methodNamed Bd.named Bd.method).1
 have X0 : Stand p l e ({ frames := 0, cells := 0, slots := 0, locals := 0 } : Room) s m #[(.int (2 : Int32))] below meth c s₁ [] 0 0 := Stand.of_body Bd
 have e0 : s₁.heap = h0 := by rw [← hh, Bd.state]; rfl
 have N0 := Fr.nil n0
 have Z0 : n0 ≤ h0.size := Nat.le_trans (Nat.le_of_eq O0.1.symm) O0.2.1
 obtain ⟨S0, hS0⟩ : ∃ z, z = s₁.setTop (entryFrame m #[(.int (2 : Int32))] 1) := ⟨_, rfl⟩
 have pre0 : ∀ tg, AT p e below s₁ m 0 #[iv (2 : Int32)] [] tg → Steps p.tables e below S0 tg := fun tg kg => by rw [hS0]; exact castTop (ef_1_3 m ) kg
 obtain ⟨S_TYPES, S_I16, E_I16, S_DOUBLE, E_DOUBLE, S_I64, E_I64, S_BINARY, E_BINARY, S_SET, E_SET, S_I8, E_I8, S_STRUCT, E_STRUCT, S_BOOL, E_BOOL, S_LIST, E_LIST, S_MAP, E_MAP, S_UUID, E_UUID, S_I32, E_I32, V_TYPES⟩ := id HW
 obtain ⟨T1, X1, e1, st1⟩ := getS2 X0 hx hZ hown (host := "") (Or.inl (ow hw 9 rfl)) Via.refl e0 (S_TYPES.ext O0.2) (g := (mkF m 9 #[iv (2 : Int32)] [])) rfl (hb hby d1_9)
 obtain ⟨cl2, Ar2, q2, S2, N2, H2, G2⟩ := id (V_TYPES.ext O0.2)
 have hin2 := own_in (2 : Int32) S2 ⟨by decide, by decide⟩
 have hat2 : cl2.slots[((2 : Int32)).toNatClampNeg]? = some (.ref w_I16) := Has.at H2 hin2 rfl
 obtain ⟨fs, hr, hrun, hended, hW, hsame⟩ := X1.leave (v := some (.ref w_I16)) (fun h => by rw [Bd.returns] at h; cases h)
 subst hS0
 refine ⟨_, _, pre0 _ ?_, hrun, hended, _, _, rfl, ?_, ⟨_, rfl⟩, hW, hsame.mono (by decide) (by decide)⟩
 ·
  refine XS.iloadN X0.here hx rfl (hb hby d1_0) rfl ?_
  show AT p e below s₁ m 1 #[iv (2 : Int32)] [(.int (2 : Int32))] _
  refine XS.iconst X0.here hx rfl (hb hby d1_1) ?_
  show AT p e below s₁ m 2 #[iv (2 : Int32)] [(.int (-1 : Int32)), (.int (2 : Int32))] _
  refine XS.icmpYes X0.here hx rfl (pc0 := 2) (pc' := 9) rfl (hb hby d1_2) rfl (XT.ii_ne_t ((by decide) : ¬ ((2 : Int32) = (-1 : Int32)))) (by decide) (by decide) ?_
  show AT p e below s₁ m 9 #[iv (2 : Int32)] [] _
  refine st1 _ ?_
  show AT p e below T1 m 12 #[iv (2 : Int32)] [(.ref w_TYPES)] _
  refine XS.iloadN X1.here hx rfl (hb hby d1_12) rfl ?_
  show AT p e below T1 m 13 #[iv (2 : Int32)] [(.int (2 : Int32)), (.ref w_TYPES)] _
  refine X1.aaload hx (j := (2 : Int32)) (v := (.ref w_I16)) (by rw [e1]; exact Ar2.1) (State.isArrayOf_alike hZ.alike Ar2.2.1) rfl Ar2.2.2 hin2 hat2 (g := (mkF m 13 #[iv (2 : Int32)] [(.int (2 : Int32)), (.ref w_TYPES)])) rfl rfl (hb hby d1_13) _ ?_
  show AT p e below T1 m 14 #[iv (2 : Int32)] [(.ref w_I16)] _
  exact retOut X1 hx (t := (.object "com/example/uni_frame/uniframe/protocol/ValueType")) (i := .areturn) Bd.returns rfl (Or.inr (Or.inr (Or.inr (Or.inr ⟨rfl, rfl, rfl⟩)))) (hb hby d1_14) hr
 ·
  show Q1_3 Z  w_TYPES w_I16 w_DOUBLE w_I64 w_BINARY w_SET w_I8 w_STRUCT w_BOOL w_LIST w_MAP w_UUID w_I32 k_TYPES h0 n0 _ T1.heap _
  rw [e1]
  exact ⟨rfl, N0, rfl⟩

theorem ef_1_4 (m : MethodId)  : entryFrame m #[(.int (3 : Int32))] 1 = mkF m 0 #[iv (3 : Int32)] [] := by first | (simp [entryFrame, mkF, argsToLocals, Value.category]; done) | rfl
def f1_4 (w_I32 : Addr) : Addr := w_I32
def Q1_4 (Z : State)  (w_TYPES : Addr) (w_I16 : Addr) (w_DOUBLE : Addr) (w_I64 : Addr) (w_BINARY : Addr) (w_SET : Addr) (w_I8 : Addr) (w_STRUCT : Addr) (w_BOOL : Addr) (w_LIST : Addr) (w_MAP : Addr) (w_UUID : Addr) (w_I32 : Addr) (k_TYPES : ClassId) (h0 : Heap) (n0 : Nat) (v : Option Value) (h : Heap) (L : List Loc) : Prop := v = some (.ref (f1_4 w_I32)) ∧ Fr n0 L ∧ h = h0
set_option maxRecDepth 65536 in
set_option maxHeartbeats 40000000 in
theorem rm1_4 (l : Launch) (Z : State) (ar : Array Value) (hw : ∀ d ∈ tables_1, d.before ar Z = true) (ws : List Jvm.Cond)  (w_TYPES : Addr) (w_I16 : Addr) (w_DOUBLE : Addr) (w_I64 : Addr) (w_BINARY : Addr) (w_SET : Addr) (w_I8 : Addr) (w_STRUCT : Addr) (w_BOOL : Addr) (w_LIST : Addr) (w_MAP : Addr) (w_UUID : Addr) (w_I32 : Addr) (k_TYPES : ClassId) (h0 : Heap) (n0 : Nat) (O0 : Old Z n0 h0) (HW : Wd Z w_TYPES w_I16 w_DOUBLE w_I64 w_BINARY w_SET w_I8 w_STRUCT w_BOOL w_LIST w_MAP w_UUID w_I32 k_TYPES) :
    MetFree l y1 (head1 (Jvm.Cond.code y1 prog_17_method_2_code 1 (some (.object "com/example/uni_frame/uniframe/protocol/ValueType")) :: ws) ({ frames := 0, cells := 0, slots := 0, locals := 0 } : Room)) (fun a U => a = #[(.int (3 : Int32))] ∧ Z.Warmed39 U.vm ∧ U.heap = h0) (fun _ _ _ _ _ => True) (fun _ U o U' => ∃ v L, o = .returned v ∧ Q1_4 Z  w_TYPES w_I16 w_DOUBLE w_I64 w_BINARY w_SET w_I8 w_STRUCT w_BOOL w_LIST w_MAP w_UUID w_I32 k_TYPES h0 n0 v U'.heap L ∧ FrameEnd U o U' L ({ frames := 0, cells := 0, slots := 0, locals := 0 } : Room).cells ({ frames := 0, cells := 0, slots := 0, locals := 0 } : Room).slots) := by
 refine MetFree.of_bodySF (plainFor_of_name pn_0) hisR ?_
 intro p e s m args below meth c s₁ Bd hml0 hP hK
 obtain ⟨rfl, hZ, hh⟩ := hP
 have hx := Bd.exec
 have hby := Bd.bytes
 have hml : c.maxLocals = 1 := hml0
 have hown : s.vm.findClass "com/example/uni_frame/uniframe/protocol/TypeCode" = some m.cls := findClass_of_methodNamed Bd.named
 have hnm := (name_of_methodNamed Bd.named Bd.method).1
 have X0 : Stand p l e ({ frames := 0, cells := 0, slots := 0, locals := 0 } : Room) s m #[(.int (3 : Int32))] below meth c s₁ [] 0 0 := Stand.of_body Bd
 have e0 : s₁.heap = h0 := by rw [← hh, Bd.state]; rfl
 have N0 := Fr.nil n0
 have Z0 : n0 ≤ h0.size := Nat.le_trans (Nat.le_of_eq O0.1.symm) O0.2.1
 obtain ⟨S0, hS0⟩ : ∃ z, z = s₁.setTop (entryFrame m #[(.int (3 : Int32))] 1) := ⟨_, rfl⟩
 have pre0 : ∀ tg, AT p e below s₁ m 0 #[iv (3 : Int32)] [] tg → Steps p.tables e below S0 tg := fun tg kg => by rw [hS0]; exact castTop (ef_1_4 m ) kg
 obtain ⟨S_TYPES, S_I16, E_I16, S_DOUBLE, E_DOUBLE, S_I64, E_I64, S_BINARY, E_BINARY, S_SET, E_SET, S_I8, E_I8, S_STRUCT, E_STRUCT, S_BOOL, E_BOOL, S_LIST, E_LIST, S_MAP, E_MAP, S_UUID, E_UUID, S_I32, E_I32, V_TYPES⟩ := id HW
 obtain ⟨T1, X1, e1, st1⟩ := getS2 X0 hx hZ hown (host := "") (Or.inl (ow hw 9 rfl)) Via.refl e0 (S_TYPES.ext O0.2) (g := (mkF m 9 #[iv (3 : Int32)] [])) rfl (hb hby d1_9)
 obtain ⟨cl2, Ar2, q2, S2, N2, H2, G2⟩ := id (V_TYPES.ext O0.2)
 have hin2 := own_in (3 : Int32) S2 ⟨by decide, by decide⟩
 have hat2 : cl2.slots[((3 : Int32)).toNatClampNeg]? = some (.ref w_I32) := Has.at H2 hin2 rfl
 obtain ⟨fs, hr, hrun, hended, hW, hsame⟩ := X1.leave (v := some (.ref w_I32)) (fun h => by rw [Bd.returns] at h; cases h)
 subst hS0
 refine ⟨_, _, pre0 _ ?_, hrun, hended, _, _, rfl, ?_, ⟨_, rfl⟩, hW, hsame.mono (by decide) (by decide)⟩
 ·
  refine XS.iloadN X0.here hx rfl (hb hby d1_0) rfl ?_
  show AT p e below s₁ m 1 #[iv (3 : Int32)] [(.int (3 : Int32))] _
  refine XS.iconst X0.here hx rfl (hb hby d1_1) ?_
  show AT p e below s₁ m 2 #[iv (3 : Int32)] [(.int (-1 : Int32)), (.int (3 : Int32))] _
  refine XS.icmpYes X0.here hx rfl (pc0 := 2) (pc' := 9) rfl (hb hby d1_2) rfl (XT.ii_ne_t ((by decide) : ¬ ((3 : Int32) = (-1 : Int32)))) (by decide) (by decide) ?_
  show AT p e below s₁ m 9 #[iv (3 : Int32)] [] _
  refine st1 _ ?_
  show AT p e below T1 m 12 #[iv (3 : Int32)] [(.ref w_TYPES)] _
  refine XS.iloadN X1.here hx rfl (hb hby d1_12) rfl ?_
  show AT p e below T1 m 13 #[iv (3 : Int32)] [(.int (3 : Int32)), (.ref w_TYPES)] _
  refine X1.aaload hx (j := (3 : Int32)) (v := (.ref w_I32)) (by rw [e1]; exact Ar2.1) (State.isArrayOf_alike hZ.alike Ar2.2.1) rfl Ar2.2.2 hin2 hat2 (g := (mkF m 13 #[iv (3 : Int32)] [(.int (3 : Int32)), (.ref w_TYPES)])) rfl rfl (hb hby d1_13) _ ?_
  show AT p e below T1 m 14 #[iv (3 : Int32)] [(.ref w_I32)] _
  exact retOut X1 hx (t := (.object "com/example/uni_frame/uniframe/protocol/ValueType")) (i := .areturn) Bd.returns rfl (Or.inr (Or.inr (Or.inr (Or.inr ⟨rfl, rfl, rfl⟩)))) (hb hby d1_14) hr
 ·
  show Q1_4 Z  w_TYPES w_I16 w_DOUBLE w_I64 w_BINARY w_SET w_I8 w_STRUCT w_BOOL w_LIST w_MAP w_UUID w_I32 k_TYPES h0 n0 _ T1.heap _
  rw [e1]
  exact ⟨rfl, N0, rfl⟩

theorem ef_1_5 (m : MethodId)  : entryFrame m #[(.int (4 : Int32))] 1 = mkF m 0 #[iv (4 : Int32)] [] := by first | (simp [entryFrame, mkF, argsToLocals, Value.category]; done) | rfl
def f1_5 (w_I64 : Addr) : Addr := w_I64
def Q1_5 (Z : State)  (w_TYPES : Addr) (w_I16 : Addr) (w_DOUBLE : Addr) (w_I64 : Addr) (w_BINARY : Addr) (w_SET : Addr) (w_I8 : Addr) (w_STRUCT : Addr) (w_BOOL : Addr) (w_LIST : Addr) (w_MAP : Addr) (w_UUID : Addr) (w_I32 : Addr) (k_TYPES : ClassId) (h0 : Heap) (n0 : Nat) (v : Option Value) (h : Heap) (L : List Loc) : Prop := v = some (.ref (f1_5 w_I64)) ∧ Fr n0 L ∧ h = h0
set_option maxRecDepth 65536 in
set_option maxHeartbeats 40000000 in
theorem rm1_5 (l : Launch) (Z : State) (ar : Array Value) (hw : ∀ d ∈ tables_1, d.before ar Z = true) (ws : List Jvm.Cond)  (w_TYPES : Addr) (w_I16 : Addr) (w_DOUBLE : Addr) (w_I64 : Addr) (w_BINARY : Addr) (w_SET : Addr) (w_I8 : Addr) (w_STRUCT : Addr) (w_BOOL : Addr) (w_LIST : Addr) (w_MAP : Addr) (w_UUID : Addr) (w_I32 : Addr) (k_TYPES : ClassId) (h0 : Heap) (n0 : Nat) (O0 : Old Z n0 h0) (HW : Wd Z w_TYPES w_I16 w_DOUBLE w_I64 w_BINARY w_SET w_I8 w_STRUCT w_BOOL w_LIST w_MAP w_UUID w_I32 k_TYPES) :
    MetFree l y1 (head1 (Jvm.Cond.code y1 prog_17_method_2_code 1 (some (.object "com/example/uni_frame/uniframe/protocol/ValueType")) :: ws) ({ frames := 0, cells := 0, slots := 0, locals := 0 } : Room)) (fun a U => a = #[(.int (4 : Int32))] ∧ Z.Warmed39 U.vm ∧ U.heap = h0) (fun _ _ _ _ _ => True) (fun _ U o U' => ∃ v L, o = .returned v ∧ Q1_5 Z  w_TYPES w_I16 w_DOUBLE w_I64 w_BINARY w_SET w_I8 w_STRUCT w_BOOL w_LIST w_MAP w_UUID w_I32 k_TYPES h0 n0 v U'.heap L ∧ FrameEnd U o U' L ({ frames := 0, cells := 0, slots := 0, locals := 0 } : Room).cells ({ frames := 0, cells := 0, slots := 0, locals := 0 } : Room).slots) := by
 refine MetFree.of_bodySF (plainFor_of_name pn_0) hisR ?_
 intro p e s m args below meth c s₁ Bd hml0 hP hK
 obtain ⟨rfl, hZ, hh⟩ := hP
 have hx := Bd.exec
 have hby := Bd.bytes
 have hml : c.maxLocals = 1 := hml0
 have hown : s.vm.findClass "com/example/uni_frame/uniframe/protocol/TypeCode" = some m.cls := findClass_of_methodNamed Bd.named
 have hnm := (name_of_methodNamed Bd.named Bd.method).1
 have X0 : Stand p l e ({ frames := 0, cells := 0, slots := 0, locals := 0 } : Room) s m #[(.int (4 : Int32))] below meth c s₁ [] 0 0 := Stand.of_body Bd
 have e0 : s₁.heap = h0 := by rw [← hh, Bd.state]; rfl
 have N0 := Fr.nil n0
 have Z0 : n0 ≤ h0.size := Nat.le_trans (Nat.le_of_eq O0.1.symm) O0.2.1
 obtain ⟨S0, hS0⟩ : ∃ z, z = s₁.setTop (entryFrame m #[(.int (4 : Int32))] 1) := ⟨_, rfl⟩
 have pre0 : ∀ tg, AT p e below s₁ m 0 #[iv (4 : Int32)] [] tg → Steps p.tables e below S0 tg := fun tg kg => by rw [hS0]; exact castTop (ef_1_5 m ) kg
 obtain ⟨S_TYPES, S_I16, E_I16, S_DOUBLE, E_DOUBLE, S_I64, E_I64, S_BINARY, E_BINARY, S_SET, E_SET, S_I8, E_I8, S_STRUCT, E_STRUCT, S_BOOL, E_BOOL, S_LIST, E_LIST, S_MAP, E_MAP, S_UUID, E_UUID, S_I32, E_I32, V_TYPES⟩ := id HW
 obtain ⟨T1, X1, e1, st1⟩ := getS2 X0 hx hZ hown (host := "") (Or.inl (ow hw 9 rfl)) Via.refl e0 (S_TYPES.ext O0.2) (g := (mkF m 9 #[iv (4 : Int32)] [])) rfl (hb hby d1_9)
 obtain ⟨cl2, Ar2, q2, S2, N2, H2, G2⟩ := id (V_TYPES.ext O0.2)
 have hin2 := own_in (4 : Int32) S2 ⟨by decide, by decide⟩
 have hat2 : cl2.slots[((4 : Int32)).toNatClampNeg]? = some (.ref w_I64) := Has.at H2 hin2 rfl
 obtain ⟨fs, hr, hrun, hended, hW, hsame⟩ := X1.leave (v := some (.ref w_I64)) (fun h => by rw [Bd.returns] at h; cases h)
 subst hS0
 refine ⟨_, _, pre0 _ ?_, hrun, hended, _, _, rfl, ?_, ⟨_, rfl⟩, hW, hsame.mono (by decide) (by decide)⟩
 ·
  refine XS.iloadN X0.here hx rfl (hb hby d1_0) rfl ?_
  show AT p e below s₁ m 1 #[iv (4 : Int32)] [(.int (4 : Int32))] _
  refine XS.iconst X0.here hx rfl (hb hby d1_1) ?_
  show AT p e below s₁ m 2 #[iv (4 : Int32)] [(.int (-1 : Int32)), (.int (4 : Int32))] _
  refine XS.icmpYes X0.here hx rfl (pc0 := 2) (pc' := 9) rfl (hb hby d1_2) rfl (XT.ii_ne_t ((by decide) : ¬ ((4 : Int32) = (-1 : Int32)))) (by decide) (by decide) ?_
  show AT p e below s₁ m 9 #[iv (4 : Int32)] [] _
  refine st1 _ ?_
  show AT p e below T1 m 12 #[iv (4 : Int32)] [(.ref w_TYPES)] _
  refine XS.iloadN X1.here hx rfl (hb hby d1_12) rfl ?_
  show AT p e below T1 m 13 #[iv (4 : Int32)] [(.int (4 : Int32)), (.ref w_TYPES)] _
  refine X1.aaload hx (j := (4 : Int32)) (v := (.ref w_I64)) (by rw [e1]; exact Ar2.1) (State.isArrayOf_alike hZ.alike Ar2.2.1) rfl Ar2.2.2 hin2 hat2 (g := (mkF m 13 #[iv (4 : Int32)] [(.int (4 : Int32)), (.ref w_TYPES)])) rfl rfl (hb hby d1_13) _ ?_
  show AT p e below T1 m 14 #[iv (4 : Int32)] [(.ref w_I64)] _
  exact retOut X1 hx (t := (.object "com/example/uni_frame/uniframe/protocol/ValueType")) (i := .areturn) Bd.returns rfl (Or.inr (Or.inr (Or.inr (Or.inr ⟨rfl, rfl, rfl⟩)))) (hb hby d1_14) hr
 ·
  show Q1_5 Z  w_TYPES w_I16 w_DOUBLE w_I64 w_BINARY w_SET w_I8 w_STRUCT w_BOOL w_LIST w_MAP w_UUID w_I32 k_TYPES h0 n0 _ T1.heap _
  rw [e1]
  exact ⟨rfl, N0, rfl⟩

theorem ef_1_6 (m : MethodId)  : entryFrame m #[(.int (5 : Int32))] 1 = mkF m 0 #[iv (5 : Int32)] [] := by first | (simp [entryFrame, mkF, argsToLocals, Value.category]; done) | rfl
def f1_6 (w_DOUBLE : Addr) : Addr := w_DOUBLE
def Q1_6 (Z : State)  (w_TYPES : Addr) (w_I16 : Addr) (w_DOUBLE : Addr) (w_I64 : Addr) (w_BINARY : Addr) (w_SET : Addr) (w_I8 : Addr) (w_STRUCT : Addr) (w_BOOL : Addr) (w_LIST : Addr) (w_MAP : Addr) (w_UUID : Addr) (w_I32 : Addr) (k_TYPES : ClassId) (h0 : Heap) (n0 : Nat) (v : Option Value) (h : Heap) (L : List Loc) : Prop := v = some (.ref (f1_6 w_DOUBLE)) ∧ Fr n0 L ∧ h = h0
set_option maxRecDepth 65536 in
set_option maxHeartbeats 40000000 in
theorem rm1_6 (l : Launch) (Z : State) (ar : Array Value) (hw : ∀ d ∈ tables_1, d.before ar Z = true) (ws : List Jvm.Cond)  (w_TYPES : Addr) (w_I16 : Addr) (w_DOUBLE : Addr) (w_I64 : Addr) (w_BINARY : Addr) (w_SET : Addr) (w_I8 : Addr) (w_STRUCT : Addr) (w_BOOL : Addr) (w_LIST : Addr) (w_MAP : Addr) (w_UUID : Addr) (w_I32 : Addr) (k_TYPES : ClassId) (h0 : Heap) (n0 : Nat) (O0 : Old Z n0 h0) (HW : Wd Z w_TYPES w_I16 w_DOUBLE w_I64 w_BINARY w_SET w_I8 w_STRUCT w_BOOL w_LIST w_MAP w_UUID w_I32 k_TYPES) :
    MetFree l y1 (head1 (Jvm.Cond.code y1 prog_17_method_2_code 1 (some (.object "com/example/uni_frame/uniframe/protocol/ValueType")) :: ws) ({ frames := 0, cells := 0, slots := 0, locals := 0 } : Room)) (fun a U => a = #[(.int (5 : Int32))] ∧ Z.Warmed39 U.vm ∧ U.heap = h0) (fun _ _ _ _ _ => True) (fun _ U o U' => ∃ v L, o = .returned v ∧ Q1_6 Z  w_TYPES w_I16 w_DOUBLE w_I64 w_BINARY w_SET w_I8 w_STRUCT w_BOOL w_LIST w_MAP w_UUID w_I32 k_TYPES h0 n0 v U'.heap L ∧ FrameEnd U o U' L ({ frames := 0, cells := 0, slots := 0, locals := 0 } : Room).cells ({ frames := 0, cells := 0, slots := 0, locals := 0 } : Room).slots) := by
 refine MetFree.of_bodySF (plainFor_of_name pn_0) hisR ?_
 intro p e s m args below meth c s₁ Bd hml0 hP hK
 obtain ⟨rfl, hZ, hh⟩ := hP
 have hx := Bd.exec
 have hby := Bd.bytes
 have hml : c.maxLocals = 1 := hml0
 have hown : s.vm.findClass "com/example/uni_frame/uniframe/protocol/TypeCode" = some m.cls := findClass_of_methodNamed Bd.named
 have hnm := (name_of_methodNamed Bd.named Bd.method).1
 have X0 : Stand p l e ({ frames := 0, cells := 0, slots := 0, locals := 0 } : Room) s m #[(.int (5 : Int32))] below meth c s₁ [] 0 0 := Stand.of_body Bd
 have e0 : s₁.heap = h0 := by rw [← hh, Bd.state]; rfl
 have N0 := Fr.nil n0
 have Z0 : n0 ≤ h0.size := Nat.le_trans (Nat.le_of_eq O0.1.symm) O0.2.1
 obtain ⟨S0, hS0⟩ : ∃ z, z = s₁.setTop (entryFrame m #[(.int (5 : Int32))] 1) := ⟨_, rfl⟩
 have pre0 : ∀ tg, AT p e below s₁ m 0 #[iv (5 : Int32)] [] tg → Steps p.tables e below S0 tg := fun tg kg => by rw [hS0]; exact castTop (ef_1_6 m ) kg
 obtain ⟨S_TYPES, S_I16, E_I16, S_DOUBLE, E_DOUBLE, S_I64, E_I64, S_BINARY, E_BINARY, S_SET, E_SET, S_I8, E_I8, S_STRUCT, E_STRUCT, S_BOOL, E_BOOL, S_LIST, E_LIST, S_MAP, E_MAP, S_UUID, E_UUID, S_I32, E_I32, V_TYPES⟩ := id HW
 obtain ⟨T1, X1, e1, st1⟩ := getS2 X0 hx hZ hown (host := "") (Or.inl (ow hw 9 rfl)) Via.refl e0 (S_TYPES.ext O0.2) (g := (mkF m 9 #[iv (5 : Int32)] [])) rfl (hb hby d1_9)
 obtain ⟨cl2, Ar2, q2, S2, N2, H2, G2⟩ := id (V_TYPES.ext O0.2)
 have hin2 := own_in (5 : Int32) S2 ⟨by decide, by decide⟩
 have hat2 : cl2.slots[((5 : Int32)).toNatClampNeg]? = some (.ref w_DOUBLE) := Has.at H2 hin2 rfl
 obtain ⟨fs, hr, hrun, hended, hW, hsame⟩ := X1.leave (v := some (.ref w_DOUBLE)) (fun h => by rw [Bd.returns] at h; cases h)
 subst hS0
 refine ⟨_, _, pre0 _ ?_, hrun, hended, _, _, rfl, ?_, ⟨_, rfl⟩, hW, hsame.mono (by decide) (by decide)⟩
 ·
  refine XS.iloadN X0.here hx rfl (hb hby d1_0) rfl ?_
  show AT p e below s₁ m 1 #[iv (5 : Int32)] [(.int (5 : Int32))] _
  refine XS.iconst X0.here hx rfl (hb hby d1_1) ?_
  show AT p e below s₁ m 2 #[iv (5 : Int32)] [(.int (-1 : Int32)), (.int (5 : Int32))] _
  refine XS.icmpYes X0.here hx rfl (pc0 := 2) (pc' := 9) rfl (hb hby d1_2) rfl (XT.ii_ne_t ((by decide) : ¬ ((5 : Int32) = (-1 : Int32)))) (by decide) (by decide) ?_
  show AT p e below s₁ m 9 #[iv (5 : Int32)] [] _
  refine st1 _ ?_
  show AT p e below T1 m 12 #[iv (5 : Int32)] [(.ref w_TYPES)] _
  refine XS.iloadN X1.here hx rfl (hb hby d1_12) rfl ?_
  show AT p e below T1 m 13 #[iv (5 : Int32)] [(.int (5 : Int32)), (.ref w_TYPES)] _
  refine X1.aaload hx (j := (5 : Int32)) (v := (.ref w_DOUBLE)) (by rw [e1]; exact Ar2.1) (State.isArrayOf_alike hZ.alike Ar2.2.1) rfl Ar2.2.2 hin2 hat2 (g := (mkF m 13 #[iv (5 : Int32)] [(.int (5 : Int32)), (.ref w_TYPES)])) rfl rfl (hb hby d1_13) _ ?_
  show AT p e below T1 m 14 #[iv (5 : Int32)] [(.ref w_DOUBLE)] _
  exact retOut X1 hx (t := (.object "com/example/uni_frame/uniframe/protocol/ValueType")) (i := .areturn) Bd.returns rfl (Or.inr (Or.inr (Or.inr (Or.inr ⟨rfl, rfl, rfl⟩)))) (hb hby d1_14) hr
 ·
  show Q1_6 Z  w_TYPES w_I16 w_DOUBLE w_I64 w_BINARY w_SET w_I8 w_STRUCT w_BOOL w_LIST w_MAP w_UUID w_I32 k_TYPES h0 n0 _ T1.heap _
  rw [e1]
  exact ⟨rfl, N0, rfl⟩

theorem ef_1_7 (m : MethodId)  : entryFrame m #[(.int (6 : Int32))] 1 = mkF m 0 #[iv (6 : Int32)] [] := by first | (simp [entryFrame, mkF, argsToLocals, Value.category]; done) | rfl
def f1_7 (w_BINARY : Addr) : Addr := w_BINARY
def Q1_7 (Z : State)  (w_TYPES : Addr) (w_I16 : Addr) (w_DOUBLE : Addr) (w_I64 : Addr) (w_BINARY : Addr) (w_SET : Addr) (w_I8 : Addr) (w_STRUCT : Addr) (w_BOOL : Addr) (w_LIST : Addr) (w_MAP : Addr) (w_UUID : Addr) (w_I32 : Addr) (k_TYPES : ClassId) (h0 : Heap) (n0 : Nat) (v : Option Value) (h : Heap) (L : List Loc) : Prop := v = some (.ref (f1_7 w_BINARY)) ∧ Fr n0 L ∧ h = h0
set_option maxRecDepth 65536 in
set_option maxHeartbeats 40000000 in
theorem rm1_7 (l : Launch) (Z : State) (ar : Array Value) (hw : ∀ d ∈ tables_1, d.before ar Z = true) (ws : List Jvm.Cond)  (w_TYPES : Addr) (w_I16 : Addr) (w_DOUBLE : Addr) (w_I64 : Addr) (w_BINARY : Addr) (w_SET : Addr) (w_I8 : Addr) (w_STRUCT : Addr) (w_BOOL : Addr) (w_LIST : Addr) (w_MAP : Addr) (w_UUID : Addr) (w_I32 : Addr) (k_TYPES : ClassId) (h0 : Heap) (n0 : Nat) (O0 : Old Z n0 h0) (HW : Wd Z w_TYPES w_I16 w_DOUBLE w_I64 w_BINARY w_SET w_I8 w_STRUCT w_BOOL w_LIST w_MAP w_UUID w_I32 k_TYPES) :
    MetFree l y1 (head1 (Jvm.Cond.code y1 prog_17_method_2_code 1 (some (.object "com/example/uni_frame/uniframe/protocol/ValueType")) :: ws) ({ frames := 0, cells := 0, slots := 0, locals := 0 } : Room)) (fun a U => a = #[(.int (6 : Int32))] ∧ Z.Warmed39 U.vm ∧ U.heap = h0) (fun _ _ _ _ _ => True) (fun _ U o U' => ∃ v L, o = .returned v ∧ Q1_7 Z  w_TYPES w_I16 w_DOUBLE w_I64 w_BINARY w_SET w_I8 w_STRUCT w_BOOL w_LIST w_MAP w_UUID w_I32 k_TYPES h0 n0 v U'.heap L ∧ FrameEnd U o U' L ({ frames := 0, cells := 0, slots := 0, locals := 0 } : Room).cells ({ frames := 0, cells := 0, slots := 0, locals := 0 } : Room).slots) := by
 refine MetFree.of_bodySF (plainFor_of_name pn_0) hisR ?_
 intro p e s m args below meth c s₁ Bd hml0 hP hK
 obtain ⟨rfl, hZ, hh⟩ := hP
 have hx := Bd.exec
 have hby := Bd.bytes
 have hml : c.maxLocals = 1 := hml0
 have hown : s.vm.findClass "com/example/uni_frame/uniframe/protocol/TypeCode" = some m.cls := findClass_of_methodNamed Bd.named
 have hnm := (name_of_methodNamed Bd.named Bd.method).1
 have X0 : Stand p l e ({ frames := 0, cells := 0, slots := 0, locals := 0 } : Room) s m #[(.int (6 : Int32))] below meth c s₁ [] 0 0 := Stand.of_body Bd
 have e0 : s₁.heap = h0 := by rw [← hh, Bd.state]; rfl
 have N0 := Fr.nil n0
 have Z0 : n0 ≤ h0.size := Nat.le_trans (Nat.le_of_eq O0.1.symm) O0.2.1
 obtain ⟨S0, hS0⟩ : ∃ z, z = s₁.setTop (entryFrame m #[(.int (6 : Int32))] 1) := ⟨_, rfl⟩
 have pre0 : ∀ tg, AT p e below s₁ m 0 #[iv (6 : Int32)] [] tg → Steps p.tables e below S0 tg := fun tg kg => by rw [hS0]; exact castTop (ef_1_7 m ) kg
 obtain ⟨S_TYPES, S_I16, E_I16, S_DOUBLE, E_DOUBLE, S_I64, E_I64, S_BINARY, E_BINARY, S_SET, E_SET, S_I8, E_I8, S_STRUCT, E_STRUCT, S_BOOL, E_BOOL, S_LIST, E_LIST, S_MAP, E_MAP, S_UUID, E_UUID, S_I32, E_I32, V_TYPES⟩ := id HW
 obtain ⟨T1, X1, e1, st1⟩ := getS2 X0 hx hZ hown (host := "") (Or.inl (ow hw 9 rfl)) Via.refl e0 (S_TYPES.ext O0.2) (g := (mkF m 9 #[iv (6 : Int32)] [])) rfl (hb hby d1_9)
 obtain ⟨cl2, Ar2, q2, S2, N2, H2, G2⟩ := id (V_TYPES.ext O0.2)
 have hin2 := own_in (6 : Int32) S2 ⟨by decide, by decide⟩
 have hat2 : cl2.slots[((6 : Int32)).toNatClampNeg]? = some (.ref w_BINARY) := Has.at H2 hin2 rfl
 obtain ⟨fs, hr, hrun, hended, hW, hsame⟩ := X1.leave (v := some (.ref w_BINARY)) (fun h => by rw [Bd.returns] at h; cases h)
 subst hS0
 refine ⟨_, _, pre0 _ ?_, hrun, hended, _, _, rfl, ?_, ⟨_, rfl⟩, hW, hsame.mono (by decide) (by decide)⟩
 ·
  refine XS.iloadN X0.here hx rfl (hb hby d1_0) rfl ?_
  show AT p e below s₁ m 1 #[iv (6 : Int32)] [(.int (6 : Int32))] _
  refine XS.iconst X0.here hx rfl (hb hby d1_1) ?_
  show AT p e below s₁ m 2 #[iv (6 : Int32)] [(.int (-1 : Int32)), (.int (6 : Int32))] _
  refine XS.icmpYes X0.here hx rfl (pc0 := 2) (pc' := 9) rfl (hb hby d1_2) rfl (XT.ii_ne_t ((by decide) : ¬ ((6 : Int32) = (-1 : Int32)))) (by decide) (by decide) ?_
  show AT p e below s₁ m 9 #[iv (6 : Int32)] [] _
  refine st1 _ ?_
  show AT p e below T1 m 12 #[iv (6 : Int32)] [(.ref w_TYPES)] _
  refine XS.iloadN X1.here hx rfl (hb hby d1_12) rfl ?_
  show AT p e below T1 m 13 #[iv (6 : Int32)] [(.int (6 : Int32)), (.ref w_TYPES)] _
  refine X1.aaload hx (j := (6 : Int32)) (v := (.ref w_BINARY)) (by rw [e1]; exact Ar2.1) (State.isArrayOf_alike hZ.alike Ar2.2.1) rfl Ar2.2.2 hin2 hat2 (g := (mkF m 13 #[iv (6 : Int32)] [(.int (6 : Int32)), (.ref w_TYPES)])) rfl rfl (hb hby d1_13) _ ?_
  show AT p e below T1 m 14 #[iv (6 : Int32)] [(.ref w_BINARY)] _
  exact retOut X1 hx (t := (.object "com/example/uni_frame/uniframe/protocol/ValueType")) (i := .areturn) Bd.returns rfl (Or.inr (Or.inr (Or.inr (Or.inr ⟨rfl, rfl, rfl⟩)))) (hb hby d1_14) hr
 ·
  show Q1_7 Z  w_TYPES w_I16 w_DOUBLE w_I64 w_BINARY w_SET w_I8 w_STRUCT w_BOOL w_LIST w_MAP w_UUID w_I32 k_TYPES h0 n0 _ T1.heap _
  rw [e1]
  exact ⟨rfl, N0, rfl⟩

theorem ef_1_8 (m : MethodId)  : entryFrame m #[(.int (7 : Int32))] 1 = mkF m 0 #[iv (7 : Int32)] [] := by first | (simp [entryFrame, mkF, argsToLocals, Value.category]; done) | rfl
def f1_8 (w_LIST : Addr) : Addr := w_LIST
def Q1_8 (Z : State)  (w_TYPES : Addr) (w_I16 : Addr) (w_DOUBLE : Addr) (w_I64 : Addr) (w_BINARY : Addr) (w_SET : Addr) (w_I8 : Addr) (w_STRUCT : Addr) (w_BOOL : Addr) (w_LIST : Addr) (w_MAP : Addr) (w_UUID : Addr) (w_I32 : Addr) (k_TYPES : ClassId) (h0 : Heap) (n0 : Nat) (v : Option Value) (h : Heap) (L : List Loc) : Prop := v = some (.ref (f1_8 w_LIST)) ∧ Fr n0 L ∧ h = h0
set_option maxRecDepth 65536 in
set_option maxHeartbeats 40000000 in
theorem rm1_8 (l : Launch) (Z : State) (ar : Array Value) (hw : ∀ d ∈ tables_1, d.before ar Z = true) (ws : List Jvm.Cond)  (w_TYPES : Addr) (w_I16 : Addr) (w_DOUBLE : Addr) (w_I64 : Addr) (w_BINARY : Addr) (w_SET : Addr) (w_I8 : Addr) (w_STRUCT : Addr) (w_BOOL : Addr) (w_LIST : Addr) (w_MAP : Addr) (w_UUID : Addr) (w_I32 : Addr) (k_TYPES : ClassId) (h0 : Heap) (n0 : Nat) (O0 : Old Z n0 h0) (HW : Wd Z w_TYPES w_I16 w_DOUBLE w_I64 w_BINARY w_SET w_I8 w_STRUCT w_BOOL w_LIST w_MAP w_UUID w_I32 k_TYPES) :
    MetFree l y1 (head1 (Jvm.Cond.code y1 prog_17_method_2_code 1 (some (.object "com/example/uni_frame/uniframe/protocol/ValueType")) :: ws) ({ frames := 0, cells := 0, slots := 0, locals := 0 } : Room)) (fun a U => a = #[(.int (7 : Int32))] ∧ Z.Warmed39 U.vm ∧ U.heap = h0) (fun _ _ _ _ _ => True) (fun _ U o U' => ∃ v L, o = .returned v ∧ Q1_8 Z  w_TYPES w_I16 w_DOUBLE w_I64 w_BINARY w_SET w_I8 w_STRUCT w_BOOL w_LIST w_MAP w_UUID w_I32 k_TYPES h0 n0 v U'.heap L ∧ FrameEnd U o U' L ({ frames := 0, cells := 0, slots := 0, locals := 0 } : Room).cells ({ frames := 0, cells := 0, slots := 0, locals := 0 } : Room).slots) := by
 refine MetFree.of_bodySF (plainFor_of_name pn_0) hisR ?_
 intro p e s m args below meth c s₁ Bd hml0 hP hK
 obtain ⟨rfl, hZ, hh⟩ := hP
 have hx := Bd.exec
 have hby := Bd.bytes
 have hml : c.maxLocals = 1 := hml0
 have hown : s.vm.findClass "com/example/uni_frame/uniframe/protocol/TypeCode" = some m.cls := findClass_of_methodNamed Bd.named
 have hnm := (name_of_methodNamed Bd.named Bd.method).1
 have X0 : Stand p l e ({ frames := 0, cells := 0, slots := 0, locals := 0 } : Room) s m #[(.int (7 : Int32))] below meth c s₁ [] 0 0 := Stand.of_body Bd
 have e0 : s₁.heap = h0 := by rw [← hh, Bd.state]; rfl
 have N0 := Fr.nil n0
 have Z0 : n0 ≤ h0.size := Nat.le_trans (Nat.le_of_eq O0.1.symm) O0.2.1
 obtain ⟨S0, hS0⟩ : ∃ z, z = s₁.setTop (entryFrame m #[(.int (7 : Int32))] 1) := ⟨_, rfl⟩
 have pre0 : ∀ tg, AT p e below s₁ m 0 #[iv (7 : Int32)] [] tg → Steps p.tables e below S0 tg := fun tg kg => by rw [hS0]; exact castTop (ef_1_8 m ) kg
 obtain ⟨S_TYPES, S_I16, E_I16, S_DOUBLE, E_DOUBLE, S_I64, E_I64, S_BINARY, E_BINARY, S_SET, E_SET, S_I8, E_I8, S_STRUCT, E_STRUCT, S_BOOL, E_BOOL, S_LIST, E_LIST, S_MAP, E_MAP, S_UUID, E_UUID, S_I32, E_I32, V_TYPES⟩ := id HW
 obtain ⟨T1, X1, e1, st1⟩ := getS2 X0 hx hZ hown (host := "") (Or.inl (ow hw 9 rfl)) Via.refl e0 (S_TYPES.ext O0.2) (g := (mkF m 9 #[iv (7 : Int32)] [])) rfl (hb hby d1_9)
 obtain ⟨cl2, Ar2, q2, S2, N2, H2, G2⟩ := id (V_TYPES.ext O0.2)
 have hin2 := own_in (7 : Int32) S2 ⟨by decide, by decide⟩
 have hat2 : cl2.slots[((7 : Int32)).toNatClampNeg]? = some (.ref w_LIST) := Has.at H2 hin2 rfl
 obtain ⟨fs, hr, hrun, hended, hW, hsame⟩ := X1.leave (v := some (.ref w_LIST)) (fun h => by rw [Bd.returns] at h; cases h)
 subst hS0
 refine ⟨_, _, pre0 _ ?_, hrun, hended, _, _, rfl, ?_, ⟨_, rfl⟩, hW, hsame.mono (by decide) (by decide)⟩
 ·
  refine XS.iloadN X0.here hx rfl (hb hby d1_0) rfl ?_
  show AT p e below s₁ m 1 #[iv (7 : Int32)] [(.int (7 : Int32))] _
  refine XS.iconst X0.here hx rfl (hb hby d1_1) ?_
  show AT p e below s₁ m 2 #[iv (7 : Int32)] [(.int (-1 : Int32)), (.int (7 : Int32))] _
  refine XS.icmpYes X0.here hx rfl (pc0 := 2) (pc' := 9) rfl (hb hby d1_2) rfl (XT.ii_ne_t ((by decide) : ¬ ((7 : Int32) = (-1 : Int32)))) (by decide) (by decide) ?_
  show AT p e below s₁ m 9 #[iv (7 : Int32)] [] _
  refine st1 _ ?_
  show AT p e below T1 m 12 #[iv (7 : Int32)] [(.ref w_TYPES)] _
  refine XS.iloadN X1.here hx rfl (hb hby d1_12) rfl ?_
  show AT p e below T1 m 13 #[iv (7 : Int32)] [(.int (7 : Int32)), (.ref w_TYPES)] _
  refine X1.aaload hx (j := (7 : Int32)) (v := (.ref w_LIST)) (by rw [e1]; exact Ar2.1) (State.isArrayOf_alike hZ.alike Ar2.2.1) rfl Ar2.2.2 hin2 hat2 (g := (mkF m 13 #[iv (7 : Int32)] [(.int (7 : Int32)), (.ref w_TYPES)])) rfl rfl (hb hby d1_13) _ ?_
  show AT p e below T1 m 14 #[iv (7 : Int32)] [(.ref w_LIST)] _
  exact retOut X1 hx (t := (.object "com/example/uni_frame/uniframe/protocol/ValueType")) (i := .areturn) Bd.returns rfl (Or.inr (Or.inr (Or.inr (Or.inr ⟨rfl, rfl, rfl⟩)))) (hb hby d1_14) hr
 ·
  show Q1_8 Z  w_TYPES w_I16 w_DOUBLE w_I64 w_BINARY w_SET w_I8 w_STRUCT w_BOOL w_LIST w_MAP w_UUID w_I32 k_TYPES h0 n0 _ T1.heap _
  rw [e1]
  exact ⟨rfl, N0, rfl⟩

theorem ef_1_9 (m : MethodId)  : entryFrame m #[(.int (8 : Int32))] 1 = mkF m 0 #[iv (8 : Int32)] [] := by first | (simp [entryFrame, mkF, argsToLocals, Value.category]; done) | rfl
def f1_9 (w_SET : Addr) : Addr := w_SET
def Q1_9 (Z : State)  (w_TYPES : Addr) (w_I16 : Addr) (w_DOUBLE : Addr) (w_I64 : Addr) (w_BINARY : Addr) (w_SET : Addr) (w_I8 : Addr) (w_STRUCT : Addr) (w_BOOL : Addr) (w_LIST : Addr) (w_MAP : Addr) (w_UUID : Addr) (w_I32 : Addr) (k_TYPES : ClassId) (h0 : Heap) (n0 : Nat) (v : Option Value) (h : Heap) (L : List Loc) : Prop := v = some (.ref (f1_9 w_SET)) ∧ Fr n0 L ∧ h = h0
set_option maxRecDepth 65536 in
set_option maxHeartbeats 40000000 in
theorem rm1_9 (l : Launch) (Z : State) (ar : Array Value) (hw : ∀ d ∈ tables_1, d.before ar Z = true) (ws : List Jvm.Cond)  (w_TYPES : Addr) (w_I16 : Addr) (w_DOUBLE : Addr) (w_I64 : Addr) (w_BINARY : Addr) (w_SET : Addr) (w_I8 : Addr) (w_STRUCT : Addr) (w_BOOL : Addr) (w_LIST : Addr) (w_MAP : Addr) (w_UUID : Addr) (w_I32 : Addr) (k_TYPES : ClassId) (h0 : Heap) (n0 : Nat) (O0 : Old Z n0 h0) (HW : Wd Z w_TYPES w_I16 w_DOUBLE w_I64 w_BINARY w_SET w_I8 w_STRUCT w_BOOL w_LIST w_MAP w_UUID w_I32 k_TYPES) :
    MetFree l y1 (head1 (Jvm.Cond.code y1 prog_17_method_2_code 1 (some (.object "com/example/uni_frame/uniframe/protocol/ValueType")) :: ws) ({ frames := 0, cells := 0, slots := 0, locals := 0 } : Room)) (fun a U => a = #[(.int (8 : Int32))] ∧ Z.Warmed39 U.vm ∧ U.heap = h0) (fun _ _ _ _ _ => True) (fun _ U o U' => ∃ v L, o = .returned v ∧ Q1_9 Z  w_TYPES w_I16 w_DOUBLE w_I64 w_BINARY w_SET w_I8 w_STRUCT w_BOOL w_LIST w_MAP w_UUID w_I32 k_TYPES h0 n0 v U'.heap L ∧ FrameEnd U o U' L ({ frames := 0, cells := 0, slots := 0, locals := 0 } : Room).cells ({ frames := 0, cells := 0, slots := 0, locals := 0 } : Room).slots) := by
 refine MetFree.of_bodySF (plainFor_of_name pn_0) hisR ?_
 intro p e s m args below meth c s₁ Bd hml0 hP hK
 obtain ⟨rfl, hZ, hh⟩ := hP
 have hx := Bd.exec
 have hby := Bd.bytes
 have hml : c.maxLocals = 1 := hml0
 have hown : s.vm.findClass "com/example/uni_frame/uniframe/protocol/TypeCode" = some m.cls := findClass_of_methodNamed Bd.named
 have hnm := (name_of_methodNamed Bd.named Bd.method).1
 have X0 : Stand p l e ({ frames := 0, cells := 0, slots := 0, locals := 0 } : Room) s m #[(.int (8 : Int32))] below meth c s₁ [] 0 0 := Stand.of_body Bd
 have e0 : s₁.heap = h0 := by rw [← hh, Bd.state]; rfl
 have N0 := Fr.nil n0
 have Z0 : n0 ≤ h0.size := Nat.le_trans (Nat.le_of_eq O0.1.symm) O0.2.1
 obtain ⟨S0, hS0⟩ : ∃ z, z = s₁.setTop (entryFrame m #[(.int (8 : Int32))] 1) := ⟨_, rfl⟩
 have pre0 : ∀ tg, AT p e below s₁ m 0 #[iv (8 : Int32)] [] tg → Steps p.tables e below S0 tg := fun tg kg => by rw [hS0]; exact castTop (ef_1_9 m ) kg
 obtain ⟨S_TYPES, S_I16, E_I16, S_DOUBLE, E_DOUBLE, S_I64, E_I64, S_BINARY, E_BINARY, S_SET, E_SET, S_I8, E_I8, S_STRUCT, E_STRUCT, S_BOOL, E_BOOL, S_LIST, E_LIST, S_MAP, E_MAP, S_UUID, E_UUID, S_I32, E_I32, V_TYPES⟩ := id HW
 obtain ⟨T1, X1, e1, st1⟩ := getS2 X0 hx hZ hown (host := "") (Or.inl (ow hw 9 rfl)) Via.refl e0 (S_TYPES.ext O0.2) (g := (mkF m 9 #[iv (8 : Int32)] [])) rfl (hb hby d1_9)
 obtain ⟨cl2, Ar2, q2, S2, N2, H2, G2⟩ := id (V_TYPES.ext O0.2)
 have hin2 := own_in (8 : Int32) S2 ⟨by decide, by decide⟩
 have hat2 : cl2.slots[((8 : Int32)).toNatClampNeg]? = some (.ref w_SET) := Has.at H2 hin2 rfl
 obtain ⟨fs, hr, hrun, hended, hW, hsame⟩ := X1.leave (v := some (.ref w_SET)) (fun h => by rw [Bd.returns] at h; cases h)
 subst hS0
 refine ⟨_, _, pre0 _ ?_, hrun, hended, _, _, rfl, ?_, ⟨_, rfl⟩, hW, hsame.mono (by decide) (by decide)⟩
 ·
  refine XS.iloadN X0.here hx rfl (hb hby d1_0) rfl ?_
  show AT p e below s₁ m 1 #[iv (8 : Int32)] [(.int (8 : Int32))] _
  refine XS.iconst X0.here hx rfl (hb hby d1_1) ?_
  show AT p e below s₁ m 2 #[iv (8 : Int32)] [(.int (-1 : Int32)), (.int (8 : Int32))] _
  refine XS.icmpYes X0.here hx rfl (pc0 := 2) (pc' := 9) rfl (hb hby d1_2) rfl (XT.ii_ne_t ((by decide) : ¬ ((8 : Int32) = (-1 : Int32)))) (by decide) (by decide) ?_
  show AT p e below s₁ m 9 #[iv (8 : Int32)] [] _
  refine st1 _ ?_
  show AT p e below T1 m 12 #[iv (8 : Int32)] [(.ref w_TYPES)] _
  refine XS.iloadN X1.here hx rfl (hb hby d1_12) rfl ?_
  show AT p e below T1 m 13 #[iv (8 : Int32)] [(.int (8 : Int32)), (.ref w_TYPES)] _
  refine X1.aaload hx (j := (8 : Int32)) (v := (.ref w_SET)) (by rw [e1]; exact Ar2.1) (State.isArrayOf_alike hZ.alike Ar2.2.1) rfl Ar2.2.2 hin2 hat2 (g := (mkF m 13 #[iv (8 : Int32)] [(.int (8 : Int32)), (.ref w_TYPES)])) rfl rfl (hb hby d1_13) _ ?_
  show AT p e below T1 m 14 #[iv (8 : Int32)] [(.ref w_SET)] _
  exact retOut X1 hx (t := (.object "com/example/uni_frame/uniframe/protocol/ValueType")) (i := .areturn) Bd.returns rfl (Or.inr (Or.inr (Or.inr (Or.inr ⟨rfl, rfl, rfl⟩)))) (hb hby d1_14) hr
 ·
  show Q1_9 Z  w_TYPES w_I16 w_DOUBLE w_I64 w_BINARY w_SET w_I8 w_STRUCT w_BOOL w_LIST w_MAP w_UUID w_I32 k_TYPES h0 n0 _ T1.heap _
  rw [e1]
  exact ⟨rfl, N0, rfl⟩

theorem ef_1_10 (m : MethodId)  : entryFrame m #[(.int (9 : Int32))] 1 = mkF m 0 #[iv (9 : Int32)] [] := by first | (simp [entryFrame, mkF, argsToLocals, Value.category]; done) | rfl
def f1_10 (w_MAP : Addr) : Addr := w_MAP
def Q1_10 (Z : State)  (w_TYPES : Addr) (w_I16 : Addr) (w_DOUBLE : Addr) (w_I64 : Addr) (w_BINARY : Addr) (w_SET : Addr) (w_I8 : Addr) (w_STRUCT : Addr) (w_BOOL : Addr) (w_LIST : Addr) (w_MAP : Addr) (w_UUID : Addr) (w_I32 : Addr) (k_TYPES : ClassId) (h0 : Heap) (n0 : Nat) (v : Option Value) (h : Heap) (L : List Loc) : Prop := v = some (.ref (f1_10 w_MAP)) ∧ Fr n0 L ∧ h = h0
set_option maxRecDepth 65536 in
set_option maxHeartbeats 40000000 in
theorem rm1_10 (l : Launch) (Z : State) (ar : Array Value) (hw : ∀ d ∈ tables_1, d.before ar Z = true) (ws : List Jvm.Cond)  (w_TYPES : Addr) (w_I16 : Addr) (w_DOUBLE : Addr) (w_I64 : Addr) (w_BINARY : Addr) (w_SET : Addr) (w_I8 : Addr) (w_STRUCT : Addr) (w_BOOL : Addr) (w_LIST : Addr) (w_MAP : Addr) (w_UUID : Addr) (w_I32 : Addr) (k_TYPES : ClassId) (h0 : Heap) (n0 : Nat) (O0 : Old Z n0 h0) (HW : Wd Z w_TYPES w_I16 w_DOUBLE w_I64 w_BINARY w_SET w_I8 w_STRUCT w_BOOL w_LIST w_MAP w_UUID w_I32 k_TYPES) :
    MetFree l y1 (head1 (Jvm.Cond.code y1 prog_17_method_2_code 1 (some (.object "com/example/uni_frame/uniframe/protocol/ValueType")) :: ws) ({ frames := 0, cells := 0, slots := 0, locals := 0 } : Room)) (fun a U => a = #[(.int (9 : Int32))] ∧ Z.Warmed39 U.vm ∧ U.heap = h0) (fun _ _ _ _ _ => True) (fun _ U o U' => ∃ v L, o = .returned v ∧ Q1_10 Z  w_TYPES w_I16 w_DOUBLE w_I64 w_BINARY w_SET w_I8 w_STRUCT w_BOOL w_LIST w_MAP w_UUID w_I32 k_TYPES h0 n0 v U'.heap L ∧ FrameEnd U o U' L ({ frames := 0, cells := 0, slots := 0, locals := 0 } : Room).cells ({ frames := 0, cells := 0, slots := 0, locals := 0 } : Room).slots) := by
 refine MetFree.of_bodySF (plainFor_of_name pn_0) hisR ?_
 intro p e s m args below meth c s₁ Bd hml0 hP hK
 obtain ⟨rfl, hZ, hh⟩ := hP
 have hx := Bd.exec
 have hby := Bd.bytes
 have hml : c.maxLocals = 1 := hml0
 have hown : s.vm.findClass "com/example/uni_frame/uniframe/protocol/TypeCode" = some m.cls := findClass_of_methodNamed Bd.named
 have hnm := (name_of_methodNamed Bd.named Bd.method).1
 have X0 : Stand p l e ({ frames := 0, cells := 0, slots := 0, locals := 0 } : Room) s m #[(.int (9 : Int32))] below meth c s₁ [] 0 0 := Stand.of_body Bd
 have e0 : s₁.heap = h0 := by rw [← hh, Bd.state]; rfl
 have N0 := Fr.nil n0
 have Z0 : n0 ≤ h0.size := Nat.le_trans (Nat.le_of_eq O0.1.symm) O0.2.1
 obtain ⟨S0, hS0⟩ : ∃ z, z = s₁.setTop (entryFrame m #[(.int (9 : Int32))] 1) := ⟨_, rfl⟩
 have pre0 : ∀ tg, AT p e below s₁ m 0 #[iv (9 : Int32)] [] tg → Steps p.tables e below S0 tg := fun tg kg => by rw [hS0]; exact castTop (ef_1_10 m ) kg
 obtain ⟨S_TYPES, S_I16, E_I16, S_DOUBLE, E_DOUBLE, S_I64, E_I64, S_BINARY, E_BINARY, S_SET, E_SET, S_I8, E_I8, S_STRUCT, E_STRUCT, S_BOOL, E_BOOL, S_LIST, E_LIST, S_MAP, E_MAP, S_UUID, E_UUID, S_I32, E_I32, V_TYPES⟩ := id HW
 obtain ⟨T1, X1, e1, st1⟩ := getS2 X0 hx hZ hown (host := "") (Or.inl (ow hw 9 rfl)) Via.refl e0 (S_TYPES.ext O0.2) (g := (mkF m 9 #[iv (9 : Int32)] [])) rfl (hb hby d1_9)
 obtain ⟨cl2, Ar2, q2, S2, N2, H2, G2⟩ := id (V_TYPES.ext O0.2)
 have hin2 := own_in (9 : Int32) S2 ⟨by decide, by decide⟩
 have hat2 : cl2.slots[((9 : Int32)).toNatClampNeg]? = some (.ref w_MAP) := Has.at H2 hin2 rfl
 obtain ⟨fs, hr, hrun, hended, hW, hsame⟩ := X1.leave (v := some (.ref w_MAP)) (fun h => by rw [Bd.returns] at h; cases h)
 subst hS0
 refine ⟨_, _, pre0 _ ?_, hrun, hended, _, _, rfl, ?_, ⟨_, rfl⟩, hW, hsame.mono (by decide) (by decide)⟩
 ·
  refine XS.iloadN X0.here hx rfl (hb hby d1_0) rfl ?_
  show AT p e below s₁ m 1 #[iv (9 : Int32)] [(.int (9 : Int32))] _
  refine XS.iconst X0.here hx rfl (hb hby d1_1) ?_
  show AT p e below s₁ m 2 #[iv (9 : Int32)] [(.int (-1 : Int32)), (.int (9 : Int32))] _
  refine XS.icmpYes X0.here hx rfl (pc0 := 2) (pc' := 9) rfl (hb hby d1_2) rfl (XT.ii_ne_t ((by decide) : ¬ ((9 : Int32) = (-1 : Int32)))) (by decide) (by decide) ?_
  show AT p e below s₁ m 9 #[iv (9 : Int32)] [] _
  refine st1 _ ?_
  show AT p e below T1 m 12 #[iv (9 : Int32)] [(.ref w_TYPES)] _
  refine XS.iloadN X1.here hx rfl (hb hby d1_12) rfl ?_
  show AT p e below T1 m 13 #[iv (9 : Int32)] [(.int (9 : Int32)), (.ref w_TYPES)] _
  refine X1.aaload hx (j := (9 : Int32)) (v := (.ref w_MAP)) (by rw [e1]; exact Ar2.1) (State.isArrayOf_alike hZ.alike Ar2.2.1) rfl Ar2.2.2 hin2 hat2 (g := (mkF m 13 #[iv (9 : Int32)] [(.int (9 : Int32)), (.ref w_TYPES)])) rfl rfl (hb hby d1_13) _ ?_
  show AT p e below T1 m 14 #[iv (9 : Int32)] [(.ref w_MAP)] _
  exact retOut X1 hx (t := (.object "com/example/uni_frame/uniframe/protocol/ValueType")) (i := .areturn) Bd.returns rfl (Or.inr (Or.inr (Or.inr (Or.inr ⟨rfl, rfl, rfl⟩)))) (hb hby d1_14) hr
 ·
  show Q1_10 Z  w_TYPES w_I16 w_DOUBLE w_I64 w_BINARY w_SET w_I8 w_STRUCT w_BOOL w_LIST w_MAP w_UUID w_I32 k_TYPES h0 n0 _ T1.heap _
  rw [e1]
  exact ⟨rfl, N0, rfl⟩

theorem ef_1_11 (m : MethodId)  : entryFrame m #[(.int (10 : Int32))] 1 = mkF m 0 #[iv (10 : Int32)] [] := by first | (simp [entryFrame, mkF, argsToLocals, Value.category]; done) | rfl
def f1_11 (w_STRUCT : Addr) : Addr := w_STRUCT
def Q1_11 (Z : State)  (w_TYPES : Addr) (w_I16 : Addr) (w_DOUBLE : Addr) (w_I64 : Addr) (w_BINARY : Addr) (w_SET : Addr) (w_I8 : Addr) (w_STRUCT : Addr) (w_BOOL : Addr) (w_LIST : Addr) (w_MAP : Addr) (w_UUID : Addr) (w_I32 : Addr) (k_TYPES : ClassId) (h0 : Heap) (n0 : Nat) (v : Option Value) (h : Heap) (L : List Loc) : Prop := v = some (.ref (f1_11 w_STRUCT)) ∧ Fr n0 L ∧ h = h0
set_option maxRecDepth 65536 in
set_option maxHeartbeats 40000000 in
theorem rm1_11 (l : Launch) (Z : State) (ar : Array Value) (hw : ∀ d ∈ tables_1, d.before ar Z = true) (ws : List Jvm.Cond)  (w_TYPES : Addr) (w_I16 : Addr) (w_DOUBLE : Addr) (w_I64 : Addr) (w_BINARY : Addr) (w_SET : Addr) (w_I8 : Addr) (w_STRUCT : Addr) (w_BOOL : Addr) (w_LIST : Addr) (w_MAP : Addr) (w_UUID : Addr) (w_I32 : Addr) (k_TYPES : ClassId) (h0 : Heap) (n0 : Nat) (O0 : Old Z n0 h0) (HW : Wd Z w_TYPES w_I16 w_DOUBLE w_I64 w_BINARY w_SET w_I8 w_STRUCT w_BOOL w_LIST w_MAP w_UUID w_I32 k_TYPES) :
    MetFree l y1 (head1 (Jvm.Cond.code y1 prog_17_method_2_code 1 (some (.object "com/example/uni_frame/uniframe/protocol/ValueType")) :: ws) ({ frames := 0, cells := 0, slots := 0, locals := 0 } : Room)) (fun a U => a = #[(.int (10 : Int32))] ∧ Z.Warmed39 U.vm ∧ U.heap = h0) (fun _ _ _ _ _ => True) (fun _ U o U' => ∃ v L, o = .returned v ∧ Q1_11 Z  w_TYPES w_I16 w_DOUBLE w_I64 w_BINARY w_SET w_I8 w_STRUCT w_BOOL w_LIST w_MAP w_UUID w_I32 k_TYPES h0 n0 v U'.heap L ∧ FrameEnd U o U' L ({ frames := 0, cells := 0, slots := 0, locals := 0 } : Room).cells ({ frames := 0, cells := 0, slots := 0, locals := 0 } : Room).slots) := by
 refine MetFree.of_bodySF (plainFor_of_name pn_0) hisR ?_
 intro p e s m args below meth c s₁ Bd hml0 hP hK
 obtain ⟨rfl, hZ, hh⟩ := hP
 have hx := Bd.exec
 have hby := Bd.bytes
 have hml : c.maxLocals = 1 := hml0
 have hown : s.vm.findClass "com/example/uni_frame/uniframe/protocol/TypeCode" = some m.cls := findClass_of_methodNamed Bd.named
 have hnm := (name_of_methodNamed Bd.named Bd.method).1
 have X0 : Stand p l e ({ frames := 0, cells := 0, slots := 0, locals := 0 } : Room) s m #[(.int (10 : Int32))] below meth c s₁ [] 0 0 := Stand.of_body Bd
 have e0 : s₁.heap = h0 := by rw [← hh, Bd.state]; rfl
 have N0 := Fr.nil n0
 have Z0 : n0 ≤ h0.size := Nat.le_trans (Nat.le_of_eq O0.1.symm) O0.2.1
 obtain ⟨S0, hS0⟩ : ∃ z, z = s₁.setTop (entryFrame m #[(.int (10 : Int32))] 1) := ⟨_, rfl⟩
 have pre0 : ∀ tg, AT p e below s₁ m 0 #[iv (10 : Int32)] [] tg → Steps p.tables e below S0 tg := fun tg kg => by rw [hS0]; exact castTop (ef_1_11 m ) kg
 obtain ⟨S_TYPES, S_I16, E_I16, S_DOUBLE, E_DOUBLE, S_I64, E_I64, S_BINARY, E_BINARY, S_SET, E_SET, S_I8, E_I8, S_STRUCT, E_STRUCT, S_BOOL, E_BOOL, S_LIST, E_LIST, S_MAP, E_MAP, S_UUID, E_UUID, S_I32, E_I32, V_TYPES⟩ := id HW
 obtain ⟨T1, X1, e1, st1⟩ := getS2 X0 hx hZ hown (host := "") (Or.inl (ow hw 9 rfl)) Via.refl e0 (S_TYPES.ext O0.2) (g := (mkF m 9 #[iv (10 : Int32)] [])) rfl (hb hby d1_9)
 obtain ⟨cl2, Ar2, q2, S2, N2, H2, G2⟩ := id (V_TYPES.ext O0.2)
 have hin2 := own_in (10 : Int32) S2 ⟨by decide, by decide⟩
 have hat2 : cl2.slots[((10 : Int32)).toNatClampNeg]? = some (.ref w_STRUCT) := Has.at H2 hin2 rfl
 obtain ⟨fs, hr, hrun, hended, hW, hsame⟩ := X1.leave (v := some (.ref w_STRUCT)) (fun h => by rw [Bd.returns] at h; cases h)
 subst hS0
 refine ⟨_, _, pre0 _ ?_, hrun, hended, _, _, rfl, ?_, ⟨_, rfl⟩, hW, hsame.mono (by decide) (by decide)⟩
 ·
  refine XS.iloadN X0.here hx rfl (hb hby d1_0) rfl ?_
  show AT p e below s₁ m 1 #[iv (10 : Int32)] [(.int (10 : Int32))] _
  refine XS.iconst X0.here hx rfl (hb hby d1_1) ?_
  show AT p e below s₁ m 2 #[iv (10 : Int32)] [(.int (-1 : Int32)), (.int (10 : Int32))] _
  refine XS.icmpYes X0.here hx rfl (pc0 := 2) (pc' := 9) rfl (hb hby d1_2) rfl (XT.ii_ne_t ((by decide) : ¬ ((10 : Int32) = (-1 : Int32)))) (by decide) (by decide) ?_
  show AT p e below s₁ m 9 #[iv (10 : Int32)] [] _
  refine st1 _ ?_
  show AT p e below T1 m 12 #[iv (10 : Int32)] [(.ref w_TYPES)] _
  refine XS.iloadN X1.here hx rfl (hb hby d1_12) rfl ?_
  show AT p e below T1 m 13 #[iv (10 : Int32)] [(.int (10 : Int32)), (.ref w_TYPES)] _
  refine X1.aaload hx (j := (10 : Int32)) (v := (.ref w_STRUCT)) (by rw [e1]; exact Ar2.1) (State.isArrayOf_alike hZ.alike Ar2.2.1) rfl Ar2.2.2 hin2 hat2 (g := (mkF m 13 #[iv (10 : Int32)] [(.int (10 : Int32)), (.ref w_TYPES)])) rfl rfl (hb hby d1_13) _ ?_
  show AT p e below T1 m 14 #[iv (10 : Int32)] [(.ref w_STRUCT)] _
  exact retOut X1 hx (t := (.object "com/example/uni_frame/uniframe/protocol/ValueType")) (i := .areturn) Bd.returns rfl (Or.inr (Or.inr (Or.inr (Or.inr ⟨rfl, rfl, rfl⟩)))) (hb hby d1_14) hr
 ·
  show Q1_11 Z  w_TYPES w_I16 w_DOUBLE w_I64 w_BINARY w_SET w_I8 w_STRUCT w_BOOL w_LIST w_MAP w_UUID w_I32 k_TYPES h0 n0 _ T1.heap _
  rw [e1]
  exact ⟨rfl, N0, rfl⟩

theorem ef_1_12 (m : MethodId)  : entryFrame m #[(.int (11 : Int32))] 1 = mkF m 0 #[iv (11 : Int32)] [] := by first | (simp [entryFrame, mkF, argsToLocals, Value.category]; done) | rfl
def f1_12 (w_UUID : Addr) : Addr := w_UUID
def Q1_12 (Z : State)  (w_TYPES : Addr) (w_I16 : Addr) (w_DOUBLE : Addr) (w_I64 : Addr) (w_BINARY : Addr) (w_SET : Addr) (w_I8 : Addr) (w_STRUCT : Addr) (w_BOOL : Addr) (w_LIST : Addr) (w_MAP : Addr) (w_UUID : Addr) (w_I32 : Addr) (k_TYPES : ClassId) (h0 : Heap) (n0 : Nat) (v : Option Value) (h : Heap) (L : List Loc) : Prop := v = some (.ref (f1_12 w_UUID)) ∧ Fr n0 L ∧ h = h0
set_option maxRecDepth 65536 in
set_option maxHeartbeats 40000000 in
theorem rm1_12 (l : Launch) (Z : State) (ar : Array Value) (hw : ∀ d ∈ tables_1, d.before ar Z = true) (ws : List Jvm.Cond)  (w_TYPES : Addr) (w_I16 : Addr) (w_DOUBLE : Addr) (w_I64 : Addr) (w_BINARY : Addr) (w_SET : Addr) (w_I8 : Addr) (w_STRUCT : Addr) (w_BOOL : Addr) (w_LIST : Addr) (w_MAP : Addr) (w_UUID : Addr) (w_I32 : Addr) (k_TYPES : ClassId) (h0 : Heap) (n0 : Nat) (O0 : Old Z n0 h0) (HW : Wd Z w_TYPES w_I16 w_DOUBLE w_I64 w_BINARY w_SET w_I8 w_STRUCT w_BOOL w_LIST w_MAP w_UUID w_I32 k_TYPES) :
    MetFree l y1 (head1 (Jvm.Cond.code y1 prog_17_method_2_code 1 (some (.object "com/example/uni_frame/uniframe/protocol/ValueType")) :: ws) ({ frames := 0, cells := 0, slots := 0, locals := 0 } : Room)) (fun a U => a = #[(.int (11 : Int32))] ∧ Z.Warmed39 U.vm ∧ U.heap = h0) (fun _ _ _ _ _ => True) (fun _ U o U' => ∃ v L, o = .returned v ∧ Q1_12 Z  w_TYPES w_I16 w_DOUBLE w_I64 w_BINARY w_SET w_I8 w_STRUCT w_BOOL w_LIST w_MAP w_UUID w_I32 k_TYPES h0 n0 v U'.heap L ∧ FrameEnd U o U' L ({ frames := 0, cells := 0, slots := 0, locals := 0 } : Room).cells ({ frames := 0, cells := 0, slots := 0, locals := 0 } : Room).slots) := by
 refine MetFree.of_bodySF (plainFor_of_name pn_0) hisR ?_
 intro p e s m args below meth c s₁ Bd hml0 hP hK
 obtain ⟨rfl, hZ, hh⟩ := hP
 have hx := Bd.exec
 have hby := Bd.bytes
 have hml : c.maxLocals = 1 := hml0
 have hown : s.vm.findClass "com/example/uni_frame/uniframe/protocol/TypeCode" = some m.cls := findClass_of_methodNamed Bd.named
 have hnm := (name_of_methodNamed Bd.named Bd.method).1
 have X0 : Stand p l e ({ frames := 0, cells := 0, slots := 0, locals := 0 } : Room) s m #[(.int (11 : Int32))] below meth c s₁ [] 0 0 := Stand.of_body Bd
 have e0 : s₁.heap = h0 := by rw [← hh, Bd.state]; rfl
 have N0 := Fr.nil n0
 have Z0 : n0 ≤ h0.size := Nat.le_trans (Nat.le_of_eq O0.1.symm) O0.2.1
 obtain ⟨S0, hS0⟩ : ∃ z, z = s₁.setTop (entryFrame m #[(.int (11 : Int32))] 1) := ⟨_, rfl⟩
 have pre0 : ∀ tg, AT p e below s₁ m 0 #[iv (11 : Int32)] [] tg → Steps p.tables e below S0 tg := fun tg kg => by rw [hS0]; exact castTop (ef_1_12 m ) kg
 obtain ⟨S_TYPES, S_I16, E_I16, S_DOUBLE, E_DOUBLE, S_I64, E_I64, S_BINARY, E_BINARY, S_SET, E_SET, S_I8, E_I8, S_STRUCT, E_STRUCT, S_BOOL, E_BOOL, S_LIST, E_LIST, S_MAP, E_MAP, S_UUID, E_UUID, S_I32, E_I32, V_TYPES⟩ := id HW
 obtain ⟨T1, X1, e1, st1⟩ := getS2 X0 hx hZ hown (host := "") (Or.inl (ow hw 9 rfl)) Via.refl e0 (S_TYPES.ext O0.2) (g := (mkF m 9 #[iv (11 : Int32)] [])) rfl (hb hby d1_9)
 obtain ⟨cl2, Ar2, q2, S2, N2, H2, G2⟩ := id (V_TYPES.ext O0.2)
 have hin2 := own_in (11 : Int32) S2 ⟨by decide, by decide⟩
 have hat2 : cl2.slots[((11 : Int32)).toNatClampNeg]? = some (.ref w_UUID) := Has.at H2 hin2 rfl
 obtain ⟨fs, hr, hrun, hended, hW, hsame⟩ := X1.leave (v := some (.ref w_UUID)) (fun h => by rw [Bd.returns] at h; cases h)
 subst hS0
 refine ⟨_, _, pre0 _ ?_, hrun, hended, _, _, rfl, ?_, ⟨_, rfl⟩, hW, hsame.mono (by decide) (by decide)⟩
 ·
  refine XS.iloadN X0.here hx rfl (hb hby d1_0) rfl ?_
  show AT p e below s₁ m 1 #[iv (11 : Int32)] [(.int (11 : Int32))] _
  refine XS.iconst X0.here hx rfl (hb hby d1_1) ?_
  show AT p e below s₁ m 2 #[iv (11 : Int32)] [(.int (-1 : Int32)), (.int (11 : Int32))] _
  refine XS.icmpYes X0.here hx rfl (pc0 := 2) (pc' := 9) rfl (hb hby d1_2) rfl (XT.ii_ne_t ((by decide) : ¬ ((11 : Int32) = (-1 : Int32)))) (by decide) (by decide) ?_
  show AT p e below s₁ m 9 #[iv (11 : Int32)] [] _
  refine st1 _ ?_
  show AT p e below T1 m 12 #[iv (11 : Int32)] [(.ref w_TYPES)] _
  refine XS.iloadN X1.here hx rfl (hb hby d1_12) rfl ?_
  show AT p e below T1 m 13 #[iv (11 : Int32)] [(.int (11 : Int32)), (.ref w_TYPES)] _
  refine X1.aaload hx (j := (11 : Int32)) (v := (.ref w_UUID)) (by rw [e1]; exact Ar2.1) (State.isArrayOf_alike hZ.alike Ar2.2.1) rfl Ar2.2.2 hin2 hat2 (g := (mkF m 13 #[iv (11 : Int32)] [(.int (11 : Int32)), (.ref w_TYPES)])) rfl rfl (hb hby d1_13) _ ?_
  show AT p e below T1 m 14 #[iv (11 : Int32)] [(.ref w_UUID)] _
  exact retOut X1 hx (t := (.object "com/example/uni_frame/uniframe/protocol/ValueType")) (i := .areturn) Bd.returns rfl (Or.inr (Or.inr (Or.inr (Or.inr ⟨rfl, rfl, rfl⟩)))) (hb hby d1_14) hr
 ·
  show Q1_12 Z  w_TYPES w_I16 w_DOUBLE w_I64 w_BINARY w_SET w_I8 w_STRUCT w_BOOL w_LIST w_MAP w_UUID w_I32 k_TYPES h0 n0 _ T1.heap _
  rw [e1]
  exact ⟨rfl, N0, rfl⟩

theorem d2_0 : decode method_2_code 0 = .ok (.iload_n 0, 1) := by decide +kernel
theorem d2_1 : decode method_2_code 1 = .ok (.iconst (-1), 1) := by decide +kernel
theorem d2_2 : decode method_2_code 2 = .ok (.if_icmp .ne 5, 3) := by decide +kernel
theorem d2_5 : decode method_2_code 5 = .ok (.aconst_null, 1) := by decide +kernel
theorem d2_6 : decode method_2_code 6 = .ok (.areturn, 1) := by decide +kernel
theorem d2_7 : decode method_2_code 7 = .ok (.iload_n 0, 1) := by decide +kernel
theorem d2_8 : decode method_2_code 8 = .ok (.ifCond .ne 7, 3) := by decide +kernel
theorem d2_11 : decode method_2_code 11 = .ok (.getstatic 7, 3) := by decide +kernel
theorem d2_14 : decode method_2_code 14 = .ok (.areturn, 1) := by decide +kernel
theorem d2_15 : decode method_2_code 15 = .ok (.iload_n 0, 1) := by decide +kernel
theorem d2_16 : decode method_2_code 16 = .ok (.iconst 1, 1) := by decide +kernel
theorem d2_17 : decode method_2_code 17 = .ok (.if_icmp .ne 7, 3) := by decide +kernel
theorem d2_20 : decode method_2_code 20 = .ok (.getstatic 13, 3) := by decide +kernel
theorem d2_23 : decode method_2_code 23 = .ok (.areturn, 1) := by decide +kernel
theorem d2_24 : decode method_2_code 24 = .ok (.iload_n 0, 1) := by decide +kernel
theorem d2_25 : decode method_2_code 25 = .ok (.iconst 2, 1) := by decide +kernel
theorem d2_26 : decode method_2_code 26 = .ok (.if_icmp .ne 7, 3) := by decide +kernel
theorem d2_29 : decode method_2_code 29 = .ok (.getstatic 16, 3) := by decide +kernel
theorem d2_32 : decode method_2_code 32 = .ok (.areturn, 1) := by decide +kernel
theorem d2_33 : decode method_2_code 33 = .ok (.iload_n 0, 1) := by decide +kernel
theorem d2_34 : decode method_2_code 34 = .ok (.iconst 3, 1) := by decide +kernel
theorem d2_35 : decode method_2_code 35 = .ok (.if_icmp .ne 7, 3) := by decide +kernel
theorem d2_38 : decode method_2_code 38 = .ok (.getstatic 19, 3) := by decide +kernel
theorem d2_41 : decode method_2_code 41 = .ok (.areturn, 1) := by decide +kernel
theorem d2_42 : decode method_2_code 42 = .ok (.iload_n 0, 1) := by decide +kernel
theorem d2_43 : decode method_2_code 43 = .ok (.iconst 4, 1) := by decide +kernel
theorem d2_44 : decode method_2_code 44 = .ok (.if_icmp .ne 7, 3) := by decide +kernel
theorem d2_47 : decode method_2_code 47 = .ok (.getstatic 22, 3) := by decide +kernel
theorem d2_50 : decode method_2_code 50 = .ok (.areturn, 1) := by decide +kernel
theorem d2_51 : decode method_2_code 51 = .ok (.iload_n 0, 1) := by decide +kernel
theorem d2_52 : decode method_2_code 52 = .ok (.iconst 5, 1) := by decide +kernel
theorem d2_53 : decode method_2_code 53 = .ok (.if_icmp .ne 7, 3) := by decide +kernel
theorem d2_56 : decode method_2_code 56 = .ok (.getstatic 25, 3) := by decide +kernel
theorem d2_59 : decode method_2_code 59 = .ok (.areturn, 1) := by decide +kernel
theorem d2_60 : decode method_2_code 60 = .ok (.iload_n 0, 1) := by decide +kernel
theorem d2_61 : decode method_2_code 61 = .ok (.bipush 6, 2) := by decide +kernel
theorem d2_63 : decode method_2_code 63 = .ok (.if_icmp .ne 7, 3) := by decide +kernel
theorem d2_66 : decode method_2_code 66 = .ok (.getstatic 28, 3) := by decide +kernel
theorem d2_69 : decode method_2_code 69 = .ok (.areturn, 1) := by decide +kernel
theorem d2_70 : decode method_2_code 70 = .ok (.iload_n 0, 1) := by decide +kernel
theorem d2_71 : decode method_2_code 71 = .ok (.bipush 7, 2) := by decide +kernel
theorem d2_73 : decode method_2_code 73 = .ok (.if_icmp .ne 7, 3) := by decide +kernel
theorem d2_76 : decode method_2_code 76 = .ok (.getstatic 31, 3) := by decide +kernel
theorem d2_79 : decode method_2_code 79 = .ok (.areturn, 1) := by decide +kernel
theorem d2_80 : decode method_2_code 80 = .ok (.iload_n 0, 1) := by decide +kernel
theorem d2_81 : decode method_2_code 81 = .ok (.bipush 8, 2) := by decide +kernel
theorem d2_83 : decode method_2_code 83 = .ok (.if_icmp .ne 7, 3) := by decide +kernel
theorem d2_86 : decode method_2_code 86 = .ok (.getstatic 34, 3) := by decide +kernel
theorem d2_89 : decode method_2_code 89 = .ok (.areturn, 1) := by decide +kernel
theorem d2_90 : decode method_2_code 90 = .ok (.iload_n 0, 1) := by decide +kernel
theorem d2_91 : decode method_2_code 91 = .ok (.bipush 9, 2) := by decide +kernel
theorem d2_93 : decode method_2_code 93 = .ok (.if_icmp .ne 7, 3) := by decide +kernel
theorem d2_96 : decode method_2_code 96 = .ok (.getstatic 37, 3) := by decide +kernel
theorem d2_99 : decode method_2_code 99 = .ok (.areturn, 1) := by decide +kernel
theorem d2_100 : decode method_2_code 100 = .ok (.iload_n 0, 1) := by decide +kernel
theorem d2_101 : decode method_2_code 101 = .ok (.bipush 10, 2) := by decide +kernel
theorem d2_103 : decode method_2_code 103 = .ok (.if_icmp .ne 7, 3) := by decide +kernel
theorem d2_106 : decode method_2_code 106 = .ok (.getstatic 40, 3) := by decide +kernel
theorem d2_109 : decode method_2_code 109 = .ok (.areturn, 1) := by decide +kernel
theorem d2_110 : decode method_2_code 110 = .ok (.getstatic 43, 3) := by decide +kernel
theorem d2_113 : decode method_2_code 113 = .ok (.areturn, 1) := by decide +kernel
theorem ef_2 (m : MethodId) (p0 : Int32) : entryFrame m #[(.int p0)] 1 = mkF m 0 #[iv p0] [] := by first | (simp [entryFrame, mkF, argsToLocals, Value.category]; done) | rfl
def f2 (p0 : Int32) (w_I16 : Addr) (w_DOUBLE : Addr) (w_I64 : Addr) (w_BINARY : Addr) (w_SET : Addr) (w_I8 : Addr) (w_STRUCT : Addr) (w_BOOL : Addr) (w_LIST : Addr) (w_MAP : Addr) (w_UUID : Addr) (w_I32 : Addr) : Value := if p0 = (-1 : Int32) then .null else (if p0 = (0 : Int32) then (.ref w_BOOL) else (if p0 = (1 : Int32) then (.ref w_I8) else (if p0 = (2 : Int32) then (.ref w_I16) else (if p0 = (3 : Int32) then (.ref w_I32) else (if p0 = (4 : Int32) then (.ref w_I64) else (if p0 = (5 : Int32) then (.ref w_DOUBLE) else (if p0 = (6 : Int32) then (.ref w_BINARY) else (if p0 = (7 : Int32) then (.ref w_LIST) else (if p0 = (8 : Int32) then (.ref w_SET) else (if p0 = (9 : Int32) then (.ref w_MAP) else (if p0 = (10 : Int32) then (.ref w_STRUCT) else (.ref w_UUID))))))))))))
def Q2 (Z : State) (p0 : Int32) (w_TYPES : Addr) (w_I16 : Addr) (w_DOUBLE : Addr) (w_I64 : Addr) (w_BINARY : Addr) (w_SET : Addr) (w_I8 : Addr) (w_STRUCT : Addr) (w_BOOL : Addr) (w_LIST : Addr) (w_MAP : Addr) (w_UUID : Addr) (w_I32 : Addr) (k_TYPES : ClassId) (h0 : Heap) (n0 : Nat) (v : Option Value) (h : Heap) (L : List Loc) : Prop := v = some (f2 p0 w_I16 w_DOUBLE w_I64 w_BINARY w_SET w_I8 w_STRUCT w_BOOL w_LIST w_MAP w_UUID w_I32) ∧ Fr n0 L ∧ h = h0
set_option maxRecDepth 65536 in
set_option maxHeartbeats 40000000 in
theorem rm2 (l : Launch) (Z : State) (ar : Array Value) (hw : ∀ d ∈ tables_1, d.before ar Z = true) (ws : List Jvm.Cond) (p0 : Int32) (w_TYPES : Addr) (w_I16 : Addr) (w_DOUBLE : Addr) (w_I64 : Addr) (w_BINARY : Addr) (w_SET : Addr) (w_I8 : Addr) (w_STRUCT : Addr) (w_BOOL : Addr) (w_LIST : Addr) (w_MAP : Addr) (w_UUID : Addr) (w_I32 : Addr) (k_TYPES : ClassId) (h0 : Heap) (n0 : Nat) (O0 : Old Z n0 h0) (HW : Wd Z w_TYPES w_I16 w_DOUBLE w_I64 w_BINARY w_SET w_I8 w_STRUCT w_BOOL w_LIST w_MAP w_UUID w_I32 k_TYPES) :
    MetFree l y2 (head1 (Jvm.Cond.code y2 method_2_code 1 (some (.object "com/example/uni_frame/uniframe/protocol/ValueType")) :: ws) ({ frames := 0, cells := 0, slots := 0, locals := 0 } : Room)) (fun a U => a = #[(.int p0)] ∧ Z.Warmed39 U.vm ∧ U.heap = h0) (fun _ _ _ _ _ => True) (fun _ U o U' => ∃ v L, o = .returned v ∧ Q2 Z p0 w_TYPES w_I16 w_DOUBLE w_I64 w_BINARY w_SET w_I8 w_STRUCT w_BOOL w_LIST w_MAP w_UUID w_I32 k_TYPES h0 n0 v U'.heap L ∧ FrameEnd U o U' L ({ frames := 0, cells := 0, slots := 0, locals := 0 } : Room).cells ({ frames := 0, cells := 0, slots := 0, locals := 0 } : Room).slots) := by
 refine MetFree.of_bodySF (plainFor_of_name pn_1) hisR ?_
 intro p e s m args below meth c s₁ Bd hml0 hP hK
 obtain ⟨rfl, hZ, hh⟩ := hP
 have hx := Bd.exec
 have hby := Bd.bytes
 have hml : c.maxLocals = 1 := hml0
 have hown : s.vm.findClass "com/example/uni_frame/uniframe/protocol/TypeCodeValueTypePinLaw" = some m.cls := findClass_of_methodNamed Bd.named
 have hnm := (name_of_methodNamed Bd.named Bd.method).1
 have X0 : Stand p l e ({ frames := 0, cells := 0, slots := 0, locals := 0 } : Room) s m #[(.int p0)] below meth c s₁ [] 0 0 := Stand.of_body Bd
 have e0 : s₁.heap = h0 := by rw [← hh, Bd.state]; rfl
 have N0 := Fr.nil n0
 have Z0 : n0 ≤ h0.size := Nat.le_trans (Nat.le_of_eq O0.1.symm) O0.2.1
 obtain ⟨S0, hS0⟩ : ∃ z, z = s₁.setTop (entryFrame m #[(.int p0)] 1) := ⟨_, rfl⟩
 have pre0 : ∀ tg, AT p e below s₁ m 0 #[iv p0] [] tg → Steps p.tables e below S0 tg := fun tg kg => by rw [hS0]; exact castTop (ef_2 m p0) kg
 obtain ⟨S_TYPES, S_I16, E_I16, S_DOUBLE, E_DOUBLE, S_I64, E_I64, S_BINARY, E_BINARY, S_SET, E_SET, S_I8, E_I8, S_STRUCT, E_STRUCT, S_BOOL, E_BOOL, S_LIST, E_LIST, S_MAP, E_MAP, S_UUID, E_UUID, S_I32, E_I32, V_TYPES⟩ := id HW
 have pre1 : ∀ tg, AT p e below s₁ m 2 #[iv p0] [(.int (-1 : Int32)), (.int p0)] tg → Steps p.tables e below S0 tg := fun tg kg => pre0 tg (by
  refine XS.iloadN X0.here hx rfl (hb hby d2_0) rfl ?_
  show AT p e below s₁ m 1 #[iv p0] [(.int p0)] _
  refine XS.iconst X0.here hx rfl (hb hby d2_1) ?_
  exact kg)
 rcases Decidable.em (p0 = (-1 : Int32)) with hc2 | hc2
 ·
  obtain ⟨fs, hr, hrun, hended, hW, hsame⟩ := X0.leave (v := some .null) (fun h => by rw [Bd.returns] at h; cases h)
  subst hS0
  refine ⟨_, _, pre1 _ ?_, hrun, hended, _, _, rfl, ?_, ⟨_, rfl⟩, hW, hsame.mono (by decide) (by decide)⟩
  ·
   refine XS.icmpNo X0.here hx rfl (hb hby d2_2) rfl (XT.ii_ne_f hc2) ?_
   show AT p e below s₁ m 5 #[iv p0] [] _
   refine XS.aconstNull X0.here hx rfl (hb hby d2_5) ?_
   show AT p e below s₁ m 6 #[iv p0] [.null] _
   exact retOut X0 hx (t := (.object "com/example/uni_frame/uniframe/protocol/ValueType")) (i := .areturn) Bd.returns rfl (Or.inr (Or.inr (Or.inr (Or.inr ⟨rfl, rfl, rfl⟩)))) (hb hby d2_6) hr
  ·
   show Q2 Z p0 w_TYPES w_I16 w_DOUBLE w_I64 w_BINARY w_SET w_I8 w_STRUCT w_BOOL w_LIST w_MAP w_UUID w_I32 k_TYPES h0 n0 _ s₁.heap _
   rw [e0]
   exact ⟨(by rw [f2, if_pos hc2]), N0, rfl⟩
 ·
  have pre3 : ∀ tg, AT p e below s₁ m 8 #[iv p0] [(.int p0)] tg → Steps p.tables e below S0 tg := fun tg kg => pre1 tg (by
   refine XS.icmpYes X0.here hx rfl (pc0 := 2) (pc' := 7) rfl (hb hby d2_2) rfl (XT.ii_ne_t hc2) (by decide) (by decide) ?_
   show AT p e below s₁ m 7 #[iv p0] [] _
   refine XS.iloadN X0.here hx rfl (hb hby d2_7) rfl ?_
   exact kg)
  rcases Decidable.em (p0 = (0 : Int32)) with hc4 | hc4
  ·
   obtain ⟨T5, X5, e5, st5⟩ := getS2 X0 hx hZ hown (host := "") (Or.inl (ow hw 27 rfl)) Via.refl e0 (S_BOOL.ext O0.2) (g := (mkF m 11 #[iv p0] [])) rfl (hb hby d2_11)
   obtain ⟨fs, hr, hrun, hended, hW, hsame⟩ := X5.leave (v := some (.ref w_BOOL)) (fun h => by rw [Bd.returns] at h; cases h)
   subst hS0
   refine ⟨_, _, pre3 _ ?_, hrun, hended, _, _, rfl, ?_, ⟨_, rfl⟩, hW, hsame.mono (by decide) (by decide)⟩
   ·
    refine XS.ifNo X0.here hx rfl (hb hby d2_8) rfl (XT.i0_ne_f hc4) ?_
    show AT p e below s₁ m 11 #[iv p0] [] _
    refine st5 _ ?_
    show AT p e below T5 m 14 #[iv p0] [(.ref w_BOOL)] _
    exact retOut X5 hx (t := (.object "com/example/uni_frame/uniframe/protocol/ValueType")) (i := .areturn) Bd.returns rfl (Or.inr (Or.inr (Or.inr (Or.inr ⟨rfl, rfl, rfl⟩)))) (hb hby d2_14) hr
   ·
    show Q2 Z p0 w_TYPES w_I16 w_DOUBLE w_I64 w_BINARY w_SET w_I8 w_STRUCT w_BOOL w_LIST w_MAP w_UUID w_I32 k_TYPES h0 n0 _ T5.heap _
    rw [e5]
    exact ⟨(by rw [f2, if_neg hc2, if_pos hc4]), N0, rfl⟩
  ·
   have pre6 : ∀ tg, AT p e below s₁ m 17 #[iv p0] [(.int (1 : Int32)), (.int p0)] tg → Steps p.tables e below S0 tg := fun tg kg => pre3 tg (by
    refine XS.ifYes X0.here hx rfl (pc0 := 8) (pc' := 15) rfl (hb hby d2_8) rfl (XT.i0_ne_t hc4) (by decide) (by decide) ?_
    show AT p e below s₁ m 15 #[iv p0] [] _
    refine XS.iloadN X0.here hx rfl (hb hby d2_15) rfl ?_
    show AT p e below s₁ m 16 #[iv p0] [(.int p0)] _
    refine XS.iconst X0.here hx rfl (hb hby d2_16) ?_
    exact kg)
   rcases Decidable.em (p0 = (1 : Int32)) with hc7 | hc7
   ·
    obtain ⟨T8, X8, e8, st8⟩ := getS2 X0 hx hZ hown (host := "") (Or.inl (ow hw 23 rfl)) Via.refl e0 (S_I8.ext O0.2) (g := (mkF m 20 #[iv p0] [])) rfl (hb hby d2_20)
    obtain ⟨fs, hr, hrun, hended, hW, hsame⟩ := X8.leave (v := some (.ref w_I8)) (fun h => by rw [Bd.returns] at h; cases h)
    subst hS0
    refine ⟨_, _, pre6 _ ?_, hrun, hended, _, _, rfl, ?_, ⟨_, rfl⟩, hW, hsame.mono (by decide) (by decide)⟩
    ·
     refine XS.icmpNo X0.here hx rfl (hb hby d2_17) rfl (XT.ii_ne_f hc7) ?_
     show AT p e below s₁ m 20 #[iv p0] [] _
     refine st8 _ ?_
     show AT p e below T8 m 23 #[iv p0] [(.ref w_I8)] _
     exact retOut X8 hx (t := (.object "com/example/uni_frame/uniframe/protocol/ValueType")) (i := .areturn) Bd.returns rfl (Or.inr (Or.inr (Or.inr (Or.inr ⟨rfl, rfl, rfl⟩)))) (hb hby d2_23) hr
    ·
     show Q2 Z p0 w_TYPES w_I16 w_DOUBLE w_I64 w_BINARY w_SET w_I8 w_STRUCT w_BOOL w_LIST w_MAP w_UUID w_I32 k_TYPES h0 n0 _ T8.heap _
     rw [e8]
     exact ⟨(by rw [f2, if_neg hc2, if_neg hc4, if_pos hc7]), N0, rfl⟩
   ·
    have pre9 : ∀ tg, AT p e below s₁ m 26 #[iv p0] [(.int (2 : Int32)), (.int p0)] tg → Steps p.tables e below S0 tg := fun tg kg => pre6 tg (by
     refine XS.icmpYes X0.here hx rfl (pc0 := 17) (pc' := 24) rfl (hb hby d2_17) rfl (XT.ii_ne_t hc7) (by decide) (by decide) ?_
     show AT p e below s₁ m 24 #[iv p0] [] _
     refine XS.iloadN X0.here hx rfl (hb hby d2_24) rfl ?_
     show AT p e below s₁ m 25 #[iv p0] [(.int p0)] _
     refine XS.iconst X0.here hx rfl (hb hby d2_25) ?_
     exact kg)
    rcases Decidable.em (p0 = (2 : Int32)) with hc10 | hc10
    ·
     obtain ⟨T11, X11, e11, st11⟩ := getS2 X0 hx hZ hown (host := "") (Or.inl (ow hw 13 rfl)) Via.refl e0 (S_I16.ext O0.2) (g := (mkF m 29 #[iv p0] [])) rfl (hb hby d2_29)
     obtain ⟨fs, hr, hrun, hended, hW, hsame⟩ := X11.leave (v := some (.ref w_I16)) (fun h => by rw [Bd.returns] at h; cases h)
     subst hS0
     refine ⟨_, _, pre9 _ ?_, hrun, hended, _, _, rfl, ?_, ⟨_, rfl⟩, hW, hsame.mono (by decide) (by decide)⟩
     ·
      refine XS.icmpNo X0.here hx rfl (hb hby d2_26) rfl (XT.ii_ne_f hc10) ?_
      show AT p e below s₁ m 29 #[iv p0] [] _
      refine st11 _ ?_
      show AT p e below T11 m 32 #[iv p0] [(.ref w_I16)] _
      exact retOut X11 hx (t := (.object "com/example/uni_frame/uniframe/protocol/ValueType")) (i := .areturn) Bd.returns rfl (Or.inr (Or.inr (Or.inr (Or.inr ⟨rfl, rfl, rfl⟩)))) (hb hby d2_32) hr
     ·
      show Q2 Z p0 w_TYPES w_I16 w_DOUBLE w_I64 w_BINARY w_SET w_I8 w_STRUCT w_BOOL w_LIST w_MAP w_UUID w_I32 k_TYPES h0 n0 _ T11.heap _
      rw [e11]
      exact ⟨(by rw [f2, if_neg hc2, if_neg hc4, if_neg hc7, if_pos hc10]), N0, rfl⟩
    ·
     have pre12 : ∀ tg, AT p e below s₁ m 35 #[iv p0] [(.int (3 : Int32)), (.int p0)] tg → Steps p.tables e below S0 tg := fun tg kg => pre9 tg (by
      refine XS.icmpYes X0.here hx rfl (pc0 := 26) (pc' := 33) rfl (hb hby d2_26) rfl (XT.ii_ne_t hc10) (by decide) (by decide) ?_
      show AT p e below s₁ m 33 #[iv p0] [] _
      refine XS.iloadN X0.here hx rfl (hb hby d2_33) rfl ?_
      show AT p e below s₁ m 34 #[iv p0] [(.int p0)] _
      refine XS.iconst X0.here hx rfl (hb hby d2_34) ?_
      exact kg)
     rcases Decidable.em (p0 = (3 : Int32)) with hc13 | hc13
     ·
      obtain ⟨T14, X14, e14, st14⟩ := getS2 X0 hx hZ hown (host := "") (Or.inl (ow hw 35 rfl)) Via.refl e0 (S_I32.ext O0.2) (g := (mkF m 38 #[iv p0] [])) rfl (hb hby d2_38)
      obtain ⟨fs, hr, hrun, hended, hW, hsame⟩ := X14.leave (v := some (.ref w_I32)) (fun h => by rw [Bd.returns] at h; cases h)
      subst hS0
      refine ⟨_, _, pre12 _ ?_, hrun, hended, _, _, rfl, ?_, ⟨_, rfl⟩, hW, hsame.mono (by decide) (by decide)⟩
      ·
       refine XS.icmpNo X0.here hx rfl (hb hby d2_35) rfl (XT.ii_ne_f hc13) ?_
       show AT p e below s₁ m 38 #[iv p0] [] _
       refine st14 _ ?_
       show AT p e below T14 m 41 #[iv p0] [(.ref w_I32)] _
       exact retOut X14 hx (t := (.object "com/example/uni_frame/uniframe/protocol/ValueType")) (i := .areturn) Bd.returns rfl (Or.inr (Or.inr (Or.inr (Or.inr ⟨rfl, rfl, rfl⟩)))) (hb hby d2_41) hr
      ·
       show Q2 Z p0 w_TYPES w_I16 w_DOUBLE w_I64 w_BINARY w_SET w_I8 w_STRUCT w_BOOL w_LIST w_MAP w_UUID w_I32 k_TYPES h0 n0 _ T14.heap _
       rw [e14]
       exact ⟨(by rw [f2, if_neg hc2, if_neg hc4, if_neg hc7, if_neg hc10, if_pos hc13]), N0, rfl⟩
     ·
      have pre15 : ∀ tg, AT p e below s₁ m 44 #[iv p0] [(.int (4 : Int32)), (.int p0)] tg → Steps p.tables e below S0 tg := fun tg kg => pre12 tg (by
       refine XS.icmpYes X0.here hx rfl (pc0 := 35) (pc' := 42) rfl (hb hby d2_35) rfl (XT.ii_ne_t hc13) (by decide) (by decide) ?_
       show AT p e below s₁ m 42 #[iv p0] [] _
       refine XS.iloadN X0.here hx rfl (hb hby d2_42) rfl ?_
       show AT p e below s₁ m 43 #[iv p0] [(.int p0)] _
       refine XS.iconst X0.here hx rfl (hb hby d2_43) ?_
       exact kg)
      rcases Decidable.em (p0 = (4 : Int32)) with hc16 | hc16
      ·
       obtain ⟨T17, X17, e17, st17⟩ := getS2 X0 hx hZ hown (host := "") (Or.inl (ow hw 17 rfl)) Via.refl e0 (S_I64.ext O0.2) (g := (mkF m 47 #[iv p0] [])) rfl (hb hby d2_47)
       obtain ⟨fs, hr, hrun, hended, hW, hsame⟩ := X17.leave (v := some (.ref w_I64)) (fun h => by rw [Bd.returns] at h; cases h)
       subst hS0
       refine ⟨_, _, pre15 _ ?_, hrun, hended, _, _, rfl, ?_, ⟨_, rfl⟩, hW, hsame.mono (by decide) (by decide)⟩
       ·
        refine XS.icmpNo X0.here hx rfl (hb hby d2_44) rfl (XT.ii_ne_f hc16) ?_
        show AT p e below s₁ m 47 #[iv p0] [] _
        refine st17 _ ?_
        show AT p e below T17 m 50 #[iv p0] [(.ref w_I64)] _
        exact retOut X17 hx (t := (.object "com/example/uni_frame/uniframe/protocol/ValueType")) (i := .areturn) Bd.returns rfl (Or.inr (Or.inr (Or.inr (Or.inr ⟨rfl, rfl, rfl⟩)))) (hb hby d2_50) hr
       ·
        show Q2 Z p0 w_TYPES w_I16 w_DOUBLE w_I64 w_BINARY w_SET w_I8 w_STRUCT w_BOOL w_LIST w_MAP w_UUID w_I32 k_TYPES h0 n0 _ T17.heap _
        rw [e17]
        exact ⟨(by rw [f2, if_neg hc2, if_neg hc4, if_neg hc7, if_neg hc10, if_neg hc13, if_pos hc16]), N0, rfl⟩
      ·
       have pre18 : ∀ tg, AT p e below s₁ m 53 #[iv p0] [(.int (5 : Int32)), (.int p0)] tg → Steps p.tables e below S0 tg := fun tg kg => pre15 tg (by
        refine XS.icmpYes X0.here hx rfl (pc0 := 44) (pc' := 51) rfl (hb hby d2_44) rfl (XT.ii_ne_t hc16) (by decide) (by decide) ?_
        show AT p e below s₁ m 51 #[iv p0] [] _
        refine XS.iloadN X0.here hx rfl (hb hby d2_51) rfl ?_
        show AT p e below s₁ m 52 #[iv p0] [(.int p0)] _
        refine XS.iconst X0.here hx rfl (hb hby d2_52) ?_
        exact kg)
       rcases Decidable.em (p0 = (5 : Int32)) with hc19 | hc19
       ·
        obtain ⟨T20, X20, e20, st20⟩ := getS2 X0 hx hZ hown (host := "") (Or.inl (ow hw 15 rfl)) Via.refl e0 (S_DOUBLE.ext O0.2) (g := (mkF m 56 #[iv p0] [])) rfl (hb hby d2_56)
        obtain ⟨fs, hr, hrun, hended, hW, hsame⟩ := X20.leave (v := some (.ref w_DOUBLE)) (fun h => by rw [Bd.returns] at h; cases h)
        subst hS0
        refine ⟨_, _, pre18 _ ?_, hrun, hended, _, _, rfl, ?_, ⟨_, rfl⟩, hW, hsame.mono (by decide) (by decide)⟩
        ·
         refine XS.icmpNo X0.here hx rfl (hb hby d2_53) rfl (XT.ii_ne_f hc19) ?_
         show AT p e below s₁ m 56 #[iv p0] [] _
         refine st20 _ ?_
         show AT p e below T20 m 59 #[iv p0] [(.ref w_DOUBLE)] _
         exact retOut X20 hx (t := (.object "com/example/uni_frame/uniframe/protocol/ValueType")) (i := .areturn) Bd.returns rfl (Or.inr (Or.inr (Or.inr (Or.inr ⟨rfl, rfl, rfl⟩)))) (hb hby d2_59) hr
        ·
         show Q2 Z p0 w_TYPES w_I16 w_DOUBLE w_I64 w_BINARY w_SET w_I8 w_STRUCT w_BOOL w_LIST w_MAP w_UUID w_I32 k_TYPES h0 n0 _ T20.heap _
         rw [e20]
         exact ⟨(by rw [f2, if_neg hc2, if_neg hc4, if_neg hc7, if_neg hc10, if_neg hc13, if_neg hc16, if_pos hc19]), N0, rfl⟩
       ·
        have pre21 : ∀ tg, AT p e below s₁ m 63 #[iv p0] [(.int (6 : Int32)), (.int p0)] tg → Steps p.tables e below S0 tg := fun tg kg => pre18 tg (by
         refine XS.icmpYes X0.here hx rfl (pc0 := 53) (pc' := 60) rfl (hb hby d2_53) rfl (XT.ii_ne_t hc19) (by decide) (by decide) ?_
         show AT p e below s₁ m 60 #[iv p0] [] _
         refine XS.iloadN X0.here hx rfl (hb hby d2_60) rfl ?_
         show AT p e below s₁ m 61 #[iv p0] [(.int p0)] _
         refine XS.bipush X0.here hx rfl (hb hby d2_61) ?_
         exact kg)
        rcases Decidable.em (p0 = (6 : Int32)) with hc22 | hc22
        ·
         obtain ⟨T23, X23, e23, st23⟩ := getS2 X0 hx hZ hown (host := "") (Or.inl (ow hw 19 rfl)) Via.refl e0 (S_BINARY.ext O0.2) (g := (mkF m 66 #[iv p0] [])) rfl (hb hby d2_66)
         obtain ⟨fs, hr, hrun, hended, hW, hsame⟩ := X23.leave (v := some (.ref w_BINARY)) (fun h => by rw [Bd.returns] at h; cases h)
         subst hS0
         refine ⟨_, _, pre21 _ ?_, hrun, hended, _, _, rfl, ?_, ⟨_, rfl⟩, hW, hsame.mono (by decide) (by decide)⟩
         ·
          refine XS.icmpNo X0.here hx rfl (hb hby d2_63) rfl (XT.ii_ne_f hc22) ?_
          show AT p e below s₁ m 66 #[iv p0] [] _
          refine st23 _ ?_
          show AT p e below T23 m 69 #[iv p0] [(.ref w_BINARY)] _
          exact retOut X23 hx (t := (.object "com/example/uni_frame/uniframe/protocol/ValueType")) (i := .areturn) Bd.returns rfl (Or.inr (Or.inr (Or.inr (Or.inr ⟨rfl, rfl, rfl⟩)))) (hb hby d2_69) hr
         ·
          show Q2 Z p0 w_TYPES w_I16 w_DOUBLE w_I64 w_BINARY w_SET w_I8 w_STRUCT w_BOOL w_LIST w_MAP w_UUID w_I32 k_TYPES h0 n0 _ T23.heap _
          rw [e23]
          exact ⟨(by rw [f2, if_neg hc2, if_neg hc4, if_neg hc7, if_neg hc10, if_neg hc13, if_neg hc16, if_neg hc19, if_pos hc22]), N0, rfl⟩
        ·
         have pre24 : ∀ tg, AT p e below s₁ m 73 #[iv p0] [(.int (7 : Int32)), (.int p0)] tg → Steps p.tables e below S0 tg := fun tg kg => pre21 tg (by
          refine XS.icmpYes X0.here hx rfl (pc0 := 63) (pc' := 70) rfl (hb hby d2_63) rfl (XT.ii_ne_t hc22) (by decide) (by decide) ?_
          show AT p e below s₁ m 70 #[iv p0] [] _
          refine XS.iloadN X0.here hx rfl (hb hby d2_70) rfl ?_
          show AT p e below s₁ m 71 #[iv p0] [(.int p0)] _
          refine XS.bipush X0.here hx rfl (hb hby d2_71) ?_
          exact kg)
         rcases Decidable.em (p0 = (7 : Int32)) with hc25 | hc25
         ·
          obtain ⟨T26, X26, e26, st26⟩ := getS2 X0 hx hZ hown (host := "") (Or.inl (ow hw 29 rfl)) Via.refl e0 (S_LIST.ext O0.2) (g := (mkF m 76 #[iv p0] [])) rfl (hb hby d2_76)
          obtain ⟨fs, hr, hrun, hended, hW, hsame⟩ := X26.leave (v := some (.ref w_LIST)) (fun h => by rw [Bd.returns] at h; cases h)
          subst hS0
          refine ⟨_, _, pre24 _ ?_, hrun, hended, _, _, rfl, ?_, ⟨_, rfl⟩, hW, hsame.mono (by decide) (by decide)⟩
          ·
           refine XS.icmpNo X0.here hx rfl (hb hby d2_73) rfl (XT.ii_ne_f hc25) ?_
           show AT p e below s₁ m 76 #[iv p0] [] _
           refine st26 _ ?_
           show AT p e below T26 m 79 #[iv p0] [(.ref w_LIST)] _
           exact retOut X26 hx (t := (.object "com/example/uni_frame/uniframe/protocol/ValueType")) (i := .areturn) Bd.returns rfl (Or.inr (Or.inr (Or.inr (Or.inr ⟨rfl, rfl, rfl⟩)))) (hb hby d2_79) hr
          ·
           show Q2 Z p0 w_TYPES w_I16 w_DOUBLE w_I64 w_BINARY w_SET w_I8 w_STRUCT w_BOOL w_LIST w_MAP w_UUID w_I32 k_TYPES h0 n0 _ T26.heap _
           rw [e26]
           exact ⟨(by rw [f2, if_neg hc2, if_neg hc4, if_neg hc7, if_neg hc10, if_neg hc13, if_neg hc16, if_neg hc19, if_neg hc22, if_pos hc25]), N0, rfl⟩
         ·
          have pre27 : ∀ tg, AT p e below s₁ m 83 #[iv p0] [(.int (8 : Int32)), (.int p0)] tg → Steps p.tables e below S0 tg := fun tg kg => pre24 tg (by
           refine XS.icmpYes X0.here hx rfl (pc0 := 73) (pc' := 80) rfl (hb hby d2_73) rfl (XT.ii_ne_t hc25) (by decide) (by decide) ?_
           show AT p e below s₁ m 80 #[iv p0] [] _
           refine XS.iloadN X0.here hx rfl (hb hby d2_80) rfl ?_
           show AT p e below s₁ m 81 #[iv p0] [(.int p0)] _
           refine XS.bipush X0.here hx rfl (hb hby d2_81) ?_
           exact kg)
          rcases Decidable.em (p0 = (8 : Int32)) with hc28 | hc28
          ·
           obtain ⟨T29, X29, e29, st29⟩ := getS2 X0 hx hZ hown (host := "") (Or.inl (ow hw 21 rfl)) Via.refl e0 (S_SET.ext O0.2) (g := (mkF m 86 #[iv p0] [])) rfl (hb hby d2_86)
           obtain ⟨fs, hr, hrun, hended, hW, hsame⟩ := X29.leave (v := some (.ref w_SET)) (fun h => by rw [Bd.returns] at h; cases h)
           subst hS0
           refine ⟨_, _, pre27 _ ?_, hrun, hended, _, _, rfl, ?_, ⟨_, rfl⟩, hW, hsame.mono (by decide) (by decide)⟩
           ·
            refine XS.icmpNo X0.here hx rfl (hb hby d2_83) rfl (XT.ii_ne_f hc28) ?_
            show AT p e below s₁ m 86 #[iv p0] [] _
            refine st29 _ ?_
            show AT p e below T29 m 89 #[iv p0] [(.ref w_SET)] _
            exact retOut X29 hx (t := (.object "com/example/uni_frame/uniframe/protocol/ValueType")) (i := .areturn) Bd.returns rfl (Or.inr (Or.inr (Or.inr (Or.inr ⟨rfl, rfl, rfl⟩)))) (hb hby d2_89) hr
           ·
            show Q2 Z p0 w_TYPES w_I16 w_DOUBLE w_I64 w_BINARY w_SET w_I8 w_STRUCT w_BOOL w_LIST w_MAP w_UUID w_I32 k_TYPES h0 n0 _ T29.heap _
            rw [e29]
            exact ⟨(by rw [f2, if_neg hc2, if_neg hc4, if_neg hc7, if_neg hc10, if_neg hc13, if_neg hc16, if_neg hc19, if_neg hc22, if_neg hc25, if_pos hc28]), N0, rfl⟩
          ·
           have pre30 : ∀ tg, AT p e below s₁ m 93 #[iv p0] [(.int (9 : Int32)), (.int p0)] tg → Steps p.tables e below S0 tg := fun tg kg => pre27 tg (by
            refine XS.icmpYes X0.here hx rfl (pc0 := 83) (pc' := 90) rfl (hb hby d2_83) rfl (XT.ii_ne_t hc28) (by decide) (by decide) ?_
            show AT p e below s₁ m 90 #[iv p0] [] _
            refine XS.iloadN X0.here hx rfl (hb hby d2_90) rfl ?_
            show AT p e below s₁ m 91 #[iv p0] [(.int p0)] _
            refine XS.bipush X0.here hx rfl (hb hby d2_91) ?_
            exact kg)
           rcases Decidable.em (p0 = (9 : Int32)) with hc31 | hc31
           ·
            obtain ⟨T32, X32, e32, st32⟩ := getS2 X0 hx hZ hown (host := "") (Or.inl (ow hw 31 rfl)) Via.refl e0 (S_MAP.ext O0.2) (g := (mkF m 96 #[iv p0] [])) rfl (hb hby d2_96)
            obtain ⟨fs, hr, hrun, hended, hW, hsame⟩ := X32.leave (v := some (.ref w_MAP)) (fun h => by rw [Bd.returns] at h; cases h)
            subst hS0
            refine ⟨_, _, pre30 _ ?_, hrun, hended, _, _, rfl, ?_, ⟨_, rfl⟩, hW, hsame.mono (by decide) (by decide)⟩
            ·
             refine XS.icmpNo X0.here hx rfl (hb hby d2_93) rfl (XT.ii_ne_f hc31) ?_
             show AT p e below s₁ m 96 #[iv p0] [] _
             refine st32 _ ?_
             show AT p e below T32 m 99 #[iv p0] [(.ref w_MAP)] _
             exact retOut X32 hx (t := (.object "com/example/uni_frame/uniframe/protocol/ValueType")) (i := .areturn) Bd.returns rfl (Or.inr (Or.inr (Or.inr (Or.inr ⟨rfl, rfl, rfl⟩)))) (hb hby d2_99) hr
            ·
             show Q2 Z p0 w_TYPES w_I16 w_DOUBLE w_I64 w_BINARY w_SET w_I8 w_STRUCT w_BOOL w_LIST w_MAP w_UUID w_I32 k_TYPES h0 n0 _ T32.heap _
             rw [e32]
             exact ⟨(by rw [f2, if_neg hc2, if_neg hc4, if_neg hc7, if_neg hc10, if_neg hc13, if_neg hc16, if_neg hc19, if_neg hc22, if_neg hc25, if_neg hc28, if_pos hc31]), N0, rfl⟩
           ·
            have pre33 : ∀ tg, AT p e below s₁ m 103 #[iv p0] [(.int (10 : Int32)), (.int p0)] tg → Steps p.tables e below S0 tg := fun tg kg => pre30 tg (by
             refine XS.icmpYes X0.here hx rfl (pc0 := 93) (pc' := 100) rfl (hb hby d2_93) rfl (XT.ii_ne_t hc31) (by decide) (by decide) ?_
             show AT p e below s₁ m 100 #[iv p0] [] _
             refine XS.iloadN X0.here hx rfl (hb hby d2_100) rfl ?_
             show AT p e below s₁ m 101 #[iv p0] [(.int p0)] _
             refine XS.bipush X0.here hx rfl (hb hby d2_101) ?_
             exact kg)
            rcases Decidable.em (p0 = (10 : Int32)) with hc34 | hc34
            ·
             obtain ⟨T35, X35, e35, st35⟩ := getS2 X0 hx hZ hown (host := "") (Or.inl (ow hw 25 rfl)) Via.refl e0 (S_STRUCT.ext O0.2) (g := (mkF m 106 #[iv p0] [])) rfl (hb hby d2_106)
             obtain ⟨fs, hr, hrun, hended, hW, hsame⟩ := X35.leave (v := some (.ref w_STRUCT)) (fun h => by rw [Bd.returns] at h; cases h)
             subst hS0
             refine ⟨_, _, pre33 _ ?_, hrun, hended, _, _, rfl, ?_, ⟨_, rfl⟩, hW, hsame.mono (by decide) (by decide)⟩
             ·
              refine XS.icmpNo X0.here hx rfl (hb hby d2_103) rfl (XT.ii_ne_f hc34) ?_
              show AT p e below s₁ m 106 #[iv p0] [] _
              refine st35 _ ?_
              show AT p e below T35 m 109 #[iv p0] [(.ref w_STRUCT)] _
              exact retOut X35 hx (t := (.object "com/example/uni_frame/uniframe/protocol/ValueType")) (i := .areturn) Bd.returns rfl (Or.inr (Or.inr (Or.inr (Or.inr ⟨rfl, rfl, rfl⟩)))) (hb hby d2_109) hr
             ·
              show Q2 Z p0 w_TYPES w_I16 w_DOUBLE w_I64 w_BINARY w_SET w_I8 w_STRUCT w_BOOL w_LIST w_MAP w_UUID w_I32 k_TYPES h0 n0 _ T35.heap _
              rw [e35]
              exact ⟨(by rw [f2, if_neg hc2, if_neg hc4, if_neg hc7, if_neg hc10, if_neg hc13, if_neg hc16, if_neg hc19, if_neg hc22, if_neg hc25, if_neg hc28, if_neg hc31, if_pos hc34]), N0, rfl⟩
            ·
             obtain ⟨T36, X36, e36, st36⟩ := getS2 X0 hx hZ hown (host := "") (Or.inl (ow hw 33 rfl)) Via.refl e0 (S_UUID.ext O0.2) (g := (mkF m 110 #[iv p0] [])) rfl (hb hby d2_110)
             obtain ⟨fs, hr, hrun, hended, hW, hsame⟩ := X36.leave (v := some (.ref w_UUID)) (fun h => by rw [Bd.returns] at h; cases h)
             subst hS0
             refine ⟨_, _, pre33 _ ?_, hrun, hended, _, _, rfl, ?_, ⟨_, rfl⟩, hW, hsame.mono (by decide) (by decide)⟩
             ·
              refine XS.icmpYes X0.here hx rfl (pc0 := 103) (pc' := 110) rfl (hb hby d2_103) rfl (XT.ii_ne_t hc34) (by decide) (by decide) ?_
              show AT p e below s₁ m 110 #[iv p0] [] _
              refine st36 _ ?_
              show AT p e below T36 m 113 #[iv p0] [(.ref w_UUID)] _
              exact retOut X36 hx (t := (.object "com/example/uni_frame/uniframe/protocol/ValueType")) (i := .areturn) Bd.returns rfl (Or.inr (Or.inr (Or.inr (Or.inr ⟨rfl, rfl, rfl⟩)))) (hb hby d2_113) hr
             ·
              show Q2 Z p0 w_TYPES w_I16 w_DOUBLE w_I64 w_BINARY w_SET w_I8 w_STRUCT w_BOOL w_LIST w_MAP w_UUID w_I32 k_TYPES h0 n0 _ T36.heap _
              rw [e36]
              exact ⟨(by rw [f2, if_neg hc2, if_neg hc4, if_neg hc7, if_neg hc10, if_neg hc13, if_neg hc16, if_neg hc19, if_neg hc22, if_neg hc25, if_neg hc28, if_neg hc31, if_neg hc34]), N0, rfl⟩

theorem ef_0 (m : MethodId) (p0 : Int32) : entryFrame m #[(.int p0)] maxLocals = mkF m 0 #[iv p0, un] [] := by first | (simp [entryFrame, mkF, argsToLocals, Value.category, maxLocals]; done) | rfl
def Q0 (Z : State) (p0 : Int32) (w_TYPES : Addr) (w_I16 : Addr) (w_DOUBLE : Addr) (w_I64 : Addr) (w_BINARY : Addr) (w_SET : Addr) (w_I8 : Addr) (w_STRUCT : Addr) (w_BOOL : Addr) (w_LIST : Addr) (w_MAP : Addr) (w_UUID : Addr) (w_I32 : Addr) (k_TYPES : ClassId) (h0 : Heap) (n0 : Nat) (v : Option Value) (h : Heap) (L : List Loc) : Prop := v = some (.int 1) ∧ Fr n0 L
set_option maxRecDepth 65536 in
set_option maxHeartbeats 40000000 in
theorem rm0 (l : Launch) (Z : State) (ar : Array Value) (hw : ∀ d ∈ tables_1, d.before ar Z = true) (ws : List Jvm.Cond) (p0 : Int32) (w_TYPES : Addr) (w_I16 : Addr) (w_DOUBLE : Addr) (w_I64 : Addr) (w_BINARY : Addr) (w_SET : Addr) (w_I8 : Addr) (w_STRUCT : Addr) (w_BOOL : Addr) (w_LIST : Addr) (w_MAP : Addr) (w_UUID : Addr) (w_I32 : Addr) (k_TYPES : ClassId) (h0 : Heap) (n0 : Nat) (O0 : Old Z n0 h0) (HW : Wd Z w_TYPES w_I16 w_DOUBLE w_I64 w_BINARY w_SET w_I8 w_STRUCT w_BOOL w_LIST w_MAP w_UUID w_I32 k_TYPES) :
    MetFree l x (head1 (Jvm.Cond.code x code maxLocals ret :: ws) room_1) (fun a U => a = #[(.int p0)] ∧ Z.Warmed39 U.vm ∧ U.heap = h0) (fun _ _ _ _ _ => True) (fun _ U o U' => ∃ v L, o = .returned v ∧ Q0 Z p0 w_TYPES w_I16 w_DOUBLE w_I64 w_BINARY w_SET w_I8 w_STRUCT w_BOOL w_LIST w_MAP w_UUID w_I32 k_TYPES h0 n0 v U'.heap L ∧ FrameEnd U o U' L 0 0) := by
 refine MetFree.of_bodySF (plainFor_of_name pn_1) hisR ?_
 intro p e s m args below meth c s₁ Bd hml0 hP hK
 obtain ⟨rfl, hZ, hh⟩ := hP
 have hx := Bd.exec
 have hby := Bd.bytes
 have hml : c.maxLocals = 2 := hml0
 have hown : s.vm.findClass "com/example/uni_frame/uniframe/protocol/TypeCodeValueTypePinLaw" = some m.cls := findClass_of_methodNamed Bd.named
 have hnm := (name_of_methodNamed Bd.named Bd.method).1
 have X0 : Stand p l e room_1 s m #[(.int p0)] below meth c s₁ [] 0 0 := Stand.of_body Bd
 have e0 : s₁.heap = h0 := by rw [← hh, Bd.state]; rfl
 have N0 := Fr.nil n0
 have Z0 : n0 ≤ h0.size := Nat.le_trans (Nat.le_of_eq O0.1.symm) O0.2.1
 obtain ⟨S0, hS0⟩ : ∃ z, z = s₁.setTop (entryFrame m #[(.int p0)] maxLocals) := ⟨_, rfl⟩
 have pre0 : ∀ tg, AT p e below s₁ m 0 #[iv p0, un] [] tg → Steps p.tables e below S0 tg := fun tg kg => by rw [hS0]; exact castTop (ef_0 m p0) kg
 obtain ⟨S_TYPES, S_I16, E_I16, S_DOUBLE, E_DOUBLE, S_I64, E_I64, S_BINARY, E_BINARY, S_SET, E_SET, S_I8, E_I8, S_STRUCT, E_STRUCT, S_BOOL, E_BOOL, S_LIST, E_LIST, S_MAP, E_MAP, S_UUID, E_UUID, S_I32, E_I32, V_TYPES⟩ := id HW
 have pre1 : ∀ tg, AT p e below s₁ m 10 #[iv p0, iv (((p0 &&& (2147483647 : Int32)) % (13 : Int32)) - (1 : Int32))] [] tg → Steps p.tables e below S0 tg := fun tg kg => pre0 tg (by
  refine XS.iloadN X0.here hx rfl (hb hby at_0) rfl ?_
  show AT p e below s₁ m 1 #[iv p0, un] [(.int p0)] _
  refine X0.ldcInt hx hown (mvT hZ (ow hw 0 rfl)) (g := (mkF m 1 #[iv p0, un] [(.int p0)])) rfl (hb hby at_1) _ ?_
  show AT p e below s₁ m 3 #[iv p0, un] [(.int (2147483647 : Int32)), (.int p0)] _
  refine XS.iand X0.here hx rfl (hb hby at_3) rfl ?_
  show AT p e below s₁ m 4 #[iv p0, un] [(.int (p0 &&& (2147483647 : Int32)))] _
  refine XS.bipush X0.here hx rfl (hb hby at_4) ?_
  show AT p e below s₁ m 6 #[iv p0, un] [(.int (13 : Int32)), (.int (p0 &&& (2147483647 : Int32)))] _
  refine iremM X0 hx rfl (hb hby at_6) rfl (by decide) ?_
  show AT p e below s₁ m 7 #[iv p0, un] [(.int ((p0 &&& (2147483647 : Int32)) % (13 : Int32)))] _
  refine XS.iconst X0.here hx rfl (hb hby at_7) ?_
  show AT p e below s₁ m 8 #[iv p0, un] [(.int (1 : Int32)), (.int ((p0 &&& (2147483647 : Int32)) % (13 : Int32)))] _
  refine XS.isub X0.here hx rfl (hb hby at_8) rfl ?_
  show AT p e below s₁ m 9 #[iv p0, un] [(.int (((p0 &&& (2147483647 : Int32)) % (13 : Int32)) - (1 : Int32)))] _
  refine XS.istoreN X0.here hx rfl (hb hby at_9) rfl (l' := #[iv p0, iv (((p0 &&& (2147483647 : Int32)) % (13 : Int32)) - (1 : Int32))]) rfl ?_
  exact kg)
 obtain ⟨k, hk⟩ : ∃ z, z = (((p0 &&& (2147483647 : Int32)) % (13 : Int32)) - (1 : Int32)) := ⟨_, rfl⟩
 have pre2 : ∀ tg, AT p e below s₁ m 10 #[iv p0, iv k] [] tg → Steps p.tables e below S0 tg := by rw [hk]; exact pre1
 have hsk : k = (-1 : Int32) ∨ k = (0 : Int32) ∨ k = (1 : Int32) ∨ k = (2 : Int32) ∨ k = (3 : Int32) ∨ k = (4 : Int32) ∨ k = (5 : Int32) ∨ k = (6 : Int32) ∨ k = (7 : Int32) ∨ k = (8 : Int32) ∨ k = (9 : Int32) ∨ k = (10 : Int32) ∨ k = (11 : Int32) := by rw [hk]; exact own_k p0
 rcases hsk with rfl | rfl | rfl | rfl | rfl | rfl | rfl | rfl | rfl | rfl | rfl | rfl | rfl
 ·
  obtain ⟨_, _, ⟨T3, L3, k3, n3⟩, -, X3, ⟨Lc3, hQ3, l3, y3, z3⟩, st3⟩ := Jvm.LawKit.callS X0 hx (y := y1) hown (mvT hZ (ow hw 1 rfl)) (mvT hZ (ow hw 2 rfl)) (mvT hZ (ow hw 3 rfl)) (mvT hZ (ow hw 4 rfl)) (by decide) (backOf (W := 0) (rm1_0 l Z ar hw []  h0 n0 O0) hZ (ow hw 4 rfl) (ow hw 3 rfl) (by decide) (by decide)) (g := (mkF m 11 #[iv p0, iv (-1 : Int32)] [(.int (-1 : Int32))])) rfl (by rw [hml]; rfl) (argsL := [(.int (-1 : Int32))]) (rest := []) (lenOf pd_0 rfl) rfl (by show 2 * 0 + _ ≤ _; exact Nat.le_of_eq rfl) (hb hby at_11) (fun _ _ => ⟨rfl, e0, (by decide : 0 + 0 ≤ _), (by decide : 0 + 0 ≤ _)⟩)
  dsimp only [Pt.U, Pt.locs, Pt.cells, Pt.slots] at X3 l3 y3 z3 st3 hQ3
  subst l3 y3 z3
  obtain ⟨rfl, N3q, e3⟩ := hQ3
  have N3 := Fr.app N0 N3q
  have r3 : f1_0 = .null := by rw [f1_0] <;> decide
  rw [r3] at st3
  obtain ⟨_, _, ⟨T4, L4, k4, n4⟩, -, X4, ⟨Lc4, hQ4, l4, y4, z4⟩, st4⟩ := Jvm.LawKit.callS X3 hx (y := y2) hown (mvT hZ (ow hw 5 rfl)) (mvT hZ (ow hw 6 rfl)) (mvT hZ (ow hw 7 rfl)) (mvT hZ (ow hw 8 rfl)) (by decide) (backOf (W := 1) (rm2 l Z ar hw [] (-1 : Int32) w_TYPES w_I16 w_DOUBLE w_I64 w_BINARY w_SET w_I8 w_STRUCT w_BOOL w_LIST w_MAP w_UUID w_I32 k_TYPES h0 n0 O0 HW) hZ (ow hw 8 rfl) (ow hw 7 rfl) (by decide) (by decide)) (g := (mkF m 15 #[iv p0, iv (-1 : Int32)] [(.int (-1 : Int32)), .null])) rfl (by rw [hml]; rfl) (argsL := [(.int (-1 : Int32))]) (rest := [.null]) (lenOf pd_0 rfl) rfl (by show 2 * 0 + _ ≤ _; exact Nat.le_of_eq rfl) (hb hby at_15) (fun _ _ => ⟨rfl, e3, (by decide : 0 + 0 ≤ _), (by decide : 0 + 0 ≤ _)⟩)
  dsimp only [Pt.U, Pt.locs, Pt.cells, Pt.slots] at X4 l4 y4 z4 st4 hQ4
  subst l4 y4 z4
  obtain ⟨rfl, N4q, e4⟩ := hQ4
  have N4 := Fr.app N3 N4q
  have r4 : (f2 (-1 : Int32) w_I16 w_DOUBLE w_I64 w_BINARY w_SET w_I8 w_STRUCT w_BOOL w_LIST w_MAP w_UUID w_I32) = .null := by rw [f2, if_pos ((by decide) : (-1 : Int32) = (-1 : Int32))] <;> decide
  rw [r4] at st4
  obtain ⟨fs, hr, hrun, hended, hW, hsame⟩ := X4.leave (v := some (.int (1 : Int32))) (fun h => by rw [Bd.returns] at h; cases h)
  subst hS0
  refine ⟨_, _, pre2 _ ?_, hrun, hended, _, _, rfl, ?_, ⟨_, rfl⟩, hW, hsame.mono (by decide) (by decide)⟩
  ·
   refine XS.iloadN X0.here hx rfl (hb hby at_10) rfl ?_
   show AT p e below s₁ m 11 #[iv p0, iv (-1 : Int32)] [(.int (-1 : Int32))] _
   refine st3 _ ?_
   show AT p e below T3 m 14 #[iv p0, iv (-1 : Int32)] [.null] _
   refine XS.iloadN X3.here hx rfl (hb hby at_14) rfl ?_
   show AT p e below T3 m 15 #[iv p0, iv (-1 : Int32)] [(.int (-1 : Int32)), .null] _
   refine st4 _ ?_
   show AT p e below T4 m 18 #[iv p0, iv (-1 : Int32)] [.null, .null] _
   refine Jvm.RoadKit.acmp (g := (mkF m 18 #[iv p0, iv (-1 : Int32)] [.null, .null])) X4 hx rfl rfl rfl (pc0 := 18) (pc' := 21) (same := true) rfl (hb hby at_18) rfl (decide_eq_true rfl) (by decide) (by decide) ?_
   show AT p e below T4 m 21 #[iv p0, iv (-1 : Int32)] [] _
   refine XS.iconst X4.here hx rfl (hb hby at_21) ?_
   show AT p e below T4 m 22 #[iv p0, iv (-1 : Int32)] [(.int (1 : Int32))] _
   refine XS.goto X4.here hx rfl (pc0 := 22) (pc' := 26) rfl (hb hby at_22) (by decide) (by decide) ?_
   show AT p e below T4 m 26 #[iv p0, iv (-1 : Int32)] [(.int (1 : Int32))] _
   exact retN X4 hx (t := .boolean) Bd.returns (by simp) (hb hby at_26) hr
  ·
   show Q0 Z p0 w_TYPES w_I16 w_DOUBLE w_I64 w_BINARY w_SET w_I8 w_STRUCT w_BOOL w_LIST w_MAP w_UUID w_I32 k_TYPES h0 n0 _ T4.heap _
   rw [e4]
   exact ⟨rfl, N4⟩
 ·
  obtain ⟨_, _, ⟨T5, L5, k5, n5⟩, -, X5, ⟨Lc5, hQ5, l5, y5, z5⟩, st5⟩ := Jvm.LawKit.callS X0 hx (y := y1) hown (mvT hZ (ow hw 1 rfl)) (mvT hZ (ow hw 2 rfl)) (mvT hZ (ow hw 3 rfl)) (mvT hZ (ow hw 4 rfl)) (by decide) (backOf (W := 0) (rm1_1 l Z ar hw [] w_TYPES w_I16 w_DOUBLE w_I64 w_BINARY w_SET w_I8 w_STRUCT w_BOOL w_LIST w_MAP w_UUID w_I32 k_TYPES h0 n0 O0 HW) hZ (ow hw 4 rfl) (ow hw 3 rfl) (by decide) (by decide)) (g := (mkF m 11 #[iv p0, iv (0 : Int32)] [(.int (0 : Int32))])) rfl (by rw [hml]; rfl) (argsL := [(.int (0 : Int32))]) (rest := []) (lenOf pd_0 rfl) rfl (by show 2 * 0 + _ ≤ _; exact Nat.le_of_eq rfl) (hb hby at_11) (fun _ _ => ⟨rfl, e0, (by decide : 0 + 0 ≤ _), (by decide : 0 + 0 ≤ _)⟩)
  dsimp only [Pt.U, Pt.locs, Pt.cells, Pt.slots] at X5 l5 y5 z5 st5 hQ5
  subst l5 y5 z5
  obtain ⟨rfl, N5q, e5⟩ := hQ5
  have N5 := Fr.app N0 N5q
  have r5 : (f1_1 w_BOOL) = w_BOOL := by rw [f1_1] <;> decide
  rw [r5] at st5
  obtain ⟨_, _, ⟨T6, L6, k6, n6⟩, -, X6, ⟨Lc6, hQ6, l6, y6, z6⟩, st6⟩ := Jvm.LawKit.callS X5 hx (y := y2) hown (mvT hZ (ow hw 5 rfl)) (mvT hZ (ow hw 6 rfl)) (mvT hZ (ow hw 7 rfl)) (mvT hZ (ow hw 8 rfl)) (by decide) (backOf (W := 1) (rm2 l Z ar hw [] (0 : Int32) w_TYPES w_I16 w_DOUBLE w_I64 w_BINARY w_SET w_I8 w_STRUCT w_BOOL w_LIST w_MAP w_UUID w_I32 k_TYPES h0 n0 O0 HW) hZ (ow hw 8 rfl) (ow hw 7 rfl) (by decide) (by decide)) (g := (mkF m 15 #[iv p0, iv (0 : Int32)] [(.int (0 : Int32)), (.ref w_BOOL)])) rfl (by rw [hml]; rfl) (argsL := [(.int (0 : Int32))]) (rest := [(.ref w_BOOL)]) (lenOf pd_0 rfl) rfl (by show 2 * 0 + _ ≤ _; exact Nat.le_of_eq rfl) (hb hby at_15) (fun _ _ => ⟨rfl, e5, (by decide : 0 + 0 ≤ _), (by decide : 0 + 0 ≤ _)⟩)
  dsimp only [Pt.U, Pt.locs, Pt.cells, Pt.slots] at X6 l6 y6 z6 st6 hQ6
  subst l6 y6 z6
  obtain ⟨rfl, N6q, e6⟩ := hQ6
  have N6 := Fr.app N5 N6q
  have r6 : (f2 (0 : Int32) w_I16 w_DOUBLE w_I64 w_BINARY w_SET w_I8 w_STRUCT w_BOOL w_LIST w_MAP w_UUID w_I32) = (.ref w_BOOL) := by rw [f2, if_neg ((by decide) : ¬ ((0 : Int32) = (-1 : Int32))), if_pos ((by decide) : (0 : Int32) = (0 : Int32))] <;> decide
  rw [r6] at st6
  obtain ⟨fs, hr, hrun, hended, hW, hsame⟩ := X6.leave (v := some (.int (1 : Int32))) (fun h => by rw [Bd.returns] at h; cases h)
  subst hS0
  refine ⟨_, _, pre2 _ ?_, hrun, hended, _, _, rfl, ?_, ⟨_, rfl⟩, hW, hsame.mono (by decide) (by decide)⟩
  ·
   refine XS.iloadN X0.here hx rfl (hb hby at_10) rfl ?_
   show AT p e below s₁ m 11 #[iv p0, iv (0 : Int32)] [(.int (0 : Int32))] _
   refine st5 _ ?_
   show AT p e below T5 m 14 #[iv p0, iv (0 : Int32)] [(.ref w_BOOL)] _
   refine XS.iloadN X5.here hx rfl (hb hby at_14) rfl ?_
   show AT p e below T5 m 15 #[iv p0, iv (0 : Int32)] [(.int (0 : Int32)), (.ref w_BOOL)] _
   refine st6 _ ?_
   show AT p e below T6 m 18 #[iv p0, iv (0 : Int32)] [(.ref w_BOOL), (.ref w_BOOL)] _
   refine Jvm.RoadKit.acmp (g := (mkF m 18 #[iv p0, iv (0 : Int32)] [(.ref w_BOOL), (.ref w_BOOL)])) X6 hx rfl rfl rfl (pc0 := 18) (pc' := 21) (same := true) rfl (hb hby at_18) rfl (decide_eq_true rfl) (by decide) (by decide) ?_
   show AT p e below T6 m 21 #[iv p0, iv (0 : Int32)] [] _
   refine XS.iconst X6.here hx rfl (hb hby at_21) ?_
   show AT p e below T6 m 22 #[iv p0, iv (0 : Int32)] [(.int (1 : Int32))] _
   refine XS.goto X6.here hx rfl (pc0 := 22) (pc' := 26) rfl (hb hby at_22) (by decide) (by decide) ?_
   show AT p e below T6 m 26 #[iv p0, iv (0 : Int32)] [(.int (1 : Int32))] _
   exact retN X6 hx (t := .boolean) Bd.returns (by simp) (hb hby at_26) hr
  ·
   show Q0 Z p0 w_TYPES w_I16 w_DOUBLE w_I64 w_BINARY w_SET w_I8 w_STRUCT w_BOOL w_LIST w_MAP w_UUID w_I32 k_TYPES h0 n0 _ T6.heap _
   rw [e6]
   exact ⟨rfl, N6⟩
 ·
  obtain ⟨_, _, ⟨T7, L7, k7, n7⟩, -, X7, ⟨Lc7, hQ7, l7, y7, z7⟩, st7⟩ := Jvm.LawKit.callS X0 hx (y := y1) hown (mvT hZ (ow hw 1 rfl)) (mvT hZ (ow hw 2 rfl)) (mvT hZ (ow hw 3 rfl)) (mvT hZ (ow hw 4 rfl)) (by decide) (backOf (W := 0) (rm1_2 l Z ar hw [] w_TYPES w_I16 w_DOUBLE w_I64 w_BINARY w_SET w_I8 w_STRUCT w_BOOL w_LIST w_MAP w_UUID w_I32 k_TYPES h0 n0 O0 HW) hZ (ow hw 4 rfl) (ow hw 3 rfl) (by decide) (by decide)) (g := (mkF m 11 #[iv p0, iv (1 : Int32)] [(.int (1 : Int32))])) rfl (by rw [hml]; rfl) (argsL := [(.int (1 : Int32))]) (rest := []) (lenOf pd_0 rfl) rfl (by show 2 * 0 + _ ≤ _; exact Nat.le_of_eq rfl) (hb hby at_11) (fun _ _ => ⟨rfl, e0, (by decide : 0 + 0 ≤ _), (by decide : 0 + 0 ≤ _)⟩)
  dsimp only [Pt.U, Pt.locs, Pt.cells, Pt.slots] at X7 l7 y7 z7 st7 hQ7
  subst l7 y7 z7
  obtain ⟨rfl, N7q, e7⟩ := hQ7
  have N7 := Fr.app N0 N7q
  have r7 : (f1_2 w_I8) = w_I8 := by rw [f1_2] <;> decide
  rw [r7] at st7
  obtain ⟨_, _, ⟨T8, L8, k8, n8⟩, -, X8, ⟨Lc8, hQ8, l8, y8, z8⟩, st8⟩ := Jvm.LawKit.callS X7 hx (y := y2) hown (mvT hZ (ow hw 5 rfl)) (mvT hZ (ow hw 6 rfl)) (mvT hZ (ow hw 7 rfl)) (mvT hZ (ow hw 8 rfl)) (by decide) (backOf (W := 1) (rm2 l Z ar hw [] (1 : Int32) w_TYPES w_I16 w_DOUBLE w_I64 w_BINARY w_SET w_I8 w_STRUCT w_BOOL w_LIST w_MAP w_UUID w_I32 k_TYPES h0 n0 O0 HW) hZ (ow hw 8 rfl) (ow hw 7 rfl) (by decide) (by decide)) (g := (mkF m 15 #[iv p0, iv (1 : Int32)] [(.int (1 : Int32)), (.ref w_I8)])) rfl (by rw [hml]; rfl) (argsL := [(.int (1 : Int32))]) (rest := [(.ref w_I8)]) (lenOf pd_0 rfl) rfl (by show 2 * 0 + _ ≤ _; exact Nat.le_of_eq rfl) (hb hby at_15) (fun _ _ => ⟨rfl, e7, (by decide : 0 + 0 ≤ _), (by decide : 0 + 0 ≤ _)⟩)
  dsimp only [Pt.U, Pt.locs, Pt.cells, Pt.slots] at X8 l8 y8 z8 st8 hQ8
  subst l8 y8 z8
  obtain ⟨rfl, N8q, e8⟩ := hQ8
  have N8 := Fr.app N7 N8q
  have r8 : (f2 (1 : Int32) w_I16 w_DOUBLE w_I64 w_BINARY w_SET w_I8 w_STRUCT w_BOOL w_LIST w_MAP w_UUID w_I32) = (.ref w_I8) := by rw [f2, if_neg ((by decide) : ¬ ((1 : Int32) = (-1 : Int32))), if_neg ((by decide) : ¬ ((1 : Int32) = (0 : Int32))), if_pos ((by decide) : (1 : Int32) = (1 : Int32))] <;> decide
  rw [r8] at st8
  obtain ⟨fs, hr, hrun, hended, hW, hsame⟩ := X8.leave (v := some (.int (1 : Int32))) (fun h => by rw [Bd.returns] at h; cases h)
  subst hS0
  refine ⟨_, _, pre2 _ ?_, hrun, hended, _, _, rfl, ?_, ⟨_, rfl⟩, hW, hsame.mono (by decide) (by decide)⟩
  ·
   refine XS.iloadN X0.here hx rfl (hb hby at_10) rfl ?_
   show AT p e below s₁ m 11 #[iv p0, iv (1 : Int32)] [(.int (1 : Int32))] _
   refine st7 _ ?_
   show AT p e below T7 m 14 #[iv p0, iv (1 : Int32)] [(.ref w_I8)] _
   refine XS.iloadN X7.here hx rfl (hb hby at_14) rfl ?_
   show AT p e below T7 m 15 #[iv p0, iv (1 : Int32)] [(.int (1 : Int32)), (.ref w_I8)] _
   refine st8 _ ?_
   show AT p e below T8 m 18 #[iv p0, iv (1 : Int32)] [(.ref w_I8), (.ref w_I8)] _
   refine Jvm.RoadKit.acmp (g := (mkF m 18 #[iv p0, iv (1 : Int32)] [(.ref w_I8), (.ref w_I8)])) X8 hx rfl rfl rfl (pc0 := 18) (pc' := 21) (same := true) rfl (hb hby at_18) rfl (decide_eq_true rfl) (by decide) (by decide) ?_
   show AT p e below T8 m 21 #[iv p0, iv (1 : Int32)] [] _
   refine XS.iconst X8.here hx rfl (hb hby at_21) ?_
   show AT p e below T8 m 22 #[iv p0, iv (1 : Int32)] [(.int (1 : Int32))] _
   refine XS.goto X8.here hx rfl (pc0 := 22) (pc' := 26) rfl (hb hby at_22) (by decide) (by decide) ?_
   show AT p e below T8 m 26 #[iv p0, iv (1 : Int32)] [(.int (1 : Int32))] _
   exact retN X8 hx (t := .boolean) Bd.returns (by simp) (hb hby at_26) hr
  ·
   show Q0 Z p0 w_TYPES w_I16 w_DOUBLE w_I64 w_BINARY w_SET w_I8 w_STRUCT w_BOOL w_LIST w_MAP w_UUID w_I32 k_TYPES h0 n0 _ T8.heap _
   rw [e8]
   exact ⟨rfl, N8⟩
 ·
  obtain ⟨_, _, ⟨T9, L9, k9, n9⟩, -, X9, ⟨Lc9, hQ9, l9, y9, z9⟩, st9⟩ := Jvm.LawKit.callS X0 hx (y := y1) hown (mvT hZ (ow hw 1 rfl)) (mvT hZ (ow hw 2 rfl)) (mvT hZ (ow hw 3 rfl)) (mvT hZ (ow hw 4 rfl)) (by decide) (backOf (W := 0) (rm1_3 l Z ar hw [] w_TYPES w_I16 w_DOUBLE w_I64 w_BINARY w_SET w_I8 w_STRUCT w_BOOL w_LIST w_MAP w_UUID w_I32 k_TYPES h0 n0 O0 HW) hZ (ow hw 4 rfl) (ow hw 3 rfl) (by decide) (by decide)) (g := (mkF m 11 #[iv p0, iv (2 : Int32)] [(.int (2 : Int32))])) rfl (by rw [hml]; rfl) (argsL := [(.int (2 : Int32))]) (rest := []) (lenOf pd_0 rfl) rfl (by show 2 * 0 + _ ≤ _; exact Nat.le_of_eq rfl) (hb hby at_11) (fun _ _ => ⟨rfl, e0, (by decide : 0 + 0 ≤ _), (by decide : 0 + 0 ≤ _)⟩)
  dsimp only [Pt.U, Pt.locs, Pt.cells, Pt.slots] at X9 l9 y9 z9 st9 hQ9
  subst l9 y9 z9
  obtain ⟨rfl, N9q, e9⟩ := hQ9
  have N9 := Fr.app N0 N9q
  have r9 : (f1_3 w_I16) = w_I16 := by rw [f1_3] <;> decide
  rw [r9] at st9
  obtain ⟨_, _, ⟨T10, L10, k10, n10⟩, -, X10, ⟨Lc10, hQ10, l10, y10, z10⟩, st10⟩ := Jvm.LawKit.callS X9 hx (y := y2) hown (mvT hZ (ow hw 5 rfl)) (mvT hZ (ow hw 6 rfl)) (mvT hZ (ow hw 7 rfl)) (mvT hZ (ow hw 8 rfl)) (by decide) (backOf (W := 1) (rm2 l Z ar hw [] (2 : Int32) w_TYPES w_I16 w_DOUBLE w_I64 w_BINARY w_SET w_I8 w_STRUCT w_BOOL w_LIST w_MAP w_UUID w_I32 k_TYPES h0 n0 O0 HW) hZ (ow hw 8 rfl) (ow hw 7 rfl) (by decide) (by decide)) (g := (mkF m 15 #[iv p0, iv (2 : Int32)] [(.int (2 : Int32)), (.ref w_I16)])) rfl (by rw [hml]; rfl) (argsL := [(.int (2 : Int32))]) (rest := [(.ref w_I16)]) (lenOf pd_0 rfl) rfl (by show 2 * 0 + _ ≤ _; exact Nat.le_of_eq rfl) (hb hby at_15) (fun _ _ => ⟨rfl, e9, (by decide : 0 + 0 ≤ _), (by decide : 0 + 0 ≤ _)⟩)
  dsimp only [Pt.U, Pt.locs, Pt.cells, Pt.slots] at X10 l10 y10 z10 st10 hQ10
  subst l10 y10 z10
  obtain ⟨rfl, N10q, e10⟩ := hQ10
  have N10 := Fr.app N9 N10q
  have r10 : (f2 (2 : Int32) w_I16 w_DOUBLE w_I64 w_BINARY w_SET w_I8 w_STRUCT w_BOOL w_LIST w_MAP w_UUID w_I32) = (.ref w_I16) := by rw [f2, if_neg ((by decide) : ¬ ((2 : Int32) = (-1 : Int32))), if_neg ((by decide) : ¬ ((2 : Int32) = (0 : Int32))), if_neg ((by decide) : ¬ ((2 : Int32) = (1 : Int32))), if_pos ((by decide) : (2 : Int32) = (2 : Int32))] <;> decide
  rw [r10] at st10
  obtain ⟨fs, hr, hrun, hended, hW, hsame⟩ := X10.leave (v := some (.int (1 : Int32))) (fun h => by rw [Bd.returns] at h; cases h)
  subst hS0
  refine ⟨_, _, pre2 _ ?_, hrun, hended, _, _, rfl, ?_, ⟨_, rfl⟩, hW, hsame.mono (by decide) (by decide)⟩
  ·
   refine XS.iloadN X0.here hx rfl (hb hby at_10) rfl ?_
   show AT p e below s₁ m 11 #[iv p0, iv (2 : Int32)] [(.int (2 : Int32))] _
   refine st9 _ ?_
   show AT p e below T9 m 14 #[iv p0, iv (2 : Int32)] [(.ref w_I16)] _
   refine XS.iloadN X9.here hx rfl (hb hby at_14) rfl ?_
   show AT p e below T9 m 15 #[iv p0, iv (2 : Int32)] [(.int (2 : Int32)), (.ref w_I16)] _
   refine st10 _ ?_
   show AT p e below T10 m 18 #[iv p0, iv (2 : Int32)] [(.ref w_I16), (.ref w_I16)] _
   refine Jvm.RoadKit.acmp (g := (mkF m 18 #[iv p0, iv (2 : Int32)] [(.ref w_I16), (.ref w_I16)])) X10 hx rfl rfl rfl (pc0 := 18) (pc' := 21) (same := true) rfl (hb hby at_18) rfl (decide_eq_true rfl) (by decide) (by decide) ?_
   show AT p e below T10 m 21 #[iv p0, iv (2 : Int32)] [] _
   refine XS.iconst X10.here hx rfl (hb hby at_21) ?_
   show AT p e below T10 m 22 #[iv p0, iv (2 : Int32)] [(.int (1 : Int32))] _
   refine XS.goto X10.here hx rfl (pc0 := 22) (pc' := 26) rfl (hb hby at_22) (by decide) (by decide) ?_
   show AT p e below T10 m 26 #[iv p0, iv (2 : Int32)] [(.int (1 : Int32))] _
   exact retN X10 hx (t := .boolean) Bd.returns (by simp) (hb hby at_26) hr
  ·
   show Q0 Z p0 w_TYPES w_I16 w_DOUBLE w_I64 w_BINARY w_SET w_I8 w_STRUCT w_BOOL w_LIST w_MAP w_UUID w_I32 k_TYPES h0 n0 _ T10.heap _
   rw [e10]
   exact ⟨rfl, N10⟩
 ·
  obtain ⟨_, _, ⟨T11, L11, k11, n11⟩, -, X11, ⟨Lc11, hQ11, l11, y11, z11⟩, st11⟩ := Jvm.LawKit.callS X0 hx (y := y1) hown (mvT hZ (ow hw 1 rfl)) (mvT hZ (ow hw 2 rfl)) (mvT hZ (ow hw 3 rfl)) (mvT hZ (ow hw 4 rfl)) (by decide) (backOf (W := 0) (rm1_4 l Z ar hw [] w_TYPES w_I16 w_DOUBLE w_I64 w_BINARY w_SET w_I8 w_STRUCT w_BOOL w_LIST w_MAP w_UUID w_I32 k_TYPES h0 n0 O0 HW) hZ (ow hw 4 rfl) (ow hw 3 rfl) (by decide) (by decide)) (g := (mkF m 11 #[iv p0, iv (3 : Int32)] [(.int (3 : Int32))])) rfl (by rw [hml]; rfl) (argsL := [(.int (3 : Int32))]) (rest := []) (lenOf pd_0 rfl) rfl (by show 2 * 0 + _ ≤ _; exact Nat.le_of_eq rfl) (hb hby at_11) (fun _ _ => ⟨rfl, e0, (by decide : 0 + 0 ≤ _), (by decide : 0 + 0 ≤ _)⟩)
  dsimp only [Pt.U, Pt.locs, Pt.cells, Pt.slots] at X11 l11 y11 z11 st11 hQ11
  subst l11 y11 z11
  obtain ⟨rfl, N11q, e11⟩ := hQ11
  have N11 := Fr.app N0 N11q
  have r11 : (f1_4 w_I32) = w_I32 := by rw [f1_4] <;> decide
  rw [r11] at st11
  obtain ⟨_, _, ⟨T12, L12, k12, n12⟩, -, X12, ⟨Lc12, hQ12, l12, y12, z12⟩, st12⟩ := Jvm.LawKit.callS X11 hx (y := y2) hown (mvT hZ (ow hw 5 rfl)) (mvT hZ (ow hw 6 rfl)) (mvT hZ (ow hw 7 rfl)) (mvT hZ (ow hw 8 rfl)) (by decide) (backOf (W := 1) (rm2 l Z ar hw [] (3 : Int32) w_TYPES w_I16 w_DOUBLE w_I64 w_BINARY w_SET w_I8 w_STRUCT w_BOOL w_LIST w_MAP w_UUID w_I32 k_TYPES h0 n0 O0 HW) hZ (ow hw 8 rfl) (ow hw 7 rfl) (by decide) (by decide)) (g := (mkF m 15 #[iv p0, iv (3 : Int32)] [(.int (3 : Int32)), (.ref w_I32)])) rfl (by rw [hml]; rfl) (argsL := [(.int (3 : Int32))]) (rest := [(.ref w_I32)]) (lenOf pd_0 rfl) rfl (by show 2 * 0 + _ ≤ _; exact Nat.le_of_eq rfl) (hb hby at_15) (fun _ _ => ⟨rfl, e11, (by decide : 0 + 0 ≤ _), (by decide : 0 + 0 ≤ _)⟩)
  dsimp only [Pt.U, Pt.locs, Pt.cells, Pt.slots] at X12 l12 y12 z12 st12 hQ12
  subst l12 y12 z12
  obtain ⟨rfl, N12q, e12⟩ := hQ12
  have N12 := Fr.app N11 N12q
  have r12 : (f2 (3 : Int32) w_I16 w_DOUBLE w_I64 w_BINARY w_SET w_I8 w_STRUCT w_BOOL w_LIST w_MAP w_UUID w_I32) = (.ref w_I32) := by rw [f2, if_neg ((by decide) : ¬ ((3 : Int32) = (-1 : Int32))), if_neg ((by decide) : ¬ ((3 : Int32) = (0 : Int32))), if_neg ((by decide) : ¬ ((3 : Int32) = (1 : Int32))), if_neg ((by decide) : ¬ ((3 : Int32) = (2 : Int32))), if_pos ((by decide) : (3 : Int32) = (3 : Int32))] <;> decide
  rw [r12] at st12
  obtain ⟨fs, hr, hrun, hended, hW, hsame⟩ := X12.leave (v := some (.int (1 : Int32))) (fun h => by rw [Bd.returns] at h; cases h)
  subst hS0
  refine ⟨_, _, pre2 _ ?_, hrun, hended, _, _, rfl, ?_, ⟨_, rfl⟩, hW, hsame.mono (by decide) (by decide)⟩
  ·
   refine XS.iloadN X0.here hx rfl (hb hby at_10) rfl ?_
   show AT p e below s₁ m 11 #[iv p0, iv (3 : Int32)] [(.int (3 : Int32))] _
   refine st11 _ ?_
   show AT p e below T11 m 14 #[iv p0, iv (3 : Int32)] [(.ref w_I32)] _
   refine XS.iloadN X11.here hx rfl (hb hby at_14) rfl ?_
   show AT p e below T11 m 15 #[iv p0, iv (3 : Int32)] [(.int (3 : Int32)), (.ref w_I32)] _
   refine st12 _ ?_
   show AT p e below T12 m 18 #[iv p0, iv (3 : Int32)] [(.ref w_I32), (.ref w_I32)] _
   refine Jvm.RoadKit.acmp (g := (mkF m 18 #[iv p0, iv (3 : Int32)] [(.ref w_I32), (.ref w_I32)])) X12 hx rfl rfl rfl (pc0 := 18) (pc' := 21) (same := true) rfl (hb hby at_18) rfl (decide_eq_true rfl) (by decide) (by decide) ?_
   show AT p e below T12 m 21 #[iv p0, iv (3 : Int32)] [] _
   refine XS.iconst X12.here hx rfl (hb hby at_21) ?_
   show AT p e below T12 m 22 #[iv p0, iv (3 : Int32)] [(.int (1 : Int32))] _
   refine XS.goto X12.here hx rfl (pc0 := 22) (pc' := 26) rfl (hb hby at_22) (by decide) (by decide) ?_
   show AT p e below T12 m 26 #[iv p0, iv (3 : Int32)] [(.int (1 : Int32))] _
   exact retN X12 hx (t := .boolean) Bd.returns (by simp) (hb hby at_26) hr
  ·
   show Q0 Z p0 w_TYPES w_I16 w_DOUBLE w_I64 w_BINARY w_SET w_I8 w_STRUCT w_BOOL w_LIST w_MAP w_UUID w_I32 k_TYPES h0 n0 _ T12.heap _
   rw [e12]
   exact ⟨rfl, N12⟩
 ·
  obtain ⟨_, _, ⟨T13, L13, k13, n13⟩, -, X13, ⟨Lc13, hQ13, l13, y13, z13⟩, st13⟩ := Jvm.LawKit.callS X0 hx (y := y1) hown (mvT hZ (ow hw 1 rfl)) (mvT hZ (ow hw 2 rfl)) (mvT hZ (ow hw 3 rfl)) (mvT hZ (ow hw 4 rfl)) (by decide) (backOf (W := 0) (rm1_5 l Z ar hw [] w_TYPES w_I16 w_DOUBLE w_I64 w_BINARY w_SET w_I8 w_STRUCT w_BOOL w_LIST w_MAP w_UUID w_I32 k_TYPES h0 n0 O0 HW) hZ (ow hw 4 rfl) (ow hw 3 rfl) (by decide) (by decide)) (g := (mkF m 11 #[iv p0, iv (4 : Int32)] [(.int (4 : Int32))])) rfl (by rw [hml]; rfl) (argsL := [(.int (4 : Int32))]) (rest := []) (lenOf pd_0 rfl) rfl (by show 2 * 0 + _ ≤ _; exact Nat.le_of_eq rfl) (hb hby at_11) (fun _ _ => ⟨rfl, e0, (by decide : 0 + 0 ≤ _), (by decide : 0 + 0 ≤ _)⟩)
  dsimp only [Pt.U, Pt.locs, Pt.cells, Pt.slots] at X13 l13 y13 z13 st13 hQ13
  subst l13 y13 z13
  obtain ⟨rfl, N13q, e13⟩ := hQ13
  have N13 := Fr.app N0 N13q
  have r13 : (f1_5 w_I64) = w_I64 := by rw [f1_5] <;> decide
  rw [r13] at st13
  obtain ⟨_, _, ⟨T14, L14, k14, n14⟩, -, X14, ⟨Lc14, hQ14, l14, y14, z14⟩, st14⟩ := Jvm.LawKit.callS X13 hx (y := y2) hown (mvT hZ (ow hw 5 rfl)) (mvT hZ (ow hw 6 rfl)) (mvT hZ (ow hw 7 rfl)) (mvT hZ (ow hw 8 rfl)) (by decide) (backOf (W := 1) (rm2 l Z ar hw [] (4 : Int32) w_TYPES w_I16 w_DOUBLE w_I64 w_BINARY w_SET w_I8 w_STRUCT w_BOOL w_LIST w_MAP w_UUID w_I32 k_TYPES h0 n0 O0 HW) hZ (ow hw 8 rfl) (ow hw 7 rfl) (by decide) (by decide)) (g := (mkF m 15 #[iv p0, iv (4 : Int32)] [(.int (4 : Int32)), (.ref w_I64)])) rfl (by rw [hml]; rfl) (argsL := [(.int (4 : Int32))]) (rest := [(.ref w_I64)]) (lenOf pd_0 rfl) rfl (by show 2 * 0 + _ ≤ _; exact Nat.le_of_eq rfl) (hb hby at_15) (fun _ _ => ⟨rfl, e13, (by decide : 0 + 0 ≤ _), (by decide : 0 + 0 ≤ _)⟩)
  dsimp only [Pt.U, Pt.locs, Pt.cells, Pt.slots] at X14 l14 y14 z14 st14 hQ14
  subst l14 y14 z14
  obtain ⟨rfl, N14q, e14⟩ := hQ14
  have N14 := Fr.app N13 N14q
  have r14 : (f2 (4 : Int32) w_I16 w_DOUBLE w_I64 w_BINARY w_SET w_I8 w_STRUCT w_BOOL w_LIST w_MAP w_UUID w_I32) = (.ref w_I64) := by rw [f2, if_neg ((by decide) : ¬ ((4 : Int32) = (-1 : Int32))), if_neg ((by decide) : ¬ ((4 : Int32) = (0 : Int32))), if_neg ((by decide) : ¬ ((4 : Int32) = (1 : Int32))), if_neg ((by decide) : ¬ ((4 : Int32) = (2 : Int32))), if_neg ((by decide) : ¬ ((4 : Int32) = (3 : Int32))), if_pos ((by decide) : (4 : Int32) = (4 : Int32))] <;> decide
  rw [r14] at st14
  obtain ⟨fs, hr, hrun, hended, hW, hsame⟩ := X14.leave (v := some (.int (1 : Int32))) (fun h => by rw [Bd.returns] at h; cases h)
  subst hS0
  refine ⟨_, _, pre2 _ ?_, hrun, hended, _, _, rfl, ?_, ⟨_, rfl⟩, hW, hsame.mono (by decide) (by decide)⟩
  ·
   refine XS.iloadN X0.here hx rfl (hb hby at_10) rfl ?_
   show AT p e below s₁ m 11 #[iv p0, iv (4 : Int32)] [(.int (4 : Int32))] _
   refine st13 _ ?_
   show AT p e below T13 m 14 #[iv p0, iv (4 : Int32)] [(.ref w_I64)] _
   refine XS.iloadN X13.here hx rfl (hb hby at_14) rfl ?_
   show AT p e below T13 m 15 #[iv p0, iv (4 : Int32)] [(.int (4 : Int32)), (.ref w_I64)] _
   refine st14 _ ?_
   show AT p e below T14 m 18 #[iv p0, iv (4 : Int32)] [(.ref w_I64), (.ref w_I64)] _
   refine Jvm.RoadKit.acmp (g := (mkF m 18 #[iv p0, iv (4 : Int32)] [(.ref w_I64), (.ref w_I64)])) X14 hx rfl rfl rfl (pc0 := 18) (pc' := 21) (same := true) rfl (hb hby at_18) rfl (decide_eq_true rfl) (by decide) (by decide) ?_
   show AT p e below T14 m 21 #[iv p0, iv (4 : Int32)] [] _
   refine XS.iconst X14.here hx rfl (hb hby at_21) ?_
   show AT p e below T14 m 22 #[iv p0, iv (4 : Int32)] [(.int (1 : Int32))] _
   refine XS.goto X14.here hx rfl (pc0 := 22) (pc' := 26) rfl (hb hby at_22) (by decide) (by decide) ?_
   show AT p e below T14 m 26 #[iv p0, iv (4 : Int32)] [(.int (1 : Int32))] _
   exact retN X14 hx (t := .boolean) Bd.returns (by simp) (hb hby at_26) hr
  ·
   show Q0 Z p0 w_TYPES w_I16 w_DOUBLE w_I64 w_BINARY w_SET w_I8 w_STRUCT w_BOOL w_LIST w_MAP w_UUID w_I32 k_TYPES h0 n0 _ T14.heap _
   rw [e14]
   exact ⟨rfl, N14⟩
 ·
  obtain ⟨_, _, ⟨T15, L15, k15, n15⟩, -, X15, ⟨Lc15, hQ15, l15, y15, z15⟩, st15⟩ := Jvm.LawKit.callS X0 hx (y := y1) hown (mvT hZ (ow hw 1 rfl)) (mvT hZ (ow hw 2 rfl)) (mvT hZ (ow hw 3 rfl)) (mvT hZ (ow hw 4 rfl)) (by decide) (backOf (W := 0) (rm1_6 l Z ar hw [] w_TYPES w_I16 w_DOUBLE w_I64 w_BINARY w_SET w_I8 w_STRUCT w_BOOL w_LIST w_MAP w_UUID w_I32 k_TYPES h0 n0 O0 HW) hZ (ow hw 4 rfl) (ow hw 3 rfl) (by decide) (by decide)) (g := (mkF m 11 #[iv p0, iv (5 : Int32)] [(.int (5 : Int32))])) rfl (by rw [hml]; rfl) (argsL := [(.int (5 : Int32))]) (rest := []) (lenOf pd_0 rfl) rfl (by show 2 * 0 + _ ≤ _; exact Nat.le_of_eq rfl) (hb hby at_11) (fun _ _ => ⟨rfl, e0, (by decide : 0 + 0 ≤ _), (by decide : 0 + 0 ≤ _)⟩)
  dsimp only [Pt.U, Pt.locs, Pt.cells, Pt.slots] at X15 l15 y15 z15 st15 hQ15
  subst l15 y15 z15
  obtain ⟨rfl, N15q, e15⟩ := hQ15
  have N15 := Fr.app N0 N15q
  have r15 : (f1_6 w_DOUBLE) = w_DOUBLE := by rw [f1_6] <;> decide
  rw [r15] at st15
  obtain ⟨_, _, ⟨T16, L16, k16, n16⟩, -, X16, ⟨Lc16, hQ16, l16, y16, z16⟩, st16⟩ := Jvm.LawKit.callS X15 hx (y := y2) hown (mvT hZ (ow hw 5 rfl)) (mvT hZ (ow hw 6 rfl)) (mvT hZ (ow hw 7 rfl)) (mvT hZ (ow hw 8 rfl)) (by decide) (backOf (W := 1) (rm2 l Z ar hw [] (5 : Int32) w_TYPES w_I16 w_DOUBLE w_I64 w_BINARY w_SET w_I8 w_STRUCT w_BOOL w_LIST w_MAP w_UUID w_I32 k_TYPES h0 n0 O0 HW) hZ (ow hw 8 rfl) (ow hw 7 rfl) (by decide) (by decide)) (g := (mkF m 15 #[iv p0, iv (5 : Int32)] [(.int (5 : Int32)), (.ref w_DOUBLE)])) rfl (by rw [hml]; rfl) (argsL := [(.int (5 : Int32))]) (rest := [(.ref w_DOUBLE)]) (lenOf pd_0 rfl) rfl (by show 2 * 0 + _ ≤ _; exact Nat.le_of_eq rfl) (hb hby at_15) (fun _ _ => ⟨rfl, e15, (by decide : 0 + 0 ≤ _), (by decide : 0 + 0 ≤ _)⟩)
  dsimp only [Pt.U, Pt.locs, Pt.cells, Pt.slots] at X16 l16 y16 z16 st16 hQ16
  subst l16 y16 z16
  obtain ⟨rfl, N16q, e16⟩ := hQ16
  have N16 := Fr.app N15 N16q
  have r16 : (f2 (5 : Int32) w_I16 w_DOUBLE w_I64 w_BINARY w_SET w_I8 w_STRUCT w_BOOL w_LIST w_MAP w_UUID w_I32) = (.ref w_DOUBLE) := by rw [f2, if_neg ((by decide) : ¬ ((5 : Int32) = (-1 : Int32))), if_neg ((by decide) : ¬ ((5 : Int32) = (0 : Int32))), if_neg ((by decide) : ¬ ((5 : Int32) = (1 : Int32))), if_neg ((by decide) : ¬ ((5 : Int32) = (2 : Int32))), if_neg ((by decide) : ¬ ((5 : Int32) = (3 : Int32))), if_neg ((by decide) : ¬ ((5 : Int32) = (4 : Int32))), if_pos ((by decide) : (5 : Int32) = (5 : Int32))] <;> decide
  rw [r16] at st16
  obtain ⟨fs, hr, hrun, hended, hW, hsame⟩ := X16.leave (v := some (.int (1 : Int32))) (fun h => by rw [Bd.returns] at h; cases h)
  subst hS0
  refine ⟨_, _, pre2 _ ?_, hrun, hended, _, _, rfl, ?_, ⟨_, rfl⟩, hW, hsame.mono (by decide) (by decide)⟩
  ·
   refine XS.iloadN X0.here hx rfl (hb hby at_10) rfl ?_
   show AT p e below s₁ m 11 #[iv p0, iv (5 : Int32)] [(.int (5 : Int32))] _
   refine st15 _ ?_
   show AT p e below T15 m 14 #[iv p0, iv (5 : Int32)] [(.ref w_DOUBLE)] _
   refine XS.iloadN X15.here hx rfl (hb hby at_14) rfl ?_
   show AT p e below T15 m 15 #[iv p0, iv (5 : Int32)] [(.int (5 : Int32)), (.ref w_DOUBLE)] _
   refine st16 _ ?_
   show AT p e below T16 m 18 #[iv p0, iv (5 : Int32)] [(.ref w_DOUBLE), (.ref w_DOUBLE)] _
   refine Jvm.RoadKit.acmp (g := (mkF m 18 #[iv p0, iv (5 : Int32)] [(.ref w_DOUBLE), (.ref w_DOUBLE)])) X16 hx rfl rfl rfl (pc0 := 18) (pc' := 21) (same := true) rfl (hb hby at_18) rfl (decide_eq_true rfl) (by decide) (by decide) ?_
   show AT p e below T16 m 21 #[iv p0, iv (5 : Int32)] [] _
   refine XS.iconst X16.here hx rfl (hb hby at_21) ?_
   show AT p e below T16 m 22 #[iv p0, iv (5 : Int32)] [(.int (1 : Int32))] _
   refine XS.goto X16.here hx rfl (pc0 := 22) (pc' := 26) rfl (hb hby at_22) (by decide) (by decide) ?_
   show AT p e below T16 m 26 #[iv p0, iv (5 : Int32)] [(.int (1 : Int32))] _
   exact retN X16 hx (t := .boolean) Bd.returns (by simp) (hb hby at_26) hr
  ·
   show Q0 Z p0 w_TYPES w_I16 w_DOUBLE w_I64 w_BINARY w_SET w_I8 w_STRUCT w_BOOL w_LIST w_MAP w_UUID w_I32 k_TYPES h0 n0 _ T16.heap _
   rw [e16]
   exact ⟨rfl, N16⟩
 ·
  obtain ⟨_, _, ⟨T17, L17, k17, n17⟩, -, X17, ⟨Lc17, hQ17, l17, y17, z17⟩, st17⟩ := Jvm.LawKit.callS X0 hx (y := y1) hown (mvT hZ (ow hw 1 rfl)) (mvT hZ (ow hw 2 rfl)) (mvT hZ (ow hw 3 rfl)) (mvT hZ (ow hw 4 rfl)) (by decide) (backOf (W := 0) (rm1_7 l Z ar hw [] w_TYPES w_I16 w_DOUBLE w_I64 w_BINARY w_SET w_I8 w_STRUCT w_BOOL w_LIST w_MAP w_UUID w_I32 k_TYPES h0 n0 O0 HW) hZ (ow hw 4 rfl) (ow hw 3 rfl) (by decide) (by decide)) (g := (mkF m 11 #[iv p0, iv (6 : Int32)] [(.int (6 : Int32))])) rfl (by rw [hml]; rfl) (argsL := [(.int (6 : Int32))]) (rest := []) (lenOf pd_0 rfl) rfl (by show 2 * 0 + _ ≤ _; exact Nat.le_of_eq rfl) (hb hby at_11) (fun _ _ => ⟨rfl, e0, (by decide : 0 + 0 ≤ _), (by decide : 0 + 0 ≤ _)⟩)
  dsimp only [Pt.U, Pt.locs, Pt.cells, Pt.slots] at X17 l17 y17 z17 st17 hQ17
  subst l17 y17 z17
  obtain ⟨rfl, N17q, e17⟩ := hQ17
  have N17 := Fr.app N0 N17q
  have r17 : (f1_7 w_BINARY) = w_BINARY := by rw [f1_7] <;> decide
  rw [r17] at st17
  obtain ⟨_, _, ⟨T18, L18, k18, n18⟩, -, X18, ⟨Lc18, hQ18, l18, y18, z18⟩, st18⟩ := Jvm.LawKit.callS X17 hx (y := y2) hown (mvT hZ (ow hw 5 rfl)) (mvT hZ (ow hw 6 rfl)) (mvT hZ (ow hw 7 rfl)) (mvT hZ (ow hw 8 rfl)) (by decide) (backOf (W := 1) (rm2 l Z ar hw [] (6 : Int32) w_TYPES w_I16 w_DOUBLE w_I64 w_BINARY w_SET w_I8 w_STRUCT w_BOOL w_LIST w_MAP w_UUID w_I32 k_TYPES h0 n0 O0 HW) hZ (ow hw 8 rfl) (ow hw 7 rfl) (by decide) (by decide)) (g := (mkF m 15 #[iv p0, iv (6 : Int32)] [(.int (6 : Int32)), (.ref w_BINARY)])) rfl (by rw [hml]; rfl) (argsL := [(.int (6 : Int32))]) (rest := [(.ref w_BINARY)]) (lenOf pd_0 rfl) rfl (by show 2 * 0 + _ ≤ _; exact Nat.le_of_eq rfl) (hb hby at_15) (fun _ _ => ⟨rfl, e17, (by decide : 0 + 0 ≤ _), (by decide : 0 + 0 ≤ _)⟩)
  dsimp only [Pt.U, Pt.locs, Pt.cells, Pt.slots] at X18 l18 y18 z18 st18 hQ18
  subst l18 y18 z18
  obtain ⟨rfl, N18q, e18⟩ := hQ18
  have N18 := Fr.app N17 N18q
  have r18 : (f2 (6 : Int32) w_I16 w_DOUBLE w_I64 w_BINARY w_SET w_I8 w_STRUCT w_BOOL w_LIST w_MAP w_UUID w_I32) = (.ref w_BINARY) := by rw [f2, if_neg ((by decide) : ¬ ((6 : Int32) = (-1 : Int32))), if_neg ((by decide) : ¬ ((6 : Int32) = (0 : Int32))), if_neg ((by decide) : ¬ ((6 : Int32) = (1 : Int32))), if_neg ((by decide) : ¬ ((6 : Int32) = (2 : Int32))), if_neg ((by decide) : ¬ ((6 : Int32) = (3 : Int32))), if_neg ((by decide) : ¬ ((6 : Int32) = (4 : Int32))), if_neg ((by decide) : ¬ ((6 : Int32) = (5 : Int32))), if_pos ((by decide) : (6 : Int32) = (6 : Int32))] <;> decide
  rw [r18] at st18
  obtain ⟨fs, hr, hrun, hended, hW, hsame⟩ := X18.leave (v := some (.int (1 : Int32))) (fun h => by rw [Bd.returns] at h; cases h)
  subst hS0
  refine ⟨_, _, pre2 _ ?_, hrun, hended, _, _, rfl, ?_, ⟨_, rfl⟩, hW, hsame.mono (by decide) (by decide)⟩
  ·
   refine XS.iloadN X0.here hx rfl (hb hby at_10) rfl ?_
   show AT p e below s₁ m 11 #[iv p0, iv (6 : Int32)] [(.int (6 : Int32))] _
   refine st17 _ ?_
   show AT p e below T17 m 14 #[iv p0, iv (6 : Int32)] [(.ref w_BINARY)] _
   refine XS.iloadN X17.here hx rfl (hb hby at_14) rfl ?_
   show AT p e below T17 m 15 #[iv p0, iv (6 : Int32)] [(.int (6 : Int32)), (.ref w_BINARY)] _
   refine st18 _ ?_
   show AT p e below T18 m 18 #[iv p0, iv (6 : Int32)] [(.ref w_BINARY), (.ref w_BINARY)] _
   refine Jvm.RoadKit.acmp (g := (mkF m 18 #[iv p0, iv (6 : Int32)] [(.ref w_BINARY), (.ref w_BINARY)])) X18 hx rfl rfl rfl (pc0 := 18) (pc' := 21) (same := true) rfl (hb hby at_18) rfl (decide_eq_true rfl) (by decide) (by decide) ?_
   show AT p e below T18 m 21 #[iv p0, iv (6 : Int32)] [] _
   refine XS.iconst X18.here hx rfl (hb hby at_21) ?_
   show AT p e below T18 m 22 #[iv p0, iv (6 : Int32)] [(.int (1 : Int32))] _
   refine XS.goto X18.here hx rfl (pc0 := 22) (pc' := 26) rfl (hb hby at_22) (by decide) (by decide) ?_
   show AT p e below T18 m 26 #[iv p0, iv (6 : Int32)] [(.int (1 : Int32))] _
   exact retN X18 hx (t := .boolean) Bd.returns (by simp) (hb hby at_26) hr
  ·
   show Q0 Z p0 w_TYPES w_I16 w_DOUBLE w_I64 w_BINARY w_SET w_I8 w_STRUCT w_BOOL w_LIST w_MAP w_UUID w_I32 k_TYPES h0 n0 _ T18.heap _
   rw [e18]
   exact ⟨rfl, N18⟩
 ·
  obtain ⟨_, _, ⟨T19, L19, k19, n19⟩, -, X19, ⟨Lc19, hQ19, l19, y19, z19⟩, st19⟩ := Jvm.LawKit.callS X0 hx (y := y1) hown (mvT hZ (ow hw 1 rfl)) (mvT hZ (ow hw 2 rfl)) (mvT hZ (ow hw 3 rfl)) (mvT hZ (ow hw 4 rfl)) (by decide) (backOf (W := 0) (rm1_8 l Z ar hw [] w_TYPES w_I16 w_DOUBLE w_I64 w_BINARY w_SET w_I8 w_STRUCT w_BOOL w_LIST w_MAP w_UUID w_I32 k_TYPES h0 n0 O0 HW) hZ (ow hw 4 rfl) (ow hw 3 rfl) (by decide) (by decide)) (g := (mkF m 11 #[iv p0, iv (7 : Int32)] [(.int (7 : Int32))])) rfl (by rw [hml]; rfl) (argsL := [(.int (7 : Int32))]) (rest := []) (lenOf pd_0 rfl) rfl (by show 2 * 0 + _ ≤ _; exact Nat.le_of_eq rfl) (hb hby at_11) (fun _ _ => ⟨rfl, e0, (by decide : 0 + 0 ≤ _), (by decide : 0 + 0 ≤ _)⟩)
  dsimp only [Pt.U, Pt.locs, Pt.cells, Pt.slots] at X19 l19 y19 z19 st19 hQ19
  subst l19 y19 z19
  obtain ⟨rfl, N19q, e19⟩ := hQ19
  have N19 := Fr.app N0 N19q
  have r19 : (f1_8 w_LIST) = w_LIST := by rw [f1_8] <;> decide
  rw [r19] at st19
  obtain ⟨_, _, ⟨T20, L20, k20, n20⟩, -, X20, ⟨Lc20, hQ20, l20, y20, z20⟩, st20⟩ := Jvm.LawKit.callS X19 hx (y := y2) hown (mvT hZ (ow hw 5 rfl)) (mvT hZ (ow hw 6 rfl)) (mvT hZ (ow hw 7 rfl)) (mvT hZ (ow hw 8 rfl)) (by decide) (backOf (W := 1) (rm2 l Z ar hw [] (7 : Int32) w_TYPES w_I16 w_DOUBLE w_I64 w_BINARY w_SET w_I8 w_STRUCT w_BOOL w_LIST w_MAP w_UUID w_I32 k_TYPES h0 n0 O0 HW) hZ (ow hw 8 rfl) (ow hw 7 rfl) (by decide) (by decide)) (g := (mkF m 15 #[iv p0, iv (7 : Int32)] [(.int (7 : Int32)), (.ref w_LIST)])) rfl (by rw [hml]; rfl) (argsL := [(.int (7 : Int32))]) (rest := [(.ref w_LIST)]) (lenOf pd_0 rfl) rfl (by show 2 * 0 + _ ≤ _; exact Nat.le_of_eq rfl) (hb hby at_15) (fun _ _ => ⟨rfl, e19, (by decide : 0 + 0 ≤ _), (by decide : 0 + 0 ≤ _)⟩)
  dsimp only [Pt.U, Pt.locs, Pt.cells, Pt.slots] at X20 l20 y20 z20 st20 hQ20
  subst l20 y20 z20
  obtain ⟨rfl, N20q, e20⟩ := hQ20
  have N20 := Fr.app N19 N20q
  have r20 : (f2 (7 : Int32) w_I16 w_DOUBLE w_I64 w_BINARY w_SET w_I8 w_STRUCT w_BOOL w_LIST w_MAP w_UUID w_I32) = (.ref w_LIST) := by rw [f2, if_neg ((by decide) : ¬ ((7 : Int32) = (-1 : Int32))), if_neg ((by decide) : ¬ ((7 : Int32) = (0 : Int32))), if_neg ((by decide) : ¬ ((7 : Int32) = (1 : Int32))), if_neg ((by decide) : ¬ ((7 : Int32) = (2 : Int32))), if_neg ((by decide) : ¬ ((7 : Int32) = (3 : Int32))), if_neg ((by decide) : ¬ ((7 : Int32) = (4 : Int32))), if_neg ((by decide) : ¬ ((7 : Int32) = (5 : Int32))), if_neg ((by decide) : ¬ ((7 : Int32) = (6 : Int32))), if_pos ((by decide) : (7 : Int32) = (7 : Int32))] <;> decide
  rw [r20] at st20
  obtain ⟨fs, hr, hrun, hended, hW, hsame⟩ := X20.leave (v := some (.int (1 : Int32))) (fun h => by rw [Bd.returns] at h; cases h)
  subst hS0
  refine ⟨_, _, pre2 _ ?_, hrun, hended, _, _, rfl, ?_, ⟨_, rfl⟩, hW, hsame.mono (by decide) (by decide)⟩
  ·
   refine XS.iloadN X0.here hx rfl (hb hby at_10) rfl ?_
   show AT p e below s₁ m 11 #[iv p0, iv (7 : Int32)] [(.int (7 : Int32))] _
   refine st19 _ ?_
   show AT p e below T19 m 14 #[iv p0, iv (7 : Int32)] [(.ref w_LIST)] _
   refine XS.iloadN X19.here hx rfl (hb hby at_14) rfl ?_
   show AT p e below T19 m 15 #[iv p0, iv (7 : Int32)] [(.int (7 : Int32)), (.ref w_LIST)] _
   refine st20 _ ?_
   show AT p e below T20 m 18 #[iv p0, iv (7 : Int32)] [(.ref w_LIST), (.ref w_LIST)] _
   refine Jvm.RoadKit.acmp (g := (mkF m 18 #[iv p0, iv (7 : Int32)] [(.ref w_LIST), (.ref w_LIST)])) X20 hx rfl rfl rfl (pc0 := 18) (pc' := 21) (same := true) rfl (hb hby at_18) rfl (decide_eq_true rfl) (by decide) (by decide) ?_
   show AT p e below T20 m 21 #[iv p0, iv (7 : Int32)] [] _
   refine XS.iconst X20.here hx rfl (hb hby at_21) ?_
   show AT p e below T20 m 22 #[iv p0, iv (7 : Int32)] [(.int (1 : Int32))] _
   refine XS.goto X20.here hx rfl (pc0 := 22) (pc' := 26) rfl (hb hby at_22) (by decide) (by decide) ?_
   show AT p e below T20 m 26 #[iv p0, iv (7 : Int32)] [(.int (1 : Int32))] _
   exact retN X20 hx (t := .boolean) Bd.returns (by simp) (hb hby at_26) hr
  ·
   show Q0 Z p0 w_TYPES w_I16 w_DOUBLE w_I64 w_BINARY w_SET w_I8 w_STRUCT w_BOOL w_LIST w_MAP w_UUID w_I32 k_TYPES h0 n0 _ T20.heap _
   rw [e20]
   exact ⟨rfl, N20⟩
 ·
  obtain ⟨_, _, ⟨T21, L21, k21, n21⟩, -, X21, ⟨Lc21, hQ21, l21, y21, z21⟩, st21⟩ := Jvm.LawKit.callS X0 hx (y := y1) hown (mvT hZ (ow hw 1 rfl)) (mvT hZ (ow hw 2 rfl)) (mvT hZ (ow hw 3 rfl)) (mvT hZ (ow hw 4 rfl)) (by decide) (backOf (W := 0) (rm1_9 l Z ar hw [] w_TYPES w_I16 w_DOUBLE w_I64 w_BINARY w_SET w_I8 w_STRUCT w_BOOL w_LIST w_MAP w_UUID w_I32 k_TYPES h0 n0 O0 HW) hZ (ow hw 4 rfl) (ow hw 3 rfl) (by decide) (by decide)) (g := (mkF m 11 #[iv p0, iv (8 : Int32)] [(.int (8 : Int32))])) rfl (by rw [hml]; rfl) (argsL := [(.int (8 : Int32))]) (rest := []) (lenOf pd_0 rfl) rfl (by show 2 * 0 + _ ≤ _; exact Nat.le_of_eq rfl) (hb hby at_11) (fun _ _ => ⟨rfl, e0, (by decide : 0 + 0 ≤ _), (by decide : 0 + 0 ≤ _)⟩)
  dsimp only [Pt.U, Pt.locs, Pt.cells, Pt.slots] at X21 l21 y21 z21 st21 hQ21
  subst l21 y21 z21
  obtain ⟨rfl, N21q, e21⟩ := hQ21
  have N21 := Fr.app N0 N21q
  have r21 : (f1_9 w_SET) = w_SET := by rw [f1_9] <;> decide
  rw [r21] at st21
  obtain ⟨_, _, ⟨T22, L22, k22, n22⟩, -, X22, ⟨Lc22, hQ22, l22, y22, z22⟩, st22⟩ := Jvm.LawKit.callS X21 hx (y := y2) hown (mvT hZ (ow hw 5 rfl)) (mvT hZ (ow hw 6 rfl)) (mvT hZ (ow hw 7 rfl)) (mvT hZ (ow hw 8 rfl)) (by decide) (backOf (W := 1) (rm2 l Z ar hw [] (8 : Int32) w_TYPES w_I16 w_DOUBLE w_I64 w_BINARY w_SET w_I8 w_STRUCT w_BOOL w_LIST w_MAP w_UUID w_I32 k_TYPES h0 n0 O0 HW) hZ (ow hw 8 rfl) (ow hw 7 rfl) (by decide) (by decide)) (g := (mkF m 15 #[iv p0, iv (8 : Int32)] [(.int (8 : Int32)), (.ref w_SET)])) rfl (by rw [hml]; rfl) (argsL := [(.int (8 : Int32))]) (rest := [(.ref w_SET)]) (lenOf pd_0 rfl) rfl (by show 2 * 0 + _ ≤ _; exact Nat.le_of_eq rfl) (hb hby at_15) (fun _ _ => ⟨rfl, e21, (by decide : 0 + 0 ≤ _), (by decide : 0 + 0 ≤ _)⟩)
  dsimp only [Pt.U, Pt.locs, Pt.cells, Pt.slots] at X22 l22 y22 z22 st22 hQ22
  subst l22 y22 z22
  obtain ⟨rfl, N22q, e22⟩ := hQ22
  have N22 := Fr.app N21 N22q
  have r22 : (f2 (8 : Int32) w_I16 w_DOUBLE w_I64 w_BINARY w_SET w_I8 w_STRUCT w_BOOL w_LIST w_MAP w_UUID w_I32) = (.ref w_SET) := by rw [f2, if_neg ((by decide) : ¬ ((8 : Int32) = (-1 : Int32))), if_neg ((by decide) : ¬ ((8 : Int32) = (0 : Int32))), if_neg ((by decide) : ¬ ((8 : Int32) = (1 : Int32))), if_neg ((by decide) : ¬ ((8 : Int32) = (2 : Int32))), if_neg ((by decide) : ¬ ((8 : Int32) = (3 : Int32))), if_neg ((by decide) : ¬ ((8 : Int32) = (4 : Int32))), if_neg ((by decide) : ¬ ((8 : Int32) = (5 : Int32))), if_neg ((by decide) : ¬ ((8 : Int32) = (6 : Int32))), if_neg ((by decide) : ¬ ((8 : Int32) = (7 : Int32))), if_pos ((by decide) : (8 : Int32) = (8 : Int32))] <;> decide
  rw [r22] at st22
  obtain ⟨fs, hr, hrun, hended, hW, hsame⟩ := X22.leave (v := some (.int (1 : Int32))) (fun h => by rw [Bd.returns] at h; cases h)
  subst hS0
  refine ⟨_, _, pre2 _ ?_, hrun, hended, _, _, rfl, ?_, ⟨_, rfl⟩, hW, hsame.mono (by decide) (by decide)⟩
  ·
   refine XS.iloadN X0.here hx rfl (hb hby at_10) rfl ?_
   show AT p e below s₁ m 11 #[iv p0, iv (8 : Int32)] [(.int (8 : Int32))] _
   refine st21 _ ?_
   show AT p e below T21 m 14 #[iv p0, iv (8 : Int32)] [(.ref w_SET)] _
   refine XS.iloadN X21.here hx rfl (hb hby at_14) rfl ?_
   show AT p e below T21 m 15 #[iv p0, iv (8 : Int32)] [(.int (8 : Int32)), (.ref w_SET)] _
   refine st22 _ ?_
   show AT p e below T22 m 18 #[iv p0, iv (8 : Int32)] [(.ref w_SET), (.ref w_SET)] _
   refine Jvm.RoadKit.acmp (g := (mkF m 18 #[iv p0, iv (8 : Int32)] [(.ref w_SET), (.ref w_SET)])) X22 hx rfl rfl rfl (pc0 := 18) (pc' := 21) (same := true) rfl (hb hby at_18) rfl (decide_eq_true rfl) (by decide) (by decide) ?_
   show AT p e below T22 m 21 #[iv p0, iv (8 : Int32)] [] _
   refine XS.iconst X22.here hx rfl (hb hby at_21) ?_
   show AT p e below T22 m 22 #[iv p0, iv (8 : Int32)] [(.int (1 : Int32))] _
   refine XS.goto X22.here hx rfl (pc0 := 22) (pc' := 26) rfl (hb hby at_22) (by decide) (by decide) ?_
   show AT p e below T22 m 26 #[iv p0, iv (8 : Int32)] [(.int (1 : Int32))] _
   exact retN X22 hx (t := .boolean) Bd.returns (by simp) (hb hby at_26) hr
  ·
   show Q0 Z p0 w_TYPES w_I16 w_DOUBLE w_I64 w_BINARY w_SET w_I8 w_STRUCT w_BOOL w_LIST w_MAP w_UUID w_I32 k_TYPES h0 n0 _ T22.heap _
   rw [e22]
   exact ⟨rfl, N22⟩
 ·
  obtain ⟨_, _, ⟨T23, L23, k23, n23⟩, -, X23, ⟨Lc23, hQ23, l23, y23, z23⟩, st23⟩ := Jvm.LawKit.callS X0 hx (y := y1) hown (mvT hZ (ow hw 1 rfl)) (mvT hZ (ow hw 2 rfl)) (mvT hZ (ow hw 3 rfl)) (mvT hZ (ow hw 4 rfl)) (by decide) (backOf (W := 0) (rm1_10 l Z ar hw [] w_TYPES w_I16 w_DOUBLE w_I64 w_BINARY w_SET w_I8 w_STRUCT w_BOOL w_LIST w_MAP w_UUID w_I32 k_TYPES h0 n0 O0 HW) hZ (ow hw 4 rfl) (ow hw 3 rfl) (by decide) (by decide)) (g := (mkF m 11 #[iv p0, iv (9 : Int32)] [(.int (9 : Int32))])) rfl (by rw [hml]; rfl) (argsL := [(.int (9 : Int32))]) (rest := []) (lenOf pd_0 rfl) rfl (by show 2 * 0 + _ ≤ _; exact Nat.le_of_eq rfl) (hb hby at_11) (fun _ _ => ⟨rfl, e0, (by decide : 0 + 0 ≤ _), (by decide : 0 + 0 ≤ _)⟩)
  dsimp only [Pt.U, Pt.locs, Pt.cells, Pt.slots] at X23 l23 y23 z23 st23 hQ23
  subst l23 y23 z23
  obtain ⟨rfl, N23q, e23⟩ := hQ23
  have N23 := Fr.app N0 N23q
  have r23 : (f1_10 w_MAP) = w_MAP := by rw [f1_10] <;> decide
  rw [r23] at st23
  obtain ⟨_, _, ⟨T24, L24, k24, n24⟩, -, X24, ⟨Lc24, hQ24, l24, y24, z24⟩, st24⟩ := Jvm.LawKit.callS X23 hx (y := y2) hown (mvT hZ (ow hw 5 rfl)) (mvT hZ (ow hw 6 rfl)) (mvT hZ (ow hw 7 rfl)) (mvT hZ (ow hw 8 rfl)) (by decide) (backOf (W := 1) (rm2 l Z ar hw [] (9 : Int32) w_TYPES w_I16 w_DOUBLE w_I64 w_BINARY w_SET w_I8 w_STRUCT w_BOOL w_LIST w_MAP w_UUID w_I32 k_TYPES h0 n0 O0 HW) hZ (ow hw 8 rfl) (ow hw 7 rfl) (by decide) (by decide)) (g := (mkF m 15 #[iv p0, iv (9 : Int32)] [(.int (9 : Int32)), (.ref w_MAP)])) rfl (by rw [hml]; rfl) (argsL := [(.int (9 : Int32))]) (rest := [(.ref w_MAP)]) (lenOf pd_0 rfl) rfl (by show 2 * 0 + _ ≤ _; exact Nat.le_of_eq rfl) (hb hby at_15) (fun _ _ => ⟨rfl, e23, (by decide : 0 + 0 ≤ _), (by decide : 0 + 0 ≤ _)⟩)
  dsimp only [Pt.U, Pt.locs, Pt.cells, Pt.slots] at X24 l24 y24 z24 st24 hQ24
  subst l24 y24 z24
  obtain ⟨rfl, N24q, e24⟩ := hQ24
  have N24 := Fr.app N23 N24q
  have r24 : (f2 (9 : Int32) w_I16 w_DOUBLE w_I64 w_BINARY w_SET w_I8 w_STRUCT w_BOOL w_LIST w_MAP w_UUID w_I32) = (.ref w_MAP) := by rw [f2, if_neg ((by decide) : ¬ ((9 : Int32) = (-1 : Int32))), if_neg ((by decide) : ¬ ((9 : Int32) = (0 : Int32))), if_neg ((by decide) : ¬ ((9 : Int32) = (1 : Int32))), if_neg ((by decide) : ¬ ((9 : Int32) = (2 : Int32))), if_neg ((by decide) : ¬ ((9 : Int32) = (3 : Int32))), if_neg ((by decide) : ¬ ((9 : Int32) = (4 : Int32))), if_neg ((by decide) : ¬ ((9 : Int32) = (5 : Int32))), if_neg ((by decide) : ¬ ((9 : Int32) = (6 : Int32))), if_neg ((by decide) : ¬ ((9 : Int32) = (7 : Int32))), if_neg ((by decide) : ¬ ((9 : Int32) = (8 : Int32))), if_pos ((by decide) : (9 : Int32) = (9 : Int32))] <;> decide
  rw [r24] at st24
  obtain ⟨fs, hr, hrun, hended, hW, hsame⟩ := X24.leave (v := some (.int (1 : Int32))) (fun h => by rw [Bd.returns] at h; cases h)
  subst hS0
  refine ⟨_, _, pre2 _ ?_, hrun, hended, _, _, rfl, ?_, ⟨_, rfl⟩, hW, hsame.mono (by decide) (by decide)⟩
  ·
   refine XS.iloadN X0.here hx rfl (hb hby at_10) rfl ?_
   show AT p e below s₁ m 11 #[iv p0, iv (9 : Int32)] [(.int (9 : Int32))] _
   refine st23 _ ?_
   show AT p e below T23 m 14 #[iv p0, iv (9 : Int32)] [(.ref w_MAP)] _
   refine XS.iloadN X23.here hx rfl (hb hby at_14) rfl ?_
   show AT p e below T23 m 15 #[iv p0, iv (9 : Int32)] [(.int (9 : Int32)), (.ref w_MAP)] _
   refine st24 _ ?_
   show AT p e below T24 m 18 #[iv p0, iv (9 : Int32)] [(.ref w_MAP), (.ref w_MAP)] _
   refine Jvm.RoadKit.acmp (g := (mkF m 18 #[iv p0, iv (9 : Int32)] [(.ref w_MAP), (.ref w_MAP)])) X24 hx rfl rfl rfl (pc0 := 18) (pc' := 21) (same := true) rfl (hb hby at_18) rfl (decide_eq_true rfl) (by decide) (by decide) ?_
   show AT p e below T24 m 21 #[iv p0, iv (9 : Int32)] [] _
   refine XS.iconst X24.here hx rfl (hb hby at_21) ?_
   show AT p e below T24 m 22 #[iv p0, iv (9 : Int32)] [(.int (1 : Int32))] _
   refine XS.goto X24.here hx rfl (pc0 := 22) (pc' := 26) rfl (hb hby at_22) (by decide) (by decide) ?_
   show AT p e below T24 m 26 #[iv p0, iv (9 : Int32)] [(.int (1 : Int32))] _
   exact retN X24 hx (t := .boolean) Bd.returns (by simp) (hb hby at_26) hr
  ·
   show Q0 Z p0 w_TYPES w_I16 w_DOUBLE w_I64 w_BINARY w_SET w_I8 w_STRUCT w_BOOL w_LIST w_MAP w_UUID w_I32 k_TYPES h0 n0 _ T24.heap _
   rw [e24]
   exact ⟨rfl, N24⟩
 ·
  obtain ⟨_, _, ⟨T25, L25, k25, n25⟩, -, X25, ⟨Lc25, hQ25, l25, y25, z25⟩, st25⟩ := Jvm.LawKit.callS X0 hx (y := y1) hown (mvT hZ (ow hw 1 rfl)) (mvT hZ (ow hw 2 rfl)) (mvT hZ (ow hw 3 rfl)) (mvT hZ (ow hw 4 rfl)) (by decide) (backOf (W := 0) (rm1_11 l Z ar hw [] w_TYPES w_I16 w_DOUBLE w_I64 w_BINARY w_SET w_I8 w_STRUCT w_BOOL w_LIST w_MAP w_UUID w_I32 k_TYPES h0 n0 O0 HW) hZ (ow hw 4 rfl) (ow hw 3 rfl) (by decide) (by decide)) (g := (mkF m 11 #[iv p0, iv (10 : Int32)] [(.int (10 : Int32))])) rfl (by rw [hml]; rfl) (argsL := [(.int (10 : Int32))]) (rest := []) (lenOf pd_0 rfl) rfl (by show 2 * 0 + _ ≤ _; exact Nat.le_of_eq rfl) (hb hby at_11) (fun _ _ => ⟨rfl, e0, (by decide : 0 + 0 ≤ _), (by decide : 0 + 0 ≤ _)⟩)
  dsimp only [Pt.U, Pt.locs, Pt.cells, Pt.slots] at X25 l25 y25 z25 st25 hQ25
  subst l25 y25 z25
  obtain ⟨rfl, N25q, e25⟩ := hQ25
  have N25 := Fr.app N0 N25q
  have r25 : (f1_11 w_STRUCT) = w_STRUCT := by rw [f1_11] <;> decide
  rw [r25] at st25
  obtain ⟨_, _, ⟨T26, L26, k26, n26⟩, -, X26, ⟨Lc26, hQ26, l26, y26, z26⟩, st26⟩ := Jvm.LawKit.callS X25 hx (y := y2) hown (mvT hZ (ow hw 5 rfl)) (mvT hZ (ow hw 6 rfl)) (mvT hZ (ow hw 7 rfl)) (mvT hZ (ow hw 8 rfl)) (by decide) (backOf (W := 1) (rm2 l Z ar hw [] (10 : Int32) w_TYPES w_I16 w_DOUBLE w_I64 w_BINARY w_SET w_I8 w_STRUCT w_BOOL w_LIST w_MAP w_UUID w_I32 k_TYPES h0 n0 O0 HW) hZ (ow hw 8 rfl) (ow hw 7 rfl) (by decide) (by decide)) (g := (mkF m 15 #[iv p0, iv (10 : Int32)] [(.int (10 : Int32)), (.ref w_STRUCT)])) rfl (by rw [hml]; rfl) (argsL := [(.int (10 : Int32))]) (rest := [(.ref w_STRUCT)]) (lenOf pd_0 rfl) rfl (by show 2 * 0 + _ ≤ _; exact Nat.le_of_eq rfl) (hb hby at_15) (fun _ _ => ⟨rfl, e25, (by decide : 0 + 0 ≤ _), (by decide : 0 + 0 ≤ _)⟩)
  dsimp only [Pt.U, Pt.locs, Pt.cells, Pt.slots] at X26 l26 y26 z26 st26 hQ26
  subst l26 y26 z26
  obtain ⟨rfl, N26q, e26⟩ := hQ26
  have N26 := Fr.app N25 N26q
  have r26 : (f2 (10 : Int32) w_I16 w_DOUBLE w_I64 w_BINARY w_SET w_I8 w_STRUCT w_BOOL w_LIST w_MAP w_UUID w_I32) = (.ref w_STRUCT) := by rw [f2, if_neg ((by decide) : ¬ ((10 : Int32) = (-1 : Int32))), if_neg ((by decide) : ¬ ((10 : Int32) = (0 : Int32))), if_neg ((by decide) : ¬ ((10 : Int32) = (1 : Int32))), if_neg ((by decide) : ¬ ((10 : Int32) = (2 : Int32))), if_neg ((by decide) : ¬ ((10 : Int32) = (3 : Int32))), if_neg ((by decide) : ¬ ((10 : Int32) = (4 : Int32))), if_neg ((by decide) : ¬ ((10 : Int32) = (5 : Int32))), if_neg ((by decide) : ¬ ((10 : Int32) = (6 : Int32))), if_neg ((by decide) : ¬ ((10 : Int32) = (7 : Int32))), if_neg ((by decide) : ¬ ((10 : Int32) = (8 : Int32))), if_neg ((by decide) : ¬ ((10 : Int32) = (9 : Int32))), if_pos ((by decide) : (10 : Int32) = (10 : Int32))] <;> decide
  rw [r26] at st26
  obtain ⟨fs, hr, hrun, hended, hW, hsame⟩ := X26.leave (v := some (.int (1 : Int32))) (fun h => by rw [Bd.returns] at h; cases h)
  subst hS0
  refine ⟨_, _, pre2 _ ?_, hrun, hended, _, _, rfl, ?_, ⟨_, rfl⟩, hW, hsame.mono (by decide) (by decide)⟩
  ·
   refine XS.iloadN X0.here hx rfl (hb hby at_10) rfl ?_
   show AT p e below s₁ m 11 #[iv p0, iv (10 : Int32)] [(.int (10 : Int32))] _
   refine st25 _ ?_
   show AT p e below T25 m 14 #[iv p0, iv (10 : Int32)] [(.ref w_STRUCT)] _
   refine XS.iloadN X25.here hx rfl (hb hby at_14) rfl ?_
   show AT p e below T25 m 15 #[iv p0, iv (10 : Int32)] [(.int (10 : Int32)), (.ref w_STRUCT)] _
   refine st26 _ ?_
   show AT p e below T26 m 18 #[iv p0, iv (10 : Int32)] [(.ref w_STRUCT), (.ref w_STRUCT)] _
   refine Jvm.RoadKit.acmp (g := (mkF m 18 #[iv p0, iv (10 : Int32)] [(.ref w_STRUCT), (.ref w_STRUCT)])) X26 hx rfl rfl rfl (pc0 := 18) (pc' := 21) (same := true) rfl (hb hby at_18) rfl (decide_eq_true rfl) (by decide) (by decide) ?_
   show AT p e below T26 m 21 #[iv p0, iv (10 : Int32)] [] _
   refine XS.iconst X26.here hx rfl (hb hby at_21) ?_
   show AT p e below T26 m 22 #[iv p0, iv (10 : Int32)] [(.int (1 : Int32))] _
   refine XS.goto X26.here hx rfl (pc0 := 22) (pc' := 26) rfl (hb hby at_22) (by decide) (by decide) ?_
   show AT p e below T26 m 26 #[iv p0, iv (10 : Int32)] [(.int (1 : Int32))] _
   exact retN X26 hx (t := .boolean) Bd.returns (by simp) (hb hby at_26) hr
  ·
   show Q0 Z p0 w_TYPES w_I16 w_DOUBLE w_I64 w_BINARY w_SET w_I8 w_STRUCT w_BOOL w_LIST w_MAP w_UUID w_I32 k_TYPES h0 n0 _ T26.heap _
   rw [e26]
   exact ⟨rfl, N26⟩
 ·
  obtain ⟨_, _, ⟨T27, L27, k27, n27⟩, -, X27, ⟨Lc27, hQ27, l27, y27, z27⟩, st27⟩ := Jvm.LawKit.callS X0 hx (y := y1) hown (mvT hZ (ow hw 1 rfl)) (mvT hZ (ow hw 2 rfl)) (mvT hZ (ow hw 3 rfl)) (mvT hZ (ow hw 4 rfl)) (by decide) (backOf (W := 0) (rm1_12 l Z ar hw [] w_TYPES w_I16 w_DOUBLE w_I64 w_BINARY w_SET w_I8 w_STRUCT w_BOOL w_LIST w_MAP w_UUID w_I32 k_TYPES h0 n0 O0 HW) hZ (ow hw 4 rfl) (ow hw 3 rfl) (by decide) (by decide)) (g := (mkF m 11 #[iv p0, iv (11 : Int32)] [(.int (11 : Int32))])) rfl (by rw [hml]; rfl) (argsL := [(.int (11 : Int32))]) (rest := []) (lenOf pd_0 rfl) rfl (by show 2 * 0 + _ ≤ _; exact Nat.le_of_eq rfl) (hb hby at_11) (fun _ _ => ⟨rfl, e0, (by decide : 0 + 0 ≤ _), (by decide : 0 + 0 ≤ _)⟩)
  dsimp only [Pt.U, Pt.locs, Pt.cells, Pt.slots] at X27 l27 y27 z27 st27 hQ27
  subst l27 y27 z27
  obtain ⟨rfl, N27q, e27⟩ := hQ27
  have N27 := Fr.app N0 N27q
  have r27 : (f1_12 w_UUID) = w_UUID := by rw [f1_12] <;> decide
  rw [r27] at st27
  obtain ⟨_, _, ⟨T28, L28, k28, n28⟩, -, X28, ⟨Lc28, hQ28, l28, y28, z28⟩, st28⟩ := Jvm.LawKit.callS X27 hx (y := y2) hown (mvT hZ (ow hw 5 rfl)) (mvT hZ (ow hw 6 rfl)) (mvT hZ (ow hw 7 rfl)) (mvT hZ (ow hw 8 rfl)) (by decide) (backOf (W := 1) (rm2 l Z ar hw [] (11 : Int32) w_TYPES w_I16 w_DOUBLE w_I64 w_BINARY w_SET w_I8 w_STRUCT w_BOOL w_LIST w_MAP w_UUID w_I32 k_TYPES h0 n0 O0 HW) hZ (ow hw 8 rfl) (ow hw 7 rfl) (by decide) (by decide)) (g := (mkF m 15 #[iv p0, iv (11 : Int32)] [(.int (11 : Int32)), (.ref w_UUID)])) rfl (by rw [hml]; rfl) (argsL := [(.int (11 : Int32))]) (rest := [(.ref w_UUID)]) (lenOf pd_0 rfl) rfl (by show 2 * 0 + _ ≤ _; exact Nat.le_of_eq rfl) (hb hby at_15) (fun _ _ => ⟨rfl, e27, (by decide : 0 + 0 ≤ _), (by decide : 0 + 0 ≤ _)⟩)
  dsimp only [Pt.U, Pt.locs, Pt.cells, Pt.slots] at X28 l28 y28 z28 st28 hQ28
  subst l28 y28 z28
  obtain ⟨rfl, N28q, e28⟩ := hQ28
  have N28 := Fr.app N27 N28q
  have r28 : (f2 (11 : Int32) w_I16 w_DOUBLE w_I64 w_BINARY w_SET w_I8 w_STRUCT w_BOOL w_LIST w_MAP w_UUID w_I32) = (.ref w_UUID) := by rw [f2, if_neg ((by decide) : ¬ ((11 : Int32) = (-1 : Int32))), if_neg ((by decide) : ¬ ((11 : Int32) = (0 : Int32))), if_neg ((by decide) : ¬ ((11 : Int32) = (1 : Int32))), if_neg ((by decide) : ¬ ((11 : Int32) = (2 : Int32))), if_neg ((by decide) : ¬ ((11 : Int32) = (3 : Int32))), if_neg ((by decide) : ¬ ((11 : Int32) = (4 : Int32))), if_neg ((by decide) : ¬ ((11 : Int32) = (5 : Int32))), if_neg ((by decide) : ¬ ((11 : Int32) = (6 : Int32))), if_neg ((by decide) : ¬ ((11 : Int32) = (7 : Int32))), if_neg ((by decide) : ¬ ((11 : Int32) = (8 : Int32))), if_neg ((by decide) : ¬ ((11 : Int32) = (9 : Int32))), if_neg ((by decide) : ¬ ((11 : Int32) = (10 : Int32)))] <;> decide
  rw [r28] at st28
  obtain ⟨fs, hr, hrun, hended, hW, hsame⟩ := X28.leave (v := some (.int (1 : Int32))) (fun h => by rw [Bd.returns] at h; cases h)
  subst hS0
  refine ⟨_, _, pre2 _ ?_, hrun, hended, _, _, rfl, ?_, ⟨_, rfl⟩, hW, hsame.mono (by decide) (by decide)⟩
  ·
   refine XS.iloadN X0.here hx rfl (hb hby at_10) rfl ?_
   show AT p e below s₁ m 11 #[iv p0, iv (11 : Int32)] [(.int (11 : Int32))] _
   refine st27 _ ?_
   show AT p e below T27 m 14 #[iv p0, iv (11 : Int32)] [(.ref w_UUID)] _
   refine XS.iloadN X27.here hx rfl (hb hby at_14) rfl ?_
   show AT p e below T27 m 15 #[iv p0, iv (11 : Int32)] [(.int (11 : Int32)), (.ref w_UUID)] _
   refine st28 _ ?_
   show AT p e below T28 m 18 #[iv p0, iv (11 : Int32)] [(.ref w_UUID), (.ref w_UUID)] _
   refine Jvm.RoadKit.acmp (g := (mkF m 18 #[iv p0, iv (11 : Int32)] [(.ref w_UUID), (.ref w_UUID)])) X28 hx rfl rfl rfl (pc0 := 18) (pc' := 21) (same := true) rfl (hb hby at_18) rfl (decide_eq_true rfl) (by decide) (by decide) ?_
   show AT p e below T28 m 21 #[iv p0, iv (11 : Int32)] [] _
   refine XS.iconst X28.here hx rfl (hb hby at_21) ?_
   show AT p e below T28 m 22 #[iv p0, iv (11 : Int32)] [(.int (1 : Int32))] _
   refine XS.goto X28.here hx rfl (pc0 := 22) (pc' := 26) rfl (hb hby at_22) (by decide) (by decide) ?_
   show AT p e below T28 m 26 #[iv p0, iv (11 : Int32)] [(.int (1 : Int32))] _
   exact retN X28 hx (t := .boolean) Bd.returns (by simp) (hb hby at_26) hr
  ·
   show Q0 Z p0 w_TYPES w_I16 w_DOUBLE w_I64 w_BINARY w_SET w_I8 w_STRUCT w_BOOL w_LIST w_MAP w_UUID w_I32 k_TYPES h0 n0 _ T28.heap _
   rw [e28]
   exact ⟨rfl, N28⟩

set_option maxRecDepth 65536 in
set_option maxHeartbeats 40000000 in
theorem comes_1 {Post : Tables → Env → Array Value → State → Outcome → State → Prop} (hpost : ∀ tb e args s v u, (limb_1_1.after args s (.returned v) u = true ∧ limb_1_2.after args s (.returned v) u = true ∧ True) → FrameEnd s (.returned v) u (Jvm.fieldLocs frame_1_writes args s ++ Jvm.arrayLocs frame_1_arrays args s ++ Jvm.staticLocs frame_1_statics s) 0 0 → Post tb e args s (.returned v) u) :
    ArmFor flags0 classFile x code maxLocals ret World_1 tables_1 room_1 Calls_1 rest_1 Pre_1 Post := by
  intro l hfl _ _ p e ha hc hk s m args below hf hA hF happ hP
  obtain ⟨hcalls, hrest, hpre⟩ := hP
  obtain ⟨-, -, -, hnamed, -, -, -, hat⟩ := (Spec.applies_iff hf).mp happ
  obtain ⟨hg, hn⟩ := and_e (Cond.before_iff.mp (show (Jvm.Cond.and given_1 narrow_1).before args s = true from hpre))
  obtain ⟨hg1, hg2⟩ := and_e hg
  obtain ⟨w0, rfl⟩ : ∃ w0 : Value, args = #[w0] := by
    have hs : args.size = 1 := by simpa [Cond.value, given_1] using hg1
    obtain ⟨L⟩ := args
    match L, hs with
    | [w0], _ => exact ⟨w0, rfl⟩
  have hw := fun d (hd : d ∈ tables_1) => atoms_spec (ws := Jvm.Cond.code x code maxLocals ret :: tables_1) hat d (List.mem_cons_of_mem _ hd)
  have hfit : Fit s := fun {y c} hc i hi => by
    obtain ⟨ha, rfl⟩ := Array.getElem?_eq_some_iff.mp hc
    have q := List.all_eq_true.mp ((Array.all_eq_true_iff_forall_mem.mp hF) _ (Array.getElem_mem ha)) i (List.mem_range.mpr hi)
    simpa [Array.getElem?_eq_getElem hi] using q
  obtain ⟨i0, ei0⟩ := is_v hg2
  obtain rfl : w0 = (.int i0) := Option.some.inj ei0
  obtain ⟨hn1, hn2⟩ := and_e hn
  obtain ⟨hn21, hn22⟩ := and_e hn2
  obtain ⟨hn221, hn222⟩ := and_e hn22
  obtain ⟨hn2221, hn2222⟩ := and_e hn222
  obtain ⟨hn22221, hn22222⟩ := and_e hn2222
  obtain ⟨hn222221, hn222222⟩ := and_e hn22222
  obtain ⟨hn2222221, hn2222222⟩ := and_e hn222222
  obtain ⟨hn22222221, hn22222222⟩ := and_e hn2222222
  obtain ⟨hn222222221, hn222222222⟩ := and_e hn22222222
  obtain ⟨hn2222222221, hn2222222222⟩ := and_e hn222222222
  obtain ⟨hn22222222221, hn22222222222⟩ := and_e hn2222222222
  obtain ⟨hn222222222221, hn222222222222⟩ := and_e hn22222222222
  obtain ⟨hn2222222222221, hn2222222222222⟩ := and_e hn222222222222
  obtain ⟨hn22222222222221, hn22222222222222⟩ := and_e hn2222222222222
  obtain ⟨hn222222222222221, hn222222222222222⟩ := and_e hn22222222222222
  obtain ⟨hn2222222222222221, hn2222222222222222⟩ := and_e hn222222222222222
  obtain ⟨hn22222222222222221, hn22222222222222222⟩ := and_e hn2222222222222222
  obtain ⟨hn222222222222222221, hn222222222222222222⟩ := and_e hn22222222222222222
  obtain ⟨hn2222222222222222221, hn2222222222222222222⟩ := and_e hn222222222222222222
  obtain ⟨hn22222222222222222221, hn22222222222222222222⟩ := and_e hn2222222222222222222
  obtain ⟨hn222222222222222222221, hn222222222222222222222⟩ := and_e hn22222222222222222222
  obtain ⟨hn2222222222222222222221, hn2222222222222222222222⟩ := and_e hn222222222222222222222
  obtain ⟨hn22222222222222222222221, hn22222222222222222222222⟩ := and_e hn2222222222222222222222
  obtain ⟨hn222222222222222222222221, hn222222222222222222222222⟩ := and_e hn22222222222222222222222
  obtain ⟨hn2222222222222222222222221, hn2222222222222222222222222⟩ := and_e hn222222222222222222222222
  obtain ⟨w_TYPES, ev_w_TYPES⟩ := arr_v hn1
  have S_TYPES : Sta s s.heap "com/example/uni_frame/uniframe/protocol/TypeCode" "TYPES" "[Lcom/example/uni_frame/uniframe/protocol/ValueType;" (.ref w_TYPES) := Sta.start ev_w_TYPES (Or.inr ⟨(ow hw 3 rfl), (ow hw 10 rfl)⟩)
  obtain ⟨w_I16, ev_w_I16⟩ := exa_v hn221
  have S_I16 : Sta s s.heap "com/example/uni_frame/uniframe/protocol/ValueType" "I16" "Lcom/example/uni_frame/uniframe/protocol/ValueType;" (.ref w_I16) := Sta.start ev_w_I16 (Or.inr ⟨(ow hw 11 rfl), (ow hw 12 rfl)⟩)
  have E_I16 : Exa s s.heap w_I16 "com/example/uni_frame/uniframe/protocol/ValueType" := Exa.start ev_w_I16 hn221
  obtain ⟨w_DOUBLE, ev_w_DOUBLE⟩ := exa_v hn22221
  have S_DOUBLE : Sta s s.heap "com/example/uni_frame/uniframe/protocol/ValueType" "DOUBLE" "Lcom/example/uni_frame/uniframe/protocol/ValueType;" (.ref w_DOUBLE) := Sta.start ev_w_DOUBLE (Or.inr ⟨(ow hw 11 rfl), (ow hw 14 rfl)⟩)
  have E_DOUBLE : Exa s s.heap w_DOUBLE "com/example/uni_frame/uniframe/protocol/ValueType" := Exa.start ev_w_DOUBLE hn22221
  obtain ⟨w_I64, ev_w_I64⟩ := exa_v hn2222221
  have S_I64 : Sta s s.heap "com/example/uni_frame/uniframe/protocol/ValueType" "I64" "Lcom/example/uni_frame/uniframe/protocol/ValueType;" (.ref w_I64) := Sta.start ev_w_I64 (Or.inr ⟨(ow hw 11 rfl), (ow hw 16 rfl)⟩)
  have E_I64 : Exa s s.heap w_I64 "com/example/uni_frame/uniframe/protocol/ValueType" := Exa.start ev_w_I64 hn2222221
  obtain ⟨w_BINARY, ev_w_BINARY⟩ := exa_v hn222222221
  have S_BINARY : Sta s s.heap "com/example/uni_frame/uniframe/protocol/ValueType" "BINARY" "Lcom/example/uni_frame/uniframe/protocol/ValueType;" (.ref w_BINARY) := Sta.start ev_w_BINARY (Or.inr ⟨(ow hw 11 rfl), (ow hw 18 rfl)⟩)
  have E_BINARY : Exa s s.heap w_BINARY "com/example/uni_frame/uniframe/protocol/ValueType" := Exa.start ev_w_BINARY hn222222221
  obtain ⟨w_SET, ev_w_SET⟩ := exa_v hn22222222221
  have S_SET : Sta s s.heap "com/example/uni_frame/uniframe/protocol/ValueType" "SET" "Lcom/example/uni_frame/uniframe/protocol/ValueType;" (.ref w_SET) := Sta.start ev_w_SET (Or.inr ⟨(ow hw 11 rfl), (ow hw 20 rfl)⟩)
  have E_SET : Exa s s.heap w_SET "com/example/uni_frame/uniframe/protocol/ValueType" := Exa.start ev_w_SET hn22222222221
  obtain ⟨w_I8, ev_w_I8⟩ := exa_v hn2222222222221
  have S_I8 : Sta s s.heap "com/example/uni_frame/uniframe/protocol/ValueType" "I8" "Lcom/example/uni_frame/uniframe/protocol/ValueType;" (.ref w_I8) := Sta.start ev_w_I8 (Or.inr ⟨(ow hw 11 rfl), (ow hw 22 rfl)⟩)
  have E_I8 : Exa s s.heap w_I8 "com/example/uni_frame/uniframe/protocol/ValueType" := Exa.start ev_w_I8 hn2222222222221
  obtain ⟨w_STRUCT, ev_w_STRUCT⟩ := exa_v hn222222222222221
  have S_STRUCT : Sta s s.heap "com/example/uni_frame/uniframe/protocol/ValueType" "STRUCT" "Lcom/example/uni_frame/uniframe/protocol/ValueType;" (.ref w_STRUCT) := Sta.start ev_w_STRUCT (Or.inr ⟨(ow hw 11 rfl), (ow hw 24 rfl)⟩)
  have E_STRUCT : Exa s s.heap w_STRUCT "com/example/uni_frame/uniframe/protocol/ValueType" := Exa.start ev_w_STRUCT hn222222222222221
  obtain ⟨w_BOOL, ev_w_BOOL⟩ := exa_v hn22222222222222221
  have S_BOOL : Sta s s.heap "com/example/uni_frame/uniframe/protocol/ValueType" "BOOL" "Lcom/example/uni_frame/uniframe/protocol/ValueType;" (.ref w_BOOL) := Sta.start ev_w_BOOL (Or.inr ⟨(ow hw 11 rfl), (ow hw 26 rfl)⟩)
  have E_BOOL : Exa s s.heap w_BOOL "com/example/uni_frame/uniframe/protocol/ValueType" := Exa.start ev_w_BOOL hn22222222222222221
  obtain ⟨w_LIST, ev_w_LIST⟩ := exa_v hn2222222222222222221
  have S_LIST : Sta s s.heap "com/example/uni_frame/uniframe/protocol/ValueType" "LIST" "Lcom/example/uni_frame/uniframe/protocol/ValueType;" (.ref w_LIST) := Sta.start ev_w_LIST (Or.inr ⟨(ow hw 11 rfl), (ow hw 28 rfl)⟩)
  have E_LIST : Exa s s.heap w_LIST "com/example/uni_frame/uniframe/protocol/ValueType" := Exa.start ev_w_LIST hn2222222222222222221
  obtain ⟨w_MAP, ev_w_MAP⟩ := exa_v hn222222222222222222221
  have S_MAP : Sta s s.heap "com/example/uni_frame/uniframe/protocol/ValueType" "MAP" "Lcom/example/uni_frame/uniframe/protocol/ValueType;" (.ref w_MAP) := Sta.start ev_w_MAP (Or.inr ⟨(ow hw 11 rfl), (ow hw 30 rfl)⟩)
  have E_MAP : Exa s s.heap w_MAP "com/example/uni_frame/uniframe/protocol/ValueType" := Exa.start ev_w_MAP hn222222222222222222221
  obtain ⟨w_UUID, ev_w_UUID⟩ := exa_v hn22222222222222222222221
  have S_UUID : Sta s s.heap "com/example/uni_frame/uniframe/protocol/ValueType" "UUID" "Lcom/example/uni_frame/uniframe/protocol/ValueType;" (.ref w_UUID) := Sta.start ev_w_UUID (Or.inr ⟨(ow hw 11 rfl), (ow hw 32 rfl)⟩)
  have E_UUID : Exa s s.heap w_UUID "com/example/uni_frame/uniframe/protocol/ValueType" := Exa.start ev_w_UUID hn22222222222222222222221
  obtain ⟨w_I32, ev_w_I32⟩ := exa_v hn2222222222222222222222221
  have S_I32 : Sta s s.heap "com/example/uni_frame/uniframe/protocol/ValueType" "I32" "Lcom/example/uni_frame/uniframe/protocol/ValueType;" (.ref w_I32) := Sta.start ev_w_I32 (Or.inr ⟨(ow hw 11 rfl), (ow hw 34 rfl)⟩)
  have E_I32 : Exa s s.heap w_I32 "com/example/uni_frame/uniframe/protocol/ValueType" := Exa.start ev_w_I32 hn2222222222222222222222221
  obtain ⟨cl_w_TYPES, Ar_w_TYPES⟩ := Arr.start ev_w_TYPES hn1
  have lv_w_TYPES := own_eqInt hn21
  obtain ⟨lq_w_TYPES, le_w_TYPES⟩ := own_len ev_w_TYPES Ar_w_TYPES lv_w_TYPES
  have el_w_TYPES_0 := elem_in (j := 0) (own_eqRef ev_w_BOOL hn222222222222222221) ev_w_TYPES rfl Ar_w_TYPES.1
  have el_w_TYPES_1 := elem_in (j := 1) (own_eqRef ev_w_I8 hn22222222222221) ev_w_TYPES rfl Ar_w_TYPES.1
  have el_w_TYPES_2 := elem_in (j := 2) (own_eqRef ev_w_I16 hn2221) ev_w_TYPES rfl Ar_w_TYPES.1
  have el_w_TYPES_3 := elem_in (j := 3) (own_eqRef ev_w_I32 hn2222222222222222222222222) ev_w_TYPES rfl Ar_w_TYPES.1
  have el_w_TYPES_4 := elem_in (j := 4) (own_eqRef ev_w_I64 hn22222221) ev_w_TYPES rfl Ar_w_TYPES.1
  have el_w_TYPES_5 := elem_in (j := 5) (own_eqRef ev_w_DOUBLE hn222221) ev_w_TYPES rfl Ar_w_TYPES.1
  have el_w_TYPES_6 := elem_in (j := 6) (own_eqRef ev_w_BINARY hn2222222221) ev_w_TYPES rfl Ar_w_TYPES.1
  have el_w_TYPES_7 := elem_in (j := 7) (own_eqRef ev_w_LIST hn22222222222222222221) ev_w_TYPES rfl Ar_w_TYPES.1
  have el_w_TYPES_8 := elem_in (j := 8) (own_eqRef ev_w_SET hn222222222221) ev_w_TYPES rfl Ar_w_TYPES.1
  have el_w_TYPES_9 := elem_in (j := 9) (own_eqRef ev_w_MAP hn2222222222222222222221) ev_w_TYPES rfl Ar_w_TYPES.1
  have el_w_TYPES_10 := elem_in (j := 10) (own_eqRef ev_w_STRUCT hn2222222222222221) ev_w_TYPES rfl Ar_w_TYPES.1
  have el_w_TYPES_11 := elem_in (j := 11) (own_eqRef ev_w_UUID hn222222222222222222222221) ev_w_TYPES rfl Ar_w_TYPES.1
  obtain ⟨k_TYPES, hk_w_TYPES⟩ : ∃ z, z = cl_w_TYPES.cls := ⟨_, rfl⟩
  have V_TYPES : Arv s s.heap w_TYPES k_TYPES (.object "com/example/uni_frame/uniframe/protocol/ValueType") (12 : Int32) [(.ref w_BOOL), (.ref w_I8), (.ref w_I16), (.ref w_I32), (.ref w_I64), (.ref w_DOUBLE), (.ref w_BINARY), (.ref w_LIST), (.ref w_SET), (.ref w_MAP), (.ref w_STRUCT), (.ref w_UUID)] .null := by rw [hk_w_TYPES]; exact Arv.start hfit Ar_w_TYPES lq_w_TYPES le_w_TYPES (by decide) rfl ⟨el_w_TYPES_0.2, el_w_TYPES_1.2, el_w_TYPES_2.2, el_w_TYPES_3.2, el_w_TYPES_4.2, el_w_TYPES_5.2, el_w_TYPES_6.2, el_w_TYPES_7.2, el_w_TYPES_8.2, el_w_TYPES_9.2, el_w_TYPES_10.2, el_w_TYPES_11.2, trivial⟩
  have HW : Wd s w_TYPES w_I16 w_DOUBLE w_I64 w_BINARY w_SET w_I8 w_STRUCT w_BOOL w_LIST w_MAP w_UUID w_I32 k_TYPES := ⟨S_TYPES, S_I16, E_I16, S_DOUBLE, E_DOUBLE, S_I64, E_I64, S_BINARY, E_BINARY, S_SET, E_SET, S_I8, E_I8, S_STRUCT, E_STRUCT, S_BOOL, E_BOOL, S_LIST, E_LIST, S_MAP, E_MAP, S_UUID, E_UUID, S_I32, E_I32, V_TYPES⟩
  obtain ⟨n, o, h1, h2, h3, _, L, rfl, ⟨rfl, N⟩, hq⟩ := rm0 l s _ hw tables_1 i0 w_TYPES w_I16 w_DOUBLE w_I64 w_BINARY w_SET w_I8 w_STRUCT w_BOOL w_LIST w_MAP w_UUID w_I32 k_TYPES s.heap s.heap.size (Old.start s) HW p e ha hc hk s m _ below hf ((Spec.applies_iff_loose hf).mp happ).1 ⟨rfl, State.Warmed39.refl s, rfl⟩ trivial
  refine ⟨n, _, h1, h2, h3, hpost _ _ _ _ _ _ ⟨Cond.after_iff.mpr rfl, Cond.after_iff.mpr (eq_i res_at (Term.int_eval (1)) rfl), trivial⟩ ⟨hq.1, hq.2.1, (hq.2.2.sift fun y hy => Or.inr (N y hy)).mono (by decide) (by decide)⟩⟩
theorem main_1_1 : Claimed_1_1 := comes_1 fun _ _ _ _ _ _ h hF => ⟨h.1, hF⟩
theorem main_1_2 : Claimed_1_2 := comes_1 fun _ _ _ _ _ _ h hF => ⟨h.2.1, hF⟩
end Jvm.Pilot.@@N@@
namespace Jvm.Pilot.@@N@@
open Jvm Jvm.ClassFile Sem Op Lib Jvm.Free Jvm.Stand Jvm.Pilot.@@N@@.Jvm.D
/-! MADE BY PROGRAM (witnessworld.py) out of the Statement's table words and the real class files: 14 classes; the members and pool entries that the words name. The judged class is class 1, her method 2. -/
namespace start1
open Jvm.ClassFile
def u (s : String) : CpInfo := .utf8 (stringToUtf16 s)
/-- a pool by its gaps: so many unusable entries, then the entry; so many at the end -/
def gap : Nat → List CpInfo → List CpInfo
  | 0, r => r
  | n + 1, r => .unusable :: gap n r
def poolList (es : List (Nat × CpInfo)) (last : Nat) : List CpInfo := es.foldr (fun e r => gap e.1 (e.2 :: r)) (gap last [])
def pool (es : List (Nat × CpInfo)) (last : Nat) : Array CpInfo := ⟨poolList es last⟩
def fileOf (pool : Array CpInfo) (this : Nat) (attrs : Array Attribute := #[]) (ms : Array MethodInfo := #[]) (fl : Nat := 33) (sup : Nat := 0) (ifs : Array Nat := #[]) (fds : Array FieldInfo := #[]) : ClassFile where
  minorVersion := 0
  majorVersion := 65
  constantPool := pool
  accessFlags := fl
  thisClass := this
  superClass := sup
  interfaces := ifs
  fields := fds
  methods := ms
  attributes := attrs
def plain (name : String) (sup : Option ClassId) : Class where
  name := name
  kind := .ordinary
  loader := none
  accessFlags := 33
  super := sup
  interfaces := #[]
  cf := none
  fields := #[]
  methods := #[]
  instanceTypes := #[]
  staticTypes := #[]
  resolved := #[]
  callSites := []
  init := .initialized
  statics := none
  mirror := none

def pool0 : Array CpInfo := pool [(5, u "<init>"), (0, u "()V"), (1, .class_ 10), (1, u "java/lang/Object")] 113

def k0m0 : Method := { name := "<init>", desc := "()V", sig := { parameters := [], returnType := none }, accessFlags := 1, code := none }
/-- java/lang/Object -/
def k0 : Class := { plain "java/lang/Object" none with
  accessFlags := 33
  interfaces := #[]
  cf := some (fileOf pool0 8 #[] #[{ accessFlags := 1, nameIndex := 5, descriptorIndex := 6, attributes := #[] }] 33 0 #[] #[])
  fields := #[]
  methods := #[k0m0]
  instanceTypes := #[]
  staticTypes := #[]
  resolved := Array.replicate 124 none
  statics := none }

def pool1 : Array CpInfo := pool [(2, .class_ 4), (1, u "java/lang/Object"), (0, u "<init>"), (0, u "()V"), (0, .fieldref 8 9), (0, .class_ 10), (0, .nameAndType 11 12), (0, u "com/example/uni_frame/uniframe/protocol/ValueType"), (0, u "BOOL"), (0, u "Lcom/example/uni_frame/uniframe/protocol/ValueType;"), (0, .fieldref 8 14), (0, .nameAndType 15 12), (0, u "I8"), (0, .fieldref 8 17), (0, .nameAndType 18 12), (0, u "I16"), (0, .fieldref 8 20), (0, .nameAndType 21 12), (0, u "I32"), (0, .fieldref 8 23), (0, .nameAndType 24 12), (0, u "I64"), (0, .fieldref 8 26), (0, .nameAndType 27 12), (0, u "DOUBLE"), (0, .fieldref 8 29), (0, .nameAndType 30 12), (0, u "BINARY"), (0, .fieldref 8 32), (0, .nameAndType 33 12), (0, u "LIST"), (0, .fieldref 8 35), (0, .nameAndType 36 12), (0, u "SET"), (0, .fieldref 8 38), (0, .nameAndType 39 12), (0, u "MAP"), (0, .fieldref 8 41), (0, .nameAndType 42 12), (0, u "STRUCT"), (0, .fieldref 8 44), (0, .nameAndType 45 12), (0, u "UUID"), (0, .integer 2147483647), (0, .methodref 48 49), (0, .class_ 50), (0, .nameAndType 51 52), (0, u "com/example/uni_frame/uniframe/protocol/TypeCode"), (0, u "valueType"), (0, u "(I)Lcom/example/uni_frame/uniframe/protocol/ValueType;"), (0, .methodref 54 55), (0, .class_ 56), (0, .nameAndType 57 52), (0, u "com/example/uni_frame/uniframe/protocol/TypeCodeValueTypePinLaw"), (0, u "expected"), (3, u "law"), (0, u "(I)Z")] 2

def k1m0 : Method := { name := "<init>", desc := "()V", sig := { parameters := [], returnType := none }, accessFlags := 2, code := none }
def k1c1 : Code := { maxStack := 2, maxLocals := 1, code := method_2_code, exceptionTable := #[], attributes := #[] }
def k1m1 : Method := { name := "expected", desc := "(I)Lcom/example/uni_frame/uniframe/protocol/ValueType;", sig := { parameters := [.int], returnType := some (.object "com/example/uni_frame/uniframe/protocol/ValueType") }, accessFlags := 10, code := some k1c1 }
def k1c2 : Code := { maxStack := 2, maxLocals := 2, code := code, exceptionTable := #[], attributes := #[] }
def k1m2 : Method := { name := "law", desc := "(I)Z", sig := { parameters := [.int], returnType := some .boolean }, accessFlags := 9, code := some k1c2 }
/-- com/example/uni_frame/uniframe/protocol/TypeCodeValueTypePinLaw -/
def k1 : Class := { plain "com/example/uni_frame/uniframe/protocol/TypeCodeValueTypePinLaw" (some 0) with
  accessFlags := 49
  interfaces := #[]
  cf := some (fileOf pool1 54 #[] #[{ accessFlags := 2, nameIndex := 5, descriptorIndex := 6, attributes := #[] }, { accessFlags := 10, nameIndex := 57, descriptorIndex := 52, attributes := #[] }, { accessFlags := 9, nameIndex := 61, descriptorIndex := 62, attributes := #[] }] 49 2 #[] #[])
  fields := #[]
  methods := #[k1m0, k1m1, k1m2]
  instanceTypes := #[]
  staticTypes := #[]
  resolved := Array.replicate 65 none
  statics := none }

def pool2 : Array CpInfo := pool [(2, .class_ 4), (1, u "java/lang/Object"), (0, u "<init>"), (0, u "()V"), (0, .class_ 8), (0, u "com/example/uni_frame/uniframe/protocol/TypeCode"), (0, .fieldref 7 10), (0, .nameAndType 11 12), (0, u "TYPES"), (0, u "[Lcom/example/uni_frame/uniframe/protocol/ValueType;"), (2, u "STRUCT"), (0, u "I"), (2, u "LIST"), (2, u "MAP"), (2, u "SET"), (4, u "BOOL"), (9, u "I8"), (4, u "I16"), (4, u "I32"), (4, u "I64"), (4, u "DOUBLE"), (4, u "BINARY"), (12, u "UUID"), (8, u "COUNT"), (0, u "NONE"), (4, u "valueType"), (0, u "(I)Lcom/example/uni_frame/uniframe/protocol/ValueType;")] 6

def k2m0 : Method := { name := "<init>", desc := "()V", sig := { parameters := [], returnType := none }, accessFlags := 2, code := none }
def k2c1 : Code := { maxStack := 2, maxLocals := 1, code := prog_17_method_2_code, exceptionTable := #[], attributes := #[] }
def k2m1 : Method := { name := "valueType", desc := "(I)Lcom/example/uni_frame/uniframe/protocol/ValueType;", sig := { parameters := [.int], returnType := some (.object "com/example/uni_frame/uniframe/protocol/ValueType") }, accessFlags := 8, code := some k2c1 }
/-- com/example/uni_frame/uniframe/protocol/TypeCode -/
def k2 : Class := { plain "com/example/uni_frame/uniframe/protocol/TypeCode" (some 0) with
  accessFlags := 48
  interfaces := #[]
  cf := some (fileOf pool2 7 #[] #[{ accessFlags := 2, nameIndex := 5, descriptorIndex := 6, attributes := #[] }, { accessFlags := 8, nameIndex := 93, descriptorIndex := 94, attributes := #[] }] 48 2 #[] #[{ accessFlags := 24, nameIndex := 88, descriptorIndex := 16, attributes := #[] }, { accessFlags := 24, nameIndex := 30, descriptorIndex := 16, attributes := #[] }, { accessFlags := 24, nameIndex := 40, descriptorIndex := 16, attributes := #[] }, { accessFlags := 24, nameIndex := 45, descriptorIndex := 16, attributes := #[] }, { accessFlags := 24, nameIndex := 50, descriptorIndex := 16, attributes := #[] }, { accessFlags := 24, nameIndex := 55, descriptorIndex := 16, attributes := #[] }, { accessFlags := 24, nameIndex := 60, descriptorIndex := 16, attributes := #[] }, { accessFlags := 24, nameIndex := 65, descriptorIndex := 16, attributes := #[] }, { accessFlags := 24, nameIndex := 19, descriptorIndex := 16, attributes := #[] }, { accessFlags := 24, nameIndex := 25, descriptorIndex := 16, attributes := #[] }, { accessFlags := 24, nameIndex := 22, descriptorIndex := 16, attributes := #[] }, { accessFlags := 24, nameIndex := 15, descriptorIndex := 16, attributes := #[] }, { accessFlags := 24, nameIndex := 78, descriptorIndex := 16, attributes := #[] }, { accessFlags := 24, nameIndex := 87, descriptorIndex := 16, attributes := #[] }, { accessFlags := 26, nameIndex := 11, descriptorIndex := 12, attributes := #[] }])
  fields := #[{ name := "NONE", type := .int, accessFlags := 24, slot := 0, constantValue := 0 }, { name := "BOOL", type := .int, accessFlags := 24, slot := 1, constantValue := 0 }, { name := "I8", type := .int, accessFlags := 24, slot := 2, constantValue := 0 }, { name := "I16", type := .int, accessFlags := 24, slot := 3, constantValue := 0 }, { name := "I32", type := .int, accessFlags := 24, slot := 4, constantValue := 0 }, { name := "I64", type := .int, accessFlags := 24, slot := 5, constantValue := 0 }, { name := "DOUBLE", type := .int, accessFlags := 24, slot := 6, constantValue := 0 }, { name := "BINARY", type := .int, accessFlags := 24, slot := 7, constantValue := 0 }, { name := "LIST", type := .int, accessFlags := 24, slot := 8, constantValue := 0 }, { name := "SET", type := .int, accessFlags := 24, slot := 9, constantValue := 0 }, { name := "MAP", type := .int, accessFlags := 24, slot := 10, constantValue := 0 }, { name := "STRUCT", type := .int, accessFlags := 24, slot := 11, constantValue := 0 }, { name := "UUID", type := .int, accessFlags := 24, slot := 12, constantValue := 0 }, { name := "COUNT", type := .int, accessFlags := 24, slot := 13, constantValue := 0 }, { name := "TYPES", type := (.array (.object "com/example/uni_frame/uniframe/protocol/ValueType")), accessFlags := 26, slot := 14, constantValue := 0 }]
  methods := #[k2m0, k2m1]
  instanceTypes := #[]
  staticTypes := #[.int, .int, .int, .int, .int, .int, .int, .int, .int, .int, .int, .int, .int, .int, (.array (.object "com/example/uni_frame/uniframe/protocol/ValueType"))]
  resolved := Array.replicate 101 none
  statics := some 0 }

def pool3 : Array CpInfo := pool [(1, .class_ 2), (0, u "java/lang/constant/Constable"), (0, .class_ 4), (0, u "java/lang/Object")] 6

/-- java/lang/constant/Constable -/
def k3 : Class := { plain "java/lang/constant/Constable" (some 0) with
  accessFlags := 1537
  interfaces := #[]
  cf := some (fileOf pool3 1 #[] #[] 1537 3 #[] #[])
  fields := #[]
  methods := #[]
  instanceTypes := #[]
  staticTypes := #[]
  resolved := Array.replicate 11 none
  statics := none }

def pool4 : Array CpInfo := pool [(1, .class_ 2), (0, u "java/lang/Comparable"), (0, .class_ 4), (0, u "java/lang/Object")] 7

/-- java/lang/Comparable -/
def k4 : Class := { plain "java/lang/Comparable" (some 0) with
  accessFlags := 1537
  interfaces := #[]
  cf := some (fileOf pool4 1 #[] #[] 1537 3 #[] #[])
  fields := #[]
  methods := #[]
  instanceTypes := #[]
  staticTypes := #[]
  resolved := Array.replicate 12 none
  statics := none }

def pool5 : Array CpInfo := pool [(1, .class_ 2), (0, u "java/io/Serializable"), (0, .class_ 4), (0, u "java/lang/Object")] 2

/-- java/io/Serializable -/
def k5 : Class := { plain "java/io/Serializable" (some 0) with
  accessFlags := 1537
  interfaces := #[]
  cf := some (fileOf pool5 1 #[] #[] 1537 3 #[] #[])
  fields := #[]
  methods := #[]
  instanceTypes := #[]
  staticTypes := #[]
  resolved := Array.replicate 7 none
  statics := none }

def pool6 : Array CpInfo := pool [(2, .class_ 4), (1, u "java/lang/Enum"), (0, u "name"), (0, u "Ljava/lang/String;"), (2, u "ordinal"), (0, u "I"), (1, .class_ 14), (1, u "java/lang/Object"), (4, u "hash"), (86, .class_ 108), (1, u "java/lang/Enum$EnumDesc"), (2, .class_ 112), (0, u "java/lang/constant/Constable"), (0, .class_ 114), (0, u "java/lang/Comparable"), (0, .class_ 116), (0, u "java/io/Serializable")] 87

/-- java/lang/Enum -/
def k6 : Class := { plain "java/lang/Enum" (some 0) with
  accessFlags := 1057
  interfaces := #[3, 4, 5]
  cf := some (fileOf pool6 2 #[.nestMembers #[106]] #[] 1057 12 #[111, 113, 115] #[{ accessFlags := 18, nameIndex := 5, descriptorIndex := 6, attributes := #[] }, { accessFlags := 18, nameIndex := 9, descriptorIndex := 10, attributes := #[] }, { accessFlags := 2, nameIndex := 19, descriptorIndex := 10, attributes := #[] }])
  fields := #[{ name := "name", type := (.object "java/lang/String"), accessFlags := 18, slot := 0, constantValue := 0 }, { name := "ordinal", type := .int, accessFlags := 18, slot := 1, constantValue := 0 }, { name := "hash", type := .int, accessFlags := 2, slot := 2, constantValue := 0 }]
  methods := #[]
  instanceTypes := #[(.object "java/lang/String"), .int, .int]
  staticTypes := #[]
  resolved := Array.replicate 204 none
  statics := none }

def pool7 : Array CpInfo := pool [(1, .class_ 2), (0, u "com/example/uni_frame/uniframe/protocol/ValueType"), (2, u "BOOL"), (0, u "Lcom/example/uni_frame/uniframe/protocol/ValueType;"), (2, u "I8"), (2, u "I16"), (2, u "I32"), (2, u "I64"), (2, u "DOUBLE"), (2, u "BINARY"), (2, u "LIST"), (2, u "SET"), (2, u "MAP"), (2, u "STRUCT"), (2, u "UUID"), (2, u "$VALUES"), (0, u "[Lcom/example/uni_frame/uniframe/protocol/ValueType;"), (6, .class_ 52), (1, u "java/lang/Enum")] 34

/-- com/example/uni_frame/uniframe/protocol/ValueType -/
def k7 : Class := { plain "com/example/uni_frame/uniframe/protocol/ValueType" (some 6) with
  accessFlags := 16433
  interfaces := #[]
  cf := some (fileOf pool7 1 #[] #[] 16433 50 #[] #[{ accessFlags := 16409, nameIndex := 5, descriptorIndex := 6, attributes := #[] }, { accessFlags := 16409, nameIndex := 9, descriptorIndex := 6, attributes := #[] }, { accessFlags := 16409, nameIndex := 12, descriptorIndex := 6, attributes := #[] }, { accessFlags := 16409, nameIndex := 15, descriptorIndex := 6, attributes := #[] }, { accessFlags := 16409, nameIndex := 18, descriptorIndex := 6, attributes := #[] }, { accessFlags := 16409, nameIndex := 21, descriptorIndex := 6, attributes := #[] }, { accessFlags := 16409, nameIndex := 24, descriptorIndex := 6, attributes := #[] }, { accessFlags := 16409, nameIndex := 27, descriptorIndex := 6, attributes := #[] }, { accessFlags := 16409, nameIndex := 30, descriptorIndex := 6, attributes := #[] }, { accessFlags := 16409, nameIndex := 33, descriptorIndex := 6, attributes := #[] }, { accessFlags := 16409, nameIndex := 36, descriptorIndex := 6, attributes := #[] }, { accessFlags := 16409, nameIndex := 39, descriptorIndex := 6, attributes := #[] }, { accessFlags := 4122, nameIndex := 42, descriptorIndex := 43, attributes := #[] }])
  fields := #[{ name := "BOOL", type := (.object "com/example/uni_frame/uniframe/protocol/ValueType"), accessFlags := 16409, slot := 0, constantValue := 0 }, { name := "I8", type := (.object "com/example/uni_frame/uniframe/protocol/ValueType"), accessFlags := 16409, slot := 1, constantValue := 0 }, { name := "I16", type := (.object "com/example/uni_frame/uniframe/protocol/ValueType"), accessFlags := 16409, slot := 2, constantValue := 0 }, { name := "I32", type := (.object "com/example/uni_frame/uniframe/protocol/ValueType"), accessFlags := 16409, slot := 3, constantValue := 0 }, { name := "I64", type := (.object "com/example/uni_frame/uniframe/protocol/ValueType"), accessFlags := 16409, slot := 4, constantValue := 0 }, { name := "DOUBLE", type := (.object "com/example/uni_frame/uniframe/protocol/ValueType"), accessFlags := 16409, slot := 5, constantValue := 0 }, { name := "BINARY", type := (.object "com/example/uni_frame/uniframe/protocol/ValueType"), accessFlags := 16409, slot := 6, constantValue := 0 }, { name := "LIST", type := (.object "com/example/uni_frame/uniframe/protocol/ValueType"), accessFlags := 16409, slot := 7, constantValue := 0 }, { name := "SET", type := (.object "com/example/uni_frame/uniframe/protocol/ValueType"), accessFlags := 16409, slot := 8, constantValue := 0 }, { name := "MAP", type := (.object "com/example/uni_frame/uniframe/protocol/ValueType"), accessFlags := 16409, slot := 9, constantValue := 0 }, { name := "STRUCT", type := (.object "com/example/uni_frame/uniframe/protocol/ValueType"), accessFlags := 16409, slot := 10, constantValue := 0 }, { name := "UUID", type := (.object "com/example/uni_frame/uniframe/protocol/ValueType"), accessFlags := 16409, slot := 11, constantValue := 0 }, { name := "$VALUES", type := (.array (.object "com/example/uni_frame/uniframe/protocol/ValueType")), accessFlags := 4122, slot := 12, constantValue := 0 }]
  methods := #[]
  instanceTypes := #[(.object "java/lang/String"), .int, .int]
  staticTypes := #[(.object "com/example/uni_frame/uniframe/protocol/ValueType"), (.object "com/example/uni_frame/uniframe/protocol/ValueType"), (.object "com/example/uni_frame/uniframe/protocol/ValueType"), (.object "com/example/uni_frame/uniframe/protocol/ValueType"), (.object "com/example/uni_frame/uniframe/protocol/ValueType"), (.object "com/example/uni_frame/uniframe/protocol/ValueType"), (.object "com/example/uni_frame/uniframe/protocol/ValueType"), (.object "com/example/uni_frame/uniframe/protocol/ValueType"), (.object "com/example/uni_frame/uniframe/protocol/ValueType"), (.object "com/example/uni_frame/uniframe/protocol/ValueType"), (.object "com/example/uni_frame/uniframe/protocol/ValueType"), (.object "com/example/uni_frame/uniframe/protocol/ValueType"), (.array (.object "com/example/uni_frame/uniframe/protocol/ValueType"))]
  resolved := Array.replicate 87 none
  statics := some 1 }

def pool8 : Array CpInfo := pool [(1, u "java/lang/Cloneable"), (0, .class_ 1), (0, u "java/lang/Object"), (0, .class_ 3)] 3

/-- java/lang/Cloneable -/
def k8 : Class := { plain "java/lang/Cloneable" (some 0) with
  accessFlags := 1537
  interfaces := #[]
  cf := some (fileOf pool8 2 #[] #[] 1537 4 #[] #[])
  fields := #[]
  methods := #[]
  instanceTypes := #[]
  staticTypes := #[]
  resolved := Array.replicate 8 none
  statics := none }

/-- the primitive byte -/
def k9 : Class := { plain "byte" none with kind := .primitive 'B', accessFlags := 0x411 }
/-- [B -/
def k10 : Class := { plain "[B" (some 0) with kind := .array 9 .byte, interfaces := #[8, 5], accessFlags := 1041 }

/-- the primitive int -/
def k11 : Class := { plain "int" none with kind := .primitive 'I', accessFlags := 0x411 }
/-- [I -/
def k12 : Class := { plain "[I" (some 0) with kind := .array 11 .int, interfaces := #[8, 5], accessFlags := 1041 }

/-- [Lcom/example/uni_frame/uniframe/protocol/ValueType; -/
def k13 : Class := { plain "[Lcom/example/uni_frame/uniframe/protocol/ValueType;" (some 0) with kind := .array 7 (.object "com/example/uni_frame/uniframe/protocol/ValueType"), interfaces := #[8, 5], accessFlags := 1041 }

def heap : Heap := #[{ cls := 2, slots := #[.int 0, .int 0, .int 0, .int 0, .int 0, .int 0, .int 0, .int 0, .int 0, .int 0, .int 0, .int 0, .int 0, .int 0, .ref 14], vm := .statics 2 },
  { cls := 7, slots := #[.ref 9, .ref 7, .ref 2, .ref 13, .ref 4, .ref 3, .ref 5, .ref 10, .ref 6, .ref 11, .ref 8, .ref 12, .null], vm := .statics 7 },
  { cls := 7, slots := #[.null, .int 0, .int 0], vm := .none },
  { cls := 7, slots := #[.null, .int 0, .int 0], vm := .none },
  { cls := 7, slots := #[.null, .int 0, .int 0], vm := .none },
  { cls := 7, slots := #[.null, .int 0, .int 0], vm := .none },
  { cls := 7, slots := #[.null, .int 0, .int 0], vm := .none },
  { cls := 7, slots := #[.null, .int 0, .int 0], vm := .none },
  { cls := 7, slots := #[.null, .int 0, .int 0], vm := .none },
  { cls := 7, slots := #[.null, .int 0, .int 0], vm := .none },
  { cls := 7, slots := #[.null, .int 0, .int 0], vm := .none },
  { cls := 7, slots := #[.null, .int 0, .int 0], vm := .none },
  { cls := 7, slots := #[.null, .int 0, .int 0], vm := .none },
  { cls := 7, slots := #[.null, .int 0, .int 0], vm := .none },
  { cls := 13, slots := #[.ref 9, .ref 7, .ref 2, .ref 13, .ref 4, .ref 3, .ref 5, .ref 10, .ref 6, .ref 11, .ref 8, .ref 12], vm := .none }]
def classes : Array Class := #[k0, k1, k2, k3, k4, k5, k6, k7, k8, k9, k10, k11, k12, k13]
def interned : List (Array UInt16 × Addr) := []
def slotsUsed : Nat := 76
def theMethod : MethodId := ⟨1, 2⟩
def args0 : Array Value := #[.int 5]
def aboutOver (below : List Frame) : State where
  vm := { classes := classes, interned := interned.toArray }
  heap := heap
  slotsUsed := slotsUsed
  threads := #[{ frames := .invoking theMethod args0 :: below }]
def below0 : List Frame := [.native { method := ⟨0, 0⟩, args := #[] }]
def about1 : State := aboutOver below0
def p0 : Program := .bare "" "" ""
def e0 : Env := launch0.env 0 0 0
theorem w_frames : about1.frames = Frame.invoking theMethod args0 :: below0 := rfl
set_option maxRecDepth 65536 in
theorem w_args : argsFit about1.vm theMethod args0 = true := by decide +kernel
set_option maxRecDepth 65536 in
theorem w_heap : heapFits about1 = true := by decide +kernel
set_option maxRecDepth 65536 in
theorem w_runnable : about1.curStatus? = some .runnable := by decide +kernel
set_option maxRecDepth 65536 in
theorem w_alone : about1.alone = true := by decide +kernel
set_option maxRecDepth 65536 in
theorem w_named : about1.methodNamed? x = some theMethod := by decide +kernel
set_option maxRecDepth 65536 in
theorem w_hears : about1.hears theMethod below0 = true := by decide +kernel
set_option maxRecDepth 65536 in
theorem w_ripe : about1.ripe theMethod args0 below0 = true := by decide +kernel
theorem w_running : about1.status = .running := rfl
set_option maxRecDepth 65536 in
theorem w_room : about1.hasRoom e0.platform room_1 = true :=
  launch0.hasRoom_least _ room_1 (by decide +kernel) (by decide +kernel) (by decide +kernel) (by decide +kernel) (by decide +kernel) (by decide +kernel)
theorem allAtoms_all (ts : List Jvm.Cond) (a : Array Jvm.Value) (st : Jvm.State) : (allAtoms ts).before a st = ts.all (fun c => c.before a st) := by
  induction ts with
  | nil => rfl
  | cons c t ih =>
    show (Jvm.Cond.and c (allAtoms t)).before a st = _
    rw [Jvm.Cond.before_and, ih, List.all_cons]
def words1 : List Jvm.Cond := Jvm.Cond.code x code maxLocals ret :: tables_1
/-- a 'code' word, met by the world's own term for the bytes: nothing is compared byte by byte -/
theorem code_word {y : MethodName} {bytes : ByteArray} {mx : Nat} {rt : Option FieldType} {a : Array Value} {s : State} {m : MethodId} {meth : Method} {c : Code} (h1 : s.methodNamed? y = some m) (h2 : s.vm.method? m = some meth) (h3 : meth.code = some c) (h4 : c.code = bytes)
    (h5 : (c.maxLocals == mx && c.exceptionTable.isEmpty && decide (c.maxStack ≤ mostOperands) && decide (meth.sig.returnType = rt) && !meth.locks && decide (parseMethodDescriptor y.desc = some meth.sig)) = true) : (Jvm.Cond.code y bytes mx rt).before a s = true := by
  simp only [Bool.and_eq_true, beq_iff_eq, Bool.not_eq_true', decide_eq_true_eq] at h5
  obtain ⟨⟨⟨⟨⟨g1, g2⟩, g3⟩, g4⟩, g5⟩, g6⟩ := h5
  simp [Cond.before, Cond.holds, Cond.value, h1, h2, h3, h4, g1, g2, g3, g4, g5, g6]
def isCode : Jvm.Cond → Bool
  | .code _ _ _ _ => true
  | _ => false
theorem all_split {L : List Jvm.Cond} {P : Jvm.Cond → Bool} (h1 : L.all (fun c => isCode c || P c) = true) (h2 : ∀ c ∈ L.filter isCode, P c = true) : L.all P = true := by
  refine List.all_eq_true.mpr fun c hc => ?_
  have h := List.all_eq_true.mp h1 c hc
  rcases Bool.eq_false_or_eq_true (isCode c) with hi | hi
  · exact h2 c (List.mem_filter.mpr ⟨hc, hi⟩)
  · simpa [hi] using h
set_option maxRecDepth 65536 in
theorem w_c0 : (Jvm.Cond.code x code maxLocals ret).before args0 about1 = true := code_word (m := ⟨1, 2⟩) (meth := k1m2) (c := k1c2) (by decide +kernel) rfl rfl rfl (by decide +kernel)
set_option maxRecDepth 65536 in
theorem w_c1 : (Jvm.Cond.code ({ cls := "com/example/uni_frame/uniframe/protocol/TypeCode", name := "valueType", desc := "(I)Lcom/example/uni_frame/uniframe/protocol/ValueType;" } : Jvm.MethodName) prog_17_method_2_code (1 : Nat) (Option.some (Jvm.ClassFile.FieldType.object "com/example/uni_frame/uniframe/protocol/ValueType"))).before args0 about1 = true := code_word (m := ⟨2, 1⟩) (meth := k2m1) (c := k2c1) (by decide +kernel) rfl rfl rfl (by decide +kernel)
set_option maxRecDepth 65536 in
theorem w_c2 : (Jvm.Cond.code ({ cls := "com/example/uni_frame/uniframe/protocol/TypeCodeValueTypePinLaw", name := "expected", desc := "(I)Lcom/example/uni_frame/uniframe/protocol/ValueType;" } : Jvm.MethodName) method_2_code (1 : Nat) (Option.some (Jvm.ClassFile.FieldType.object "com/example/uni_frame/uniframe/protocol/ValueType"))).before args0 about1 = true := code_word (m := ⟨1, 1⟩) (meth := k1m1) (c := k1c1) (by decide +kernel) rfl rfl rfl (by decide +kernel)
def codes1 : List Jvm.Cond := [Jvm.Cond.code x code maxLocals ret, Jvm.Cond.code ({ cls := "com/example/uni_frame/uniframe/protocol/TypeCode", name := "valueType", desc := "(I)Lcom/example/uni_frame/uniframe/protocol/ValueType;" } : Jvm.MethodName) prog_17_method_2_code (1 : Nat) (Option.some (Jvm.ClassFile.FieldType.object "com/example/uni_frame/uniframe/protocol/ValueType")), Jvm.Cond.code ({ cls := "com/example/uni_frame/uniframe/protocol/TypeCodeValueTypePinLaw", name := "expected", desc := "(I)Lcom/example/uni_frame/uniframe/protocol/ValueType;" } : Jvm.MethodName) method_2_code (1 : Nat) (Option.some (Jvm.ClassFile.FieldType.object "com/example/uni_frame/uniframe/protocol/ValueType"))]
set_option maxRecDepth 65536 in
theorem codes_eq : words1.filter isCode = codes1 := rfl
theorem w_codes : ∀ c ∈ words1.filter isCode, c.before args0 about1 = true := by
  rw [codes_eq]
  intro c hc
  simp only [codes1, List.mem_cons, List.not_mem_nil, or_false] at hc
  rcases hc with rfl | rfl | rfl
  · exact w_c0
  · exact w_c1
  · exact w_c2
set_option maxRecDepth 65536 in
theorem w_t1 : (words1.take 24).all (fun c => isCode c || c.before args0 about1) = true := by decide +kernel
set_option maxRecDepth 65536 in
theorem w_t2 : (words1.drop 24).all (fun c => isCode c || c.before args0 about1) = true := by decide +kernel
theorem w_tables : (allAtoms (Jvm.Cond.code x code maxLocals ret :: tables_1)).before args0 about1 = true := by
  rw [allAtoms_all]
  show words1.all (fun c => c.before args0 about1) = true
  refine all_split ?_ w_codes
  rw [← List.take_append_drop 24 words1, List.all_append, w_t1, w_t2]
  rfl
set_option maxRecDepth 65536 in
theorem w_case : (Jvm.Cond.and given_1 narrow_1).before args0 about1 = true := by decide +kernel
theorem w_applies : (headSpec (Jvm.Cond.code x code maxLocals ret :: tables_1) room_1).applies x e0.platform about1 = true :=
  (Spec.applies_iff w_frames).mpr ⟨w_running, w_runnable, w_alone, w_named, w_hears, w_ripe, w_room, w_tables⟩
theorem atStart : AtStart classFile x code maxLocals ret World_1 tables_1 room_1 Calls_1 rest_1 Pre_1 launch0 p0 e0 about1 theMethod args0 below0 :=
  ⟨lists_1, trivial, launch0.admits_env _ _ _, launch0.least_env, fairChoices_fair.cas, fairChoices_fair.clock, w_frames, w_args, w_heap, w_applies, trivial, trivial, w_case⟩
end start1
theorem witness_1 : WitnessClaimed_1 := ⟨start1.p0, start1.e0, start1.about1, start1.theMethod, start1.args0, start1.below0, start1.atStart⟩
end Jvm.Pilot.@@N@@
