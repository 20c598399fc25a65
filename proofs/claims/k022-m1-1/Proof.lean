import JvmDerived
import JvmDerived.Pilot.@@N@@Statement
import JvmDerived.Pilot.@@N@@Code
set_option linter.unusedVariables false
set_option linter.unusedSimpArgs false
namespace Jvm.Pilot.@@N@@
open Jvm Jvm.ClassFile Sem Op Lib Jvm.Free Jvm.Stand Jvm.LawKit Jvm.RoadKit Bundle Jvm.Pilot.@@N@@.Jvm.D
abbrev y1 : MethodName := ⟨"com/example/minderd/minderd/process/OwnerEqualsPinLaw", "two", "(II)Ljava/lang/String;"⟩
abbrev y2 : MethodName := ⟨"java/lang/String", "<init>", "([C)V"⟩
abbrev y3 : MethodName := ⟨"java/lang/String", "<init>", "([CIILjava/lang/Void;)V"⟩
abbrev y4 : MethodName := ⟨"java/lang/Object", "<init>", "()V"⟩
abbrev y5 : MethodName := ⟨"java/lang/StringUTF16", "compress", "([CII)[B"⟩
abbrev y6 : MethodName := ⟨"java/lang/StringUTF16", "compress", "([CI[BII)I"⟩
abbrev y7 : MethodName := ⟨"java/lang/StringUTF16", "coderFromArrayLen", "([BI)B"⟩
abbrev y8 : MethodName := ⟨"com/example/minderd/minderd/process/Owner", "<init>", "(Ljava/lang/String;Ljava/lang/String;Ljava/lang/String;)V"⟩
abbrev y9 : MethodName := ⟨"com/example/minderd/minderd/process/OwnerEqualsPinLaw", "same", "(I)Z"⟩
abbrev y10 : MethodName := ⟨"com/example/minderd/minderd/process/Owner", "equals", "(Ljava/lang/Object;)Z"⟩
abbrev y11 : MethodName := ⟨"java/lang/String", "equals", "(Ljava/lang/Object;)Z"⟩
abbrev y12 : MethodName := ⟨"java/lang/StringLatin1", "equals", "([B[B)Z"⟩

abbrev jv (x : Int64) : Slot := .val (.long x)
abbrev un : Slot := .unset
abbrev se : Slot := .second
abbrev AT (p : Program) (e : Env) (below : List Frame) (T : State) (m : MethodId) (pc : Nat) (ls : Array Slot) (st : List Value) (tg : State) : Prop := Steps p.tables e below (T.setTop (mkF m pc ls st)) tg
theorem ow {Z : State} {a0 : Array Value} (hw : ∀ d ∈ tables_1, d.before a0 Z = true) (i : Nat) {d : Jvm.Cond} (h : tables_1[i]? = some d) : d.before a0 Z = true := hw _ (List.mem_of_getElem? h)
theorem own_lrem {p : Program} {l : Launch} {e : Env} {R : Room} {s : State} {m : MethodId} {args : Array Value} {below : List Frame} {meth : Method} {c : Code} {T : State} {locs : List Loc} {cells slots : Nat} {g : JFrame} {target : State} (X : Stand p l e R s m args below meth c T locs cells slots) (hx : p.tables.exec = Jvm.exec) (hg : g.method = m) {x y : Int64} {rest : List Value} (hd : decode c.code g.pc = .ok (.lrem, 1)) (hs : g.stack = .long y :: .long x :: rest) (hy : y ≠ 0)
    (hr : Steps p.tables e below (T.setTop { g with pc := g.pc + 1, stack := .long (x % y) :: rest }) target) : Steps p.tables e below (T.setTop g) target :=
  XS.lrem X.here hx hg hd hs hy (by rw [lrem_mod]; exact hr)
theorem own_eqInt {args : Array Value} {first s : State} {o : Option Outcome} {idx : List Nat} {t : Term} {n : Int32} (h : (Jvm.Cond.eq t (.int n)).value args first o s idx = some true) : t.eval args first o idx s = some (.int n) := by
  simp only [Cond.value, Term.eval] at h
  cases ht : t.eval args first o idx s with
  | none => simp [ht] at h
  | some v => cases v <;> simp [ht] at h ⊢; exact h
theorem own_eqLong {args : Array Value} {first s : State} {o : Option Outcome} {idx : List Nat} {t : Term} {n : Int64} (h : (Jvm.Cond.eq t (.long n)).value args first o s idx = some true) : t.eval args first o idx s = some (.long n) := by
  simp only [Cond.value, Term.eval] at h
  cases ht : t.eval args first o idx s with
  | none => simp [ht] at h
  | some v => cases v <;> simp [ht] at h ⊢; exact h
theorem own_eqRef {args : Array Value} {first s : State} {o : Option Outcome} {idx : List Nat} {t u : Term} {a : Addr} (hu : u.eval args first o idx s = some (.ref a)) (h : (Jvm.Cond.eq t u).value args first o s idx = some true) : t.eval args first o idx s = some (.ref a) := by
  simp only [Cond.value, hu] at h
  cases ht : t.eval args first o idx s with
  | none => simp [ht] at h
  | some v => cases v <;> simp [ht] at h ⊢; exact h

theorem own_x32 {a b : Int} (h : (a - b) % 4294967296 = 0) (r : -2147483648 ≤ a ∧ a ≤ 2147483647) (q : -2147483648 ≤ b ∧ b ≤ 2147483647) : a = b := by omega
theorem own_x64 {a b : Int} (h : (a - b) % 18446744073709551616 = 0) (r : -9223372036854775808 ≤ a ∧ a ≤ 9223372036854775807) (q : -9223372036854775808 ≤ b ∧ b ≤ 9223372036854775807) : a = b := by omega
theorem own_in {c : Cell} {n : Int32} (j : Int32) (S : c.slots.size = n.toNatClampNeg) (q : ¬ j < 0 ∧ j < n) : ¬ (j < 0 ∨ c.slots.size ≤ j.toNatClampNeg) := inb_of S q
theorem own_up {x a b : Int32} (h : x < a) (q : a.toInt ≤ b.toInt) : x < b := Int32.lt_iff_toInt_lt.mpr (Int.lt_of_lt_of_le (Int32.lt_iff_toInt_lt.mp h) q)
theorem own_dn {x a b : Int32} (h : ¬ x < a) (q : b.toInt ≤ a.toInt) : ¬ x < b := fun z => h (own_up z q)
theorem own_neInt {args : Array Value} {first s : State} {o : Option Outcome} {idx : List Nat} {t : Term} {x n : Int32} (ht : t.eval args first o idx s = some (.int x)) (h : (Jvm.Cond.not (Jvm.Cond.eq t (.int n))).value args first o s idx = some true) : ¬ x = n := by
  simpa [Cond.value, Term.eval, ht] using h

theorem own_len {Z : State} {args : Array Value} {t : Term} {a : Addr} {cl : Cell} {ty : FieldType} {n : Int32} (ev : t.eval args Z none [] Z = some (.ref a)) (A : Arr Z Z.heap a cl ty) (h : (Term.length t).eval args Z none [] Z = some (.int n)) : cl.slots.size < 2 ^ 31 ∧ cl.slots.size.toInt32 = n := by
  have q := A.fin (U := Z) (Vm.Alike.refl _)
  simp only [Term.eval, ev, q, Option.bind_eq_bind, Option.bind_some, Option.pure_def] at h
  split at h
  · rename_i hlt; exact ⟨hlt, by simpa using h⟩
  · simp at h

theorem own_nar {v : Value} {c : String} (h : v.isRef = true) : narrow (.object c) v = v := by cases v <;> first | rfl | simp [Value.isRef] at h
theorem own_fits {v : Value} {c : String} (h : v.isRef = true) : fits (.object c) v = true := by cases v <;> first | rfl | simp [Value.isRef] at h
theorem own_cat {v : Value} (h : v.isRef = true) : v.category = 1 := by cases v <;> first | rfl | simp [Value.isRef] at h

theorem own_notOf {Z : State} {a0 : Array Value} {C S K : String} {n : Nat} (w : (Jvm.Cond.superclass C S).before a0 Z = true) (w0 : (Jvm.Cond.noSuperclass S).before a0 Z = true) (wk : (Jvm.Cond.instantiable K n).before a0 Z = true) (h1 : C ≠ K) (h2 : S ≠ K) :
    ∃ c t, Z.vm.findClass C = some c ∧ Z.vm.findClass K = some t ∧ Z.vm.assignable c t = false := by
  obtain ⟨t, k', g0, g2, g5, g7, -⟩ := Cond.instantiable_spec wk
  obtain ⟨c, h0⟩ := found_sup w
  obtain ⟨p, k, kp, q1, q2, q3, q4, q5, q6, q7⟩ := Cond.superclass_spec h0 w
  obtain ⟨c0, k0, r1, r2, r3, -, -⟩ := Cond.noSuperclass_spec w0
  cases q1.symm.trans r1
  have ne1 := ids_ne h0 g0 h1
  have ne2 := ids_ne r1 g0 h2
  have g8 := (Bool.or_eq_false_iff.mp g7).1
  have n3 : ∀ fuel, Z.vm.isSubclassAux fuel c t = false := by
    intro fuel
    cases fuel with
    | zero => rfl
    | succ f =>
      cases f with
      | zero => simp [Vm.isSubclassAux, ne1, q2, q4]
      | succ g => simp [Vm.isSubclassAux, ne1, ne2, q2, q4, r2, r3]
  refine ⟨c, t, h0, g0, ?_⟩
  show Z.vm.assignableAux (255 + 1) c t = false
  simp [Vm.assignableAux, ne1, q2, g2, q5, g5, g8, Vm.isSubclass, n3]

theorem own_selP {Z s : State} {a0 args : Array Value} {y : MethodName} {n : Nat} (hZ : Z.Warmed39 s.vm) (wi : (Jvm.Cond.instantiable y.cls n).before a0 Z = true) (wp : (Jvm.Cond.privateMethod y).before a0 Z = true) (wm : (Jvm.Cond.instanceMethod y).before a0 Z = true) (hy : y.cls ≠ "java/lang/invoke/MethodHandle" ∧ y.cls ≠ "java/lang/invoke/VarHandle") : (Jvm.Cond.selects y.cls y y).before args s = true := by
  obtain ⟨c, k, hc, hk, -, hni, -⟩ := Cond.instantiable_spec (mvT (s := s) (args := args) hZ wi)
  exact selects_self_of_private hc hk (Bool.or_eq_false_iff.mp hni).1 (Cond.privateMethod_at (mvP hZ wp (args := #[]))) (mvT hZ wm) hy

theorem own_neS {Z : State} {h : Heap} {a b u w : Addr} {C f d : String} {k k' : ClassId} {ty : FieldType} {z z' : Int32} {vs vs' : List Value} {dv dv' : Value} (Fa : Fld Z h a C f d (.ref u)) (Va : Arv Z h u k ty z vs dv) (Fb : Fld Z h b C f d (.ref w)) (Vb : Arv Z h w k' ty z' vs' dv') (hn : z ≠ z' ∨ ∃ i : Nat, i < z.toNatClampNeg ∧ vs.getD i dv ≠ vs'.getD i dv') : a ≠ b := fun e => by
  subst e
  have hu : u = w := by
    rcases Decidable.em (u = w) with q | q
    · exact q
    · exact absurd rfl (Fld.ne Fa Fb (fun x => q (Value.ref.inj x)))
  subst hu
  obtain ⟨c1, A1, -, S1, N1, H1, -⟩ := Va
  obtain ⟨c2, A2, -, S2, N2, H2, -⟩ := Vb
  cases A1.1.symm.trans A2.1
  rcases hn with hn | ⟨i, hi, hn⟩
  · exact hn ((len_of S1 N1).symm.trans (len_of S2 N2))
  · have q1 := H1 i (by rw [S1]; exact hi)
    have q2 := H2 i (by rw [S1]; exact hi)
    exact hn (Option.some.inj (q1.symm.trans q2))
def Wd (Z : State) (w_CS0 : Int32) (w_SF1 : Value) : Prop :=
  Sta Z Z.heap "java/lang/String" "COMPACT_STRINGS" "Z" (.int w_CS0) ∧
  ¬ w_CS0 = (0 : Int32) ∧
  Sta Z Z.heap "jdk/internal/util/Preconditions" "SIOOBE_FORMATTER" "Ljava/util/function/BiFunction;" w_SF1 ∧
  w_SF1.isRef = true
theorem pn_0 : plainName "java/lang/StringUTF16" = true := by first | (simp [plainName, overriddenIn]; done) | decide +kernel
theorem pn_1 : plainName "java/lang/String" = true := by first | (simp [plainName, overriddenIn]; done) | decide +kernel
theorem pn_2 : plainName "com/example/minderd/minderd/process/OwnerEqualsPinLaw" = true := by first | (simp [plainName, overriddenIn]; done) | decide +kernel
theorem pn_3 : plainName "com/example/minderd/minderd/process/Owner" = true := by first | (simp [plainName, overriddenIn]; done) | decide +kernel
theorem pn_4 : plainName "java/lang/StringLatin1" = true := by first | (simp [plainName, overriddenIn]; done) | decide +kernel
theorem pd_0 : parseMethodDescriptor "([CI[BII)I" = some ⟨[(.array .char), .int, (.array .byte), .int, .int], some .int⟩ := by decide +kernel
theorem pd_1 : parseMethodDescriptor "([CII)[B" = some ⟨[(.array .char), .int, .int], some (.array .byte)⟩ := by decide +kernel
theorem pd_2 : parseMethodDescriptor "([BI)B" = some ⟨[(.array .byte), .int], some .byte⟩ := by decide +kernel
theorem pd_3 : parseMethodDescriptor "([CIILjava/lang/Void;)V" = some ⟨[(.array .char), .int, .int, (.object "java/lang/Void")], none⟩ := by decide +kernel
theorem pd_4 : parseMethodDescriptor "([C)V" = some ⟨[(.array .char)], none⟩ := by decide +kernel
theorem pd_5 : parseMethodDescriptor "([B[B)Z" = some ⟨[(.array .byte), (.array .byte)], some .boolean⟩ := by decide +kernel
theorem pd_6 : parseMethodDescriptor "(Ljava/lang/Object;)Z" = some ⟨[(.object "java/lang/Object")], some .boolean⟩ := by decide +kernel
theorem pd_7 : parseMethodDescriptor "(II)Ljava/lang/String;" = some ⟨[.int, .int], some (.object "java/lang/String")⟩ := by decide +kernel
theorem pd_8 : parseMethodDescriptor "(Ljava/lang/String;Ljava/lang/String;Ljava/lang/String;)V" = some ⟨[(.object "java/lang/String"), (.object "java/lang/String"), (.object "java/lang/String")], none⟩ := by decide +kernel
theorem pd_9 : parseMethodDescriptor "(I)Z" = some ⟨[.int], some .boolean⟩ := by decide +kernel
theorem d6_0 : decode jdk_52_method_21_code 0 = .ok (.iconst 0, 1) := by decide +kernel
theorem d6_1 : decode jdk_52_method_21_code 1 = .ok (.istore 5, 2) := by decide +kernel
theorem d6_3 : decode jdk_52_method_21_code 3 = .ok (.iload 5, 2) := by decide +kernel
theorem d6_5 : decode jdk_52_method_21_code 5 = .ok (.iload 4, 2) := by decide +kernel
theorem d6_7 : decode jdk_52_method_21_code 7 = .ok (.if_icmp .ge 37, 3) := by decide +kernel
theorem d6_10 : decode jdk_52_method_21_code 10 = .ok (.aload_n 0, 1) := by decide +kernel
theorem d6_11 : decode jdk_52_method_21_code 11 = .ok (.iload_n 1, 1) := by decide +kernel
theorem d6_12 : decode jdk_52_method_21_code 12 = .ok (.caload, 1) := by decide +kernel
theorem d6_13 : decode jdk_52_method_21_code 13 = .ok (.istore 6, 2) := by decide +kernel
theorem d6_15 : decode jdk_52_method_21_code 15 = .ok (.iload 6, 2) := by decide +kernel
theorem d6_17 : decode jdk_52_method_21_code 17 = .ok (.sipush 255, 3) := by decide +kernel
theorem d6_20 : decode jdk_52_method_21_code 20 = .ok (.if_icmp .le 6, 3) := by decide +kernel
theorem d6_26 : decode jdk_52_method_21_code 26 = .ok (.aload_n 2, 1) := by decide +kernel
theorem d6_27 : decode jdk_52_method_21_code 27 = .ok (.iload_n 3, 1) := by decide +kernel
theorem d6_28 : decode jdk_52_method_21_code 28 = .ok (.iload 6, 2) := by decide +kernel
theorem d6_30 : decode jdk_52_method_21_code 30 = .ok (.i2b, 1) := by decide +kernel
theorem d6_31 : decode jdk_52_method_21_code 31 = .ok (.bastore, 1) := by decide +kernel
theorem d6_32 : decode jdk_52_method_21_code 32 = .ok (.iinc 1 1, 3) := by decide +kernel
theorem d6_35 : decode jdk_52_method_21_code 35 = .ok (.iinc 3 1, 3) := by decide +kernel
theorem d6_38 : decode jdk_52_method_21_code 38 = .ok (.iinc 5 1, 3) := by decide +kernel
theorem d6_41 : decode jdk_52_method_21_code 41 = .ok (.goto (-38), 3) := by decide +kernel
theorem d6_44 : decode jdk_52_method_21_code 44 = .ok (.iload 4, 2) := by decide +kernel
theorem d6_46 : decode jdk_52_method_21_code 46 = .ok (.ireturn, 1) := by decide +kernel
theorem ef_6 (m : MethodId) (a0 : Addr) (a2 : Addr) : entryFrame m #[(.ref a0), (.int (0 : Int32)), (.ref a2), (.int (0 : Int32)), (.int (2 : Int32))] 7 = mkF m 0 #[rv a0, iv (0 : Int32), rv a2, iv (0 : Int32), iv (2 : Int32), un, un] [] := by first | (simp [entryFrame, mkF, argsToLocals, Value.category]; done) | rfl
def Q6 (Z : State) (a0 : Addr) (a2 : Addr) (ka : ClassId) (kb : ClassId) (c0 : Int32) (c1 : Int32) (h0 : Heap) (n0 : Nat) (v : Option Value) (h : Heap) (L : List Loc) : Prop := v = some (.int (2 : Int32)) ∧ Fr n0 L ∧ Keep h0 h [a2] ∧ Arv Z h a2 kb .byte (2 : Int32) [(.int (nar .byte (c0.toInt8.toInt32))), (.int (nar .byte (c1.toInt8.toInt32)))] (.int (0 : Int32))
set_option maxRecDepth 65536 in
set_option maxHeartbeats 40000000 in
theorem rm6 (l : Launch) (Z : State) (ar : Array Value) (hw : ∀ d ∈ tables_1, d.before ar Z = true) (ws : List Jvm.Cond) (a0 : Addr) (a2 : Addr) (ka : ClassId) (kb : ClassId) (c0 : Int32) (c1 : Int32) (h0 : Heap) (n0 : Nat) (O0 : Old Z n0 h0) (pf0 : Arv Z h0 a0 ka .char (2 : Int32) [(.int c0), (.int c1)] (.int (0 : Int32))) (pf1 : Arv Z h0 a2 kb .byte (2 : Int32) [(.int (0 : Int32)), (.int (0 : Int32))] (.int (0 : Int32))) (pf2 : n0 ≤ a2) (pf3 : a0 ≠ a2) (l0 : ¬ (255 : Int32) < c0) (l1 : ¬ (255 : Int32) < c1) :
    MetFree l y6 (head1 (Jvm.Cond.code y6 jdk_52_method_21_code 7 (some .int) :: ws) ({ frames := 0, cells := 0, slots := 0, locals := 0 } : Room)) (fun a U => a = #[(.ref a0), (.int (0 : Int32)), (.ref a2), (.int (0 : Int32)), (.int (2 : Int32))] ∧ Z.Warmed39 U.vm ∧ U.heap = h0) (fun _ _ _ _ _ => True) (fun _ U o U' => ∃ v L, o = .returned v ∧ Q6 Z a0 a2 ka kb c0 c1 h0 n0 v U'.heap L ∧ FrameEnd U o U' L ({ frames := 0, cells := 0, slots := 0, locals := 0 } : Room).cells ({ frames := 0, cells := 0, slots := 0, locals := 0 } : Room).slots) := by
 refine MetFree.of_bodySF (plainFor_of_name pn_0) hisR ?_
 intro p e s m args below meth c s₁ Bd hml0 hP hK
 obtain ⟨rfl, hZ, hh⟩ := hP
 have hx := Bd.exec
 have hby := Bd.bytes
 have hml : c.maxLocals = 7 := hml0
 have hown : s.vm.findClass "java/lang/StringUTF16" = some m.cls := findClass_of_methodNamed Bd.named
 have hnm := (name_of_methodNamed Bd.named Bd.method).1
 have hlk : meth.locks = false := by first | assumption | exact BodyLoose.notSynchronized (by assumption) | exact Body.notSynchronized (by assumption)
 have X0 : Stand p l e ({ frames := 0, cells := 0, slots := 0, locals := 0 } : Room) s m #[(.ref a0), (.int (0 : Int32)), (.ref a2), (.int (0 : Int32)), (.int (2 : Int32))] below meth c s₁ [] 0 0 := Stand.of_body Bd
 have e0 : s₁.heap = h0 := by rw [← hh, Bd.state]; rfl
 have N0 := Fr.nil n0
 have Z0 : n0 ≤ h0.size := Nat.le_trans (Nat.le_of_eq O0.1.symm) O0.2.1
 obtain ⟨S0, hS0⟩ : ∃ z, z = s₁.setTop (entryFrame m #[(.ref a0), (.int (0 : Int32)), (.ref a2), (.int (0 : Int32)), (.int (2 : Int32))] 7) := ⟨_, rfl⟩
 have pre0 : ∀ tg, AT p e below s₁ m 0 #[rv a0, iv (0 : Int32), rv a2, iv (0 : Int32), iv (2 : Int32), un, un] [] tg → Steps p.tables e below S0 tg := fun tg kg => by rw [hS0]; exact castTop (ef_6 m a0 a2) kg
 obtain ⟨cl1, Ar1, q1, S1, N1, H1, G1⟩ := id pf0
 have hin1 := own_in (0 : Int32) S1 ⟨by decide, by decide⟩
 have hat1 : cl1.slots[((0 : Int32)).toNatClampNeg]? = some (.int c0) := Has.at H1 hin1 rfl
 obtain ⟨cl2, Ar2, q2, S2, M2, H2, G2⟩ := id pf1
 have hin2 := own_in (0 : Int32) S2 ⟨by decide, by decide⟩
 obtain ⟨T2, h2, X2, e2, W2, st2⟩ := stB X0 hx hZ e0 Ar2 (j := (0 : Int32)) hin2 (g := (mkF m 31 #[rv a0, iv (0 : Int32), rv a2, iv (0 : Int32), iv (2 : Int32), iv (0 : Int32), iv c0] [(.int (c0.toInt8.toInt32)), (.int (0 : Int32)), (.ref a2)])) rfl rfl (hb hby d6_31)
 have V2_3 : Arv Z h2 a2 kb .byte (2 : Int32) [(.int (nar .byte (c0.toInt8.toInt32))), (.int (0 : Int32))] (.int (0 : Int32)) := Arv.set Ar2 q2 S2 M2 H2 G2 (fits_nar_byte _) W2 0 rfl (Nat.le_of_ble_eq_true rfl)
 have V2_4 := pf0.other W2 pf3
 have K2 := (Keep.refl h0 [a2]).wr W2 (Or.inl (List.mem_of_getElem? (i := 0) rfl))
 have O2 := O0.wr W2 pf2
 have N2 := Fr.snoc X2 N0 pf2
 obtain ⟨cl5, Ar5, q5, S5, N5, H5, G5⟩ := id V2_4
 have hin5 := own_in (1 : Int32) S5 ⟨by decide, by decide⟩
 have hat5 : cl5.slots[((1 : Int32)).toNatClampNeg]? = some (.int c1) := Has.at H5 hin5 rfl
 obtain ⟨cl6, Ar6, q6, S6, M6, H6, G6⟩ := id V2_3
 have hin6 := own_in (1 : Int32) S6 ⟨by decide, by decide⟩
 obtain ⟨T6, h6, X6, e6, W6, st6⟩ := stB X2 hx hZ e2 Ar6 (j := (1 : Int32)) hin6 (g := (mkF m 31 #[rv a0, iv (1 : Int32), rv a2, iv (1 : Int32), iv (2 : Int32), iv (1 : Int32), iv c1] [(.int (c1.toInt8.toInt32)), (.int (1 : Int32)), (.ref a2)])) rfl rfl (hb hby d6_31)
 have V6_7 : Arv Z h6 a2 kb .byte (2 : Int32) [(.int (nar .byte (c0.toInt8.toInt32))), (.int (nar .byte (c1.toInt8.toInt32)))] (.int (0 : Int32)) := Arv.set Ar6 q6 S6 M6 H6 G6 (fits_nar_byte _) W6 1 rfl (Nat.le_of_ble_eq_true rfl)
 have V6_8 := V2_4.other W6 pf3
 have K6 := K2.wr W6 (Or.inl (List.mem_of_getElem? (i := 0) rfl))
 have O6 := O2.wr W6 pf2
 have N6 := Fr.snoc X6 N2 pf2
 clear V2_4
 obtain ⟨fs, hr, hrun, hended, hW, hsame⟩ := X6.leave (v := some (.int (2 : Int32))) (fun h => by rw [Bd.returns] at h; cases h) hlk
 subst hS0
 refine ⟨_, _, pre0 _ ?_, hrun, hended, _, _, rfl, ?_, ⟨_, rfl⟩, hW, hsame.mono (by decide) (by decide)⟩
 ·
  refine XS.iconst X0.here hx rfl (hb hby d6_0) ?_
  refine XS.istore X0.here hx rfl (hb hby d6_1) rfl (l' := #[rv a0, iv (0 : Int32), rv a2, iv (0 : Int32), iv (2 : Int32), iv (0 : Int32), un]) rfl ?_
  refine XS.iload X0.here hx rfl (hb hby d6_3) rfl ?_
  refine XS.iload X0.here hx rfl (hb hby d6_5) rfl ?_
  show AT p e below s₁ m 7 #[rv a0, iv (0 : Int32), rv a2, iv (0 : Int32), iv (2 : Int32), iv (0 : Int32), un] [(.int (2 : Int32)), (.int (0 : Int32))] _
  refine XS.icmpNo X0.here hx rfl (hb hby d6_7) rfl (XT.ii_ge_f ((by decide) : (0 : Int32) < (2 : Int32))) ?_
  show AT p e below s₁ m 10 #[rv a0, iv (0 : Int32), rv a2, iv (0 : Int32), iv (2 : Int32), iv (0 : Int32), un] [] _
  refine XS.aloadN X0.here hx rfl (hb hby d6_10) rfl rfl ?_
  refine XS.iloadN X0.here hx rfl (hb hby d6_11) rfl ?_
  refine X0.caload hx (j := (0 : Int32)) (v := (.int c0)) (by rw [e0]; exact Ar1.1) (State.isArrayOf_alike hZ.alike Ar1.2.1) Ar1.2.2 hin1 hat1 (g := (mkF m 12 #[rv a0, iv (0 : Int32), rv a2, iv (0 : Int32), iv (2 : Int32), iv (0 : Int32), un] [(.int (0 : Int32)), (.ref a0)])) rfl rfl (hb hby d6_12) _ ?_
  refine XS.istore X0.here hx rfl (hb hby d6_13) rfl (l' := #[rv a0, iv (0 : Int32), rv a2, iv (0 : Int32), iv (2 : Int32), iv (0 : Int32), iv c0]) rfl ?_
  show AT p e below s₁ m 15 #[rv a0, iv (0 : Int32), rv a2, iv (0 : Int32), iv (2 : Int32), iv (0 : Int32), iv c0] [] _
  refine XS.iload X0.here hx rfl (hb hby d6_15) rfl ?_
  refine XS.sipush X0.here hx rfl (hb hby d6_17) ?_
  show AT p e below s₁ m 20 #[rv a0, iv (0 : Int32), rv a2, iv (0 : Int32), iv (2 : Int32), iv (0 : Int32), iv c0] [(.int (255 : Int32)), (.int c0)] _
  refine XS.icmpYes X0.here hx rfl (pc0 := 20) (pc' := 26) rfl (hb hby d6_20) rfl (XT.ii_le_t (l0 : ¬ ((255 : Int32) < c0))) (by decide) (by decide) ?_
  refine XS.aloadN X0.here hx rfl (hb hby d6_26) rfl rfl ?_
  refine XS.iloadN X0.here hx rfl (hb hby d6_27) rfl ?_
  show AT p e below s₁ m 28 #[rv a0, iv (0 : Int32), rv a2, iv (0 : Int32), iv (2 : Int32), iv (0 : Int32), iv c0] [(.int (0 : Int32)), (.ref a2)] _
  refine XS.iload X0.here hx rfl (hb hby d6_28) rfl ?_
  refine XS.i2b X0.here hx rfl (hb hby d6_30) rfl ?_
  refine st2 _ ?_
  refine XS.iinc X2.here hx rfl (hb hby d6_32) rfl (l' := #[rv a0, iv (1 : Int32), rv a2, iv (0 : Int32), iv (2 : Int32), iv (0 : Int32), iv c0]) rfl ?_
  show AT p e below T2 m 35 #[rv a0, iv (1 : Int32), rv a2, iv (0 : Int32), iv (2 : Int32), iv (0 : Int32), iv c0] [] _
  refine XS.iinc X2.here hx rfl (hb hby d6_35) rfl (l' := #[rv a0, iv (1 : Int32), rv a2, iv (1 : Int32), iv (2 : Int32), iv (0 : Int32), iv c0]) rfl ?_
  refine XS.iinc X2.here hx rfl (hb hby d6_38) rfl (l' := #[rv a0, iv (1 : Int32), rv a2, iv (1 : Int32), iv (2 : Int32), iv (1 : Int32), iv c0]) rfl ?_
  refine XS.goto X2.here hx rfl (pc0 := 41) (pc' := 3) rfl (hb hby d6_41) (by decide) (by decide) ?_
  refine XS.iload X2.here hx rfl (hb hby d6_3) rfl ?_
  show AT p e below T2 m 5 #[rv a0, iv (1 : Int32), rv a2, iv (1 : Int32), iv (2 : Int32), iv (1 : Int32), iv c0] [(.int (1 : Int32))] _
  refine XS.iload X2.here hx rfl (hb hby d6_5) rfl ?_
  show AT p e below T2 m 7 #[rv a0, iv (1 : Int32), rv a2, iv (1 : Int32), iv (2 : Int32), iv (1 : Int32), iv c0] [(.int (2 : Int32)), (.int (1 : Int32))] _
  refine XS.icmpNo X2.here hx rfl (hb hby d6_7) rfl (XT.ii_ge_f ((by decide) : (1 : Int32) < (2 : Int32))) ?_
  refine XS.aloadN X2.here hx rfl (hb hby d6_10) rfl rfl ?_
  refine XS.iloadN X2.here hx rfl (hb hby d6_11) rfl ?_
  refine X2.caload hx (j := (1 : Int32)) (v := (.int c1)) (by rw [e2]; exact Ar5.1) (State.isArrayOf_alike hZ.alike Ar5.2.1) Ar5.2.2 hin5 hat5 (g := (mkF m 12 #[rv a0, iv (1 : Int32), rv a2, iv (1 : Int32), iv (2 : Int32), iv (1 : Int32), iv c0] [(.int (1 : Int32)), (.ref a0)])) rfl rfl (hb hby d6_12) _ ?_
  show AT p e below T2 m 13 #[rv a0, iv (1 : Int32), rv a2, iv (1 : Int32), iv (2 : Int32), iv (1 : Int32), iv c0] [(.int c1)] _
  refine XS.istore X2.here hx rfl (hb hby d6_13) rfl (l' := #[rv a0, iv (1 : Int32), rv a2, iv (1 : Int32), iv (2 : Int32), iv (1 : Int32), iv c1]) rfl ?_
  refine XS.iload X2.here hx rfl (hb hby d6_15) rfl ?_
  refine XS.sipush X2.here hx rfl (hb hby d6_17) ?_
  show AT p e below T2 m 20 #[rv a0, iv (1 : Int32), rv a2, iv (1 : Int32), iv (2 : Int32), iv (1 : Int32), iv c1] [(.int (255 : Int32)), (.int c1)] _
  refine XS.icmpYes X2.here hx rfl (pc0 := 20) (pc' := 26) rfl (hb hby d6_20) rfl (XT.ii_le_t (l1 : ¬ ((255 : Int32) < c1))) (by decide) (by decide) ?_
  refine XS.aloadN X2.here hx rfl (hb hby d6_26) rfl rfl ?_
  show AT p e below T2 m 27 #[rv a0, iv (1 : Int32), rv a2, iv (1 : Int32), iv (2 : Int32), iv (1 : Int32), iv c1] [(.ref a2)] _
  refine XS.iloadN X2.here hx rfl (hb hby d6_27) rfl ?_
  refine XS.iload X2.here hx rfl (hb hby d6_28) rfl ?_
  refine XS.i2b X2.here hx rfl (hb hby d6_30) rfl ?_
  refine st6 _ ?_
  show AT p e below T6 m 32 #[rv a0, iv (1 : Int32), rv a2, iv (1 : Int32), iv (2 : Int32), iv (1 : Int32), iv c1] [] _
  refine XS.iinc X6.here hx rfl (hb hby d6_32) rfl (l' := #[rv a0, iv (2 : Int32), rv a2, iv (1 : Int32), iv (2 : Int32), iv (1 : Int32), iv c1]) rfl ?_
  refine XS.iinc X6.here hx rfl (hb hby d6_35) rfl (l' := #[rv a0, iv (2 : Int32), rv a2, iv (2 : Int32), iv (2 : Int32), iv (1 : Int32), iv c1]) rfl ?_
  refine XS.iinc X6.here hx rfl (hb hby d6_38) rfl (l' := #[rv a0, iv (2 : Int32), rv a2, iv (2 : Int32), iv (2 : Int32), iv (2 : Int32), iv c1]) rfl ?_
  refine XS.goto X6.here hx rfl (pc0 := 41) (pc' := 3) rfl (hb hby d6_41) (by decide) (by decide) ?_
  show AT p e below T6 m 3 #[rv a0, iv (2 : Int32), rv a2, iv (2 : Int32), iv (2 : Int32), iv (2 : Int32), iv c1] [] _
  refine XS.iload X6.here hx rfl (hb hby d6_3) rfl ?_
  refine XS.iload X6.here hx rfl (hb hby d6_5) rfl ?_
  show AT p e below T6 m 7 #[rv a0, iv (2 : Int32), rv a2, iv (2 : Int32), iv (2 : Int32), iv (2 : Int32), iv c1] [(.int (2 : Int32)), (.int (2 : Int32))] _
  refine XS.icmpYes X6.here hx rfl (pc0 := 7) (pc' := 44) rfl (hb hby d6_7) rfl (XT.ii_ge_t ((by decide) : ¬ ((2 : Int32) < (2 : Int32)))) (by decide) (by decide) ?_
  refine XS.iload X6.here hx rfl (hb hby d6_44) rfl ?_
  exact retOut X6 hx (t := .int) (i := .ireturn) Bd.returns rfl (Or.inl ⟨rfl, Or.inl rfl, _, rfl⟩) (hb hby d6_46) hr
 ·
  show Q6 Z a0 a2 ka kb c0 c1 h0 n0 _ T6.heap _
  rw [e6]
  exact ⟨rfl, N6, K6, V6_7⟩

theorem d5_0 : decode jdk_52_method_16_code 0 = .ok (.iload_n 2, 1) := by decide +kernel
theorem d5_1 : decode jdk_52_method_16_code 1 = .ok (.newarray .byte, 2) := by decide +kernel
theorem d5_3 : decode jdk_52_method_16_code 3 = .ok (.astore_n 3, 1) := by decide +kernel
theorem d5_4 : decode jdk_52_method_16_code 4 = .ok (.aload_n 0, 1) := by decide +kernel
theorem d5_5 : decode jdk_52_method_16_code 5 = .ok (.iload_n 1, 1) := by decide +kernel
theorem d5_6 : decode jdk_52_method_16_code 6 = .ok (.aload_n 3, 1) := by decide +kernel
theorem d5_7 : decode jdk_52_method_16_code 7 = .ok (.iconst 0, 1) := by decide +kernel
theorem d5_8 : decode jdk_52_method_16_code 8 = .ok (.iload_n 2, 1) := by decide +kernel
theorem d5_9 : decode jdk_52_method_16_code 9 = .ok (.invokestatic 115, 3) := by decide +kernel
theorem d5_12 : decode jdk_52_method_16_code 12 = .ok (.istore 4, 2) := by decide +kernel
theorem d5_14 : decode jdk_52_method_16_code 14 = .ok (.iload 4, 2) := by decide +kernel
theorem d5_16 : decode jdk_52_method_16_code 16 = .ok (.iload_n 2, 1) := by decide +kernel
theorem d5_17 : decode jdk_52_method_16_code 17 = .ok (.if_icmp .eq 40, 3) := by decide +kernel
theorem d5_57 : decode jdk_52_method_16_code 57 = .ok (.aload_n 3, 1) := by decide +kernel
theorem d5_58 : decode jdk_52_method_16_code 58 = .ok (.areturn, 1) := by decide +kernel
theorem ef_5 (m : MethodId) (a0 : Addr) : entryFrame m #[(.ref a0), (.int (0 : Int32)), (.int (2 : Int32))] 6 = mkF m 0 #[rv a0, iv (0 : Int32), iv (2 : Int32), un, un, un] [] := by first | (simp [entryFrame, mkF, argsToLocals, Value.category]; done) | rfl
def Q5 (Z : State) (a0 : Addr) (ka : ClassId) (c0 : Int32) (c1 : Int32) (h0 : Heap) (n0 : Nat) (v : Option Value) (h : Heap) (L : List Loc) : Prop := ∃ (b : Addr) (kb : ClassId), v = some (.ref b) ∧ Fr n0 L ∧ Keep h0 h [] ∧ Arv Z h b kb .byte (2 : Int32) [(.int (nar .byte (c0.toInt8.toInt32))), (.int (nar .byte (c1.toInt8.toInt32)))] (.int (0 : Int32)) ∧ h0.size ≤ b ∧ Exa Z h b "[B"
set_option maxRecDepth 65536 in
set_option maxHeartbeats 40000000 in
theorem rm5 (l : Launch) (Z : State) (ar : Array Value) (hw : ∀ d ∈ tables_1, d.before ar Z = true) (ws : List Jvm.Cond) (a0 : Addr) (ka : ClassId) (c0 : Int32) (c1 : Int32) (h0 : Heap) (n0 : Nat) (O0 : Old Z n0 h0) (pf0 : Arv Z h0 a0 ka .char (2 : Int32) [(.int c0), (.int c1)] (.int (0 : Int32))) (l0 : ¬ (255 : Int32) < c0) (l1 : ¬ (255 : Int32) < c1) :
    MetFree l y5 (head1 (Jvm.Cond.code y5 jdk_52_method_16_code 6 (some (.array .byte)) :: ws) ({ frames := 1, cells := 1, slots := 2, locals := 18 } : Room)) (fun a U => a = #[(.ref a0), (.int (0 : Int32)), (.int (2 : Int32))] ∧ Z.Warmed39 U.vm ∧ U.heap = h0) (fun _ _ _ _ _ => True) (fun _ U o U' => ∃ v L, o = .returned v ∧ Q5 Z a0 ka c0 c1 h0 n0 v U'.heap L ∧ FrameEnd U o U' L ({ frames := 1, cells := 1, slots := 2, locals := 18 } : Room).cells ({ frames := 1, cells := 1, slots := 2, locals := 18 } : Room).slots) := by
 refine MetFree.of_bodySF (plainFor_of_name pn_0) hisR ?_
 intro p e s m args below meth c s₁ Bd hml0 hP hK
 obtain ⟨rfl, hZ, hh⟩ := hP
 have hx := Bd.exec
 have hby := Bd.bytes
 have hml : c.maxLocals = 6 := hml0
 have hown : s.vm.findClass "java/lang/StringUTF16" = some m.cls := findClass_of_methodNamed Bd.named
 have hnm := (name_of_methodNamed Bd.named Bd.method).1
 have hlk : meth.locks = false := by first | assumption | exact BodyLoose.notSynchronized (by assumption) | exact Body.notSynchronized (by assumption)
 have X0 : Stand p l e ({ frames := 1, cells := 1, slots := 2, locals := 18 } : Room) s m #[(.ref a0), (.int (0 : Int32)), (.int (2 : Int32))] below meth c s₁ [] 0 0 := Stand.of_body Bd
 have e0 : s₁.heap = h0 := by rw [← hh, Bd.state]; rfl
 have N0 := Fr.nil n0
 have Z0 : n0 ≤ h0.size := Nat.le_trans (Nat.le_of_eq O0.1.symm) O0.2.1
 obtain ⟨S0, hS0⟩ : ∃ z, z = s₁.setTop (entryFrame m #[(.ref a0), (.int (0 : Int32)), (.int (2 : Int32))] 6) := ⟨_, rfl⟩
 have pre0 : ∀ tg, AT p e below s₁ m 0 #[rv a0, iv (0 : Int32), iv (2 : Int32), un, un, un] [] tg → Steps p.tables e below S0 tg := fun tg kg => by rw [hS0]; exact castTop (ef_5 m a0) kg
 obtain ⟨T1, h1, k1, X1, e1, E1, A1, B1, st1⟩ := newPE X0 hx hZ (ow hw 26 rfl) e0 (g := (mkF m 1 #[rv a0, iv (0 : Int32), iv (2 : Int32), un, un, un] [(.int (2 : Int32))])) rfl (hb hby d5_1) rfl (by decide) (cap := 2) (by decide) (by decide) (by decide) (by decide) (ad := "[B") (by decide)
 obtain ⟨b1, g1⟩ : ∃ z, z = h0.size := ⟨_, rfl⟩
 rw [← g1] at A1 B1 st1
 have ne1_2 : a0 ≠ b1 := Nat.ne_of_lt (Nat.lt_of_lt_of_le (pf0).lt (Nat.le_of_eq g1.symm))
 have gn1 : n0 ≤ b1 := Nat.le_trans (Nat.le_trans (Nat.le_of_eq O0.1.symm) O0.2.1) (Nat.le_of_eq g1.symm)
 have sz1 : h0.size ≤ b1 := Nat.le_trans (Keep.refl h0 []).1 (Nat.le_of_eq g1.symm)
 have V1_3 := pf0.ext E1
 have K1 := (Keep.refl h0 []).ext E1
 have O1 := O0.ext E1
 have V1_4 : Arv Z h1 b1 k1 .byte (2 : Int32) [(.int (0 : Int32)), (.int (0 : Int32))] (.int (0 : Int32)) := (Arv.new A1 (by decide)).pad (pad_rep [] (.int (0 : Int32)) 2)
 obtain ⟨_, _, ⟨T5, L5, k5, n5⟩, -, X5, ⟨Lc5, hQ5, l5, y5, z5⟩, st5⟩ := Jvm.LawKit.callS X1 hx (y := y6) hown (mvT hZ (ow hw 27 rfl)) (mvT hZ (ow hw 28 rfl)) (mvT hZ (ow hw 24 rfl)) (mvT hZ (ow hw 29 rfl)) (by decide) (backOf (W := 0) (rm6 l Z ar hw [] a0 b1 ka k1 c0 c1 h1 n0 O1 V1_3 V1_4 gn1 ne1_2 l0 l1) hZ (ow hw 29 rfl) (ow hw 24 rfl) (by decide) (by decide)) (g := (mkF m 9 #[rv a0, iv (0 : Int32), iv (2 : Int32), rv b1, un, un] [(.int (2 : Int32)), (.int (0 : Int32)), (.ref b1), (.int (0 : Int32)), (.ref a0)])) rfl (by rw [hml]; rfl) (argsL := [(.ref a0), (.int (0 : Int32)), (.ref b1), (.int (0 : Int32)), (.int (2 : Int32))]) (rest := []) (lenOf pd_0 rfl) rfl (by show 2 * 0 + _ ≤ _; exact Nat.le_of_eq rfl) (hb hby d5_9) (fun _ _ => ⟨rfl, e1, (by decide : 1 + 0 ≤ _), (by decide : 2 + 0 ≤ _)⟩)
 dsimp only [Pt.U, Pt.locs, Pt.cells, Pt.slots] at X5 l5 y5 z5 st5 hQ5
 subst l5 y5 z5
 obtain ⟨rfl, N5q, Kq5, u5_0⟩ := hQ5
 have N5 := Fr.app N0 N5q
 have V5_6 := V1_3.keep Kq5 (ninS ne1_2 nin0)
 have E5_7 := B1.keep Kq5
 have K5 := K1.trans Kq5 (allS (Or.inr sz1) all0)
 have O5 := O1.keep Kq5 (allS gn1 all0)
 clear V1_3
 obtain ⟨fs, hr, hrun, hended, hW, hsame⟩ := X5.leave (v := some (.ref b1)) (fun h => by rw [Bd.returns] at h; cases h) hlk
 subst hS0
 refine ⟨_, _, pre0 _ ?_, hrun, hended, _, _, rfl, ?_, ⟨_, rfl⟩, hW, hsame.mono (by decide) (by decide)⟩
 ·
  refine XS.iloadN X0.here hx rfl (hb hby d5_0) rfl ?_
  refine st1 _ ?_
  refine XS.astoreN X1.here hx rfl (hb hby d5_3) rfl rfl (l' := #[rv a0, iv (0 : Int32), iv (2 : Int32), rv b1, un, un]) rfl ?_
  refine XS.aloadN X1.here hx rfl (hb hby d5_4) rfl rfl ?_
  show AT p e below T1 m 5 #[rv a0, iv (0 : Int32), iv (2 : Int32), rv b1, un, un] [(.ref a0)] _
  refine XS.iloadN X1.here hx rfl (hb hby d5_5) rfl ?_
  refine XS.aloadN X1.here hx rfl (hb hby d5_6) rfl rfl ?_
  refine XS.iconst X1.here hx rfl (hb hby d5_7) ?_
  refine XS.iloadN X1.here hx rfl (hb hby d5_8) rfl ?_
  show AT p e below T1 m 9 #[rv a0, iv (0 : Int32), iv (2 : Int32), rv b1, un, un] [(.int (2 : Int32)), (.int (0 : Int32)), (.ref b1), (.int (0 : Int32)), (.ref a0)] _
  refine st5 _ ?_
  refine XS.istore X5.here hx rfl (hb hby d5_12) rfl (l' := #[rv a0, iv (0 : Int32), iv (2 : Int32), rv b1, iv (2 : Int32), un]) rfl ?_
  refine XS.iload X5.here hx rfl (hb hby d5_14) rfl ?_
  refine XS.iloadN X5.here hx rfl (hb hby d5_16) rfl ?_
  show AT p e below T5 m 17 #[rv a0, iv (0 : Int32), iv (2 : Int32), rv b1, iv (2 : Int32), un] [(.int (2 : Int32)), (.int (2 : Int32))] _
  refine XS.icmpYes X5.here hx rfl (pc0 := 17) (pc' := 57) rfl (hb hby d5_17) rfl (XT.ii_eq_t ((by decide) : (2 : Int32) = (2 : Int32))) (by decide) (by decide) ?_
  show AT p e below T5 m 57 #[rv a0, iv (0 : Int32), iv (2 : Int32), rv b1, iv (2 : Int32), un] [] _
  refine XS.aloadN X5.here hx rfl (hb hby d5_57) rfl rfl ?_
  exact retOut X5 hx (t := (.array .byte)) (i := .areturn) Bd.returns rfl (Or.inr (Or.inr (Or.inr (Or.inr ⟨rfl, rfl, rfl⟩)))) (hb hby d5_58) hr
 ·
  show Q5 Z a0 ka c0 c1 h0 n0 _ T5.heap _
  exact ⟨b1, k1, rfl, N5, K5, u5_0, sz1, E5_7⟩

theorem d7_0 : decode jdk_52_method_15_code 0 = .ok (.iload_n 1, 1) := by decide +kernel
theorem d7_1 : decode jdk_52_method_15_code 1 = .ok (.aload_n 0, 1) := by decide +kernel
theorem d7_2 : decode jdk_52_method_15_code 2 = .ok (.arraylength, 1) := by decide +kernel
theorem d7_3 : decode jdk_52_method_15_code 3 = .ok (.isub, 1) := by decide +kernel
theorem d7_4 : decode jdk_52_method_15_code 4 = .ok (.bipush 31, 2) := by decide +kernel
theorem d7_6 : decode jdk_52_method_15_code 6 = .ok (.iushr, 1) := by decide +kernel
theorem d7_7 : decode jdk_52_method_15_code 7 = .ok (.i2b, 1) := by decide +kernel
theorem d7_8 : decode jdk_52_method_15_code 8 = .ok (.ireturn, 1) := by decide +kernel
theorem ef_7 (m : MethodId) (a0 : Addr) : entryFrame m #[(.ref a0), (.int (2 : Int32))] 2 = mkF m 0 #[rv a0, iv (2 : Int32)] [] := by first | (simp [entryFrame, mkF, argsToLocals, Value.category]; done) | rfl
def Q7 (Z : State) (a0 : Addr) (ka : ClassId) (x0 : Int32) (x1 : Int32) (h0 : Heap) (n0 : Nat) (v : Option Value) (h : Heap) (L : List Loc) : Prop := v = some (.int (0 : Int32)) ∧ Fr n0 L ∧ h = h0
set_option maxRecDepth 65536 in
set_option maxHeartbeats 40000000 in
theorem rm7 (l : Launch) (Z : State) (ar : Array Value) (hw : ∀ d ∈ tables_1, d.before ar Z = true) (ws : List Jvm.Cond) (a0 : Addr) (ka : ClassId) (x0 : Int32) (x1 : Int32) (h0 : Heap) (n0 : Nat) (O0 : Old Z n0 h0) (pf0 : Arv Z h0 a0 ka .byte (2 : Int32) [(.int x0), (.int x1)] (.int (0 : Int32))) :
    MetFree l y7 (head1 (Jvm.Cond.code y7 jdk_52_method_15_code 2 (some .byte) :: ws) ({ frames := 0, cells := 0, slots := 0, locals := 0 } : Room)) (fun a U => a = #[(.ref a0), (.int (2 : Int32))] ∧ Z.Warmed39 U.vm ∧ U.heap = h0) (fun _ _ _ _ _ => True) (fun _ U o U' => ∃ v L, o = .returned v ∧ Q7 Z a0 ka x0 x1 h0 n0 v U'.heap L ∧ FrameEnd U o U' L ({ frames := 0, cells := 0, slots := 0, locals := 0 } : Room).cells ({ frames := 0, cells := 0, slots := 0, locals := 0 } : Room).slots) := by
 refine MetFree.of_bodySF (plainFor_of_name pn_0) hisR ?_
 intro p e s m args below meth c s₁ Bd hml0 hP hK
 obtain ⟨rfl, hZ, hh⟩ := hP
 have hx := Bd.exec
 have hby := Bd.bytes
 have hml : c.maxLocals = 2 := hml0
 have hown : s.vm.findClass "java/lang/StringUTF16" = some m.cls := findClass_of_methodNamed Bd.named
 have hnm := (name_of_methodNamed Bd.named Bd.method).1
 have hlk : meth.locks = false := by first | assumption | exact BodyLoose.notSynchronized (by assumption) | exact Body.notSynchronized (by assumption)
 have X0 : Stand p l e ({ frames := 0, cells := 0, slots := 0, locals := 0 } : Room) s m #[(.ref a0), (.int (2 : Int32))] below meth c s₁ [] 0 0 := Stand.of_body Bd
 have e0 : s₁.heap = h0 := by rw [← hh, Bd.state]; rfl
 have N0 := Fr.nil n0
 have Z0 : n0 ≤ h0.size := Nat.le_trans (Nat.le_of_eq O0.1.symm) O0.2.1
 obtain ⟨S0, hS0⟩ : ∃ z, z = s₁.setTop (entryFrame m #[(.ref a0), (.int (2 : Int32))] 2) := ⟨_, rfl⟩
 have pre0 : ∀ tg, AT p e below s₁ m 0 #[rv a0, iv (2 : Int32)] [] tg → Steps p.tables e below S0 tg := fun tg kg => by rw [hS0]; exact castTop (ef_7 m a0) kg
 obtain ⟨cl1, Ar1, q1, S1, N1, H1, G1⟩ := id pf0
 obtain ⟨fs, hr, hrun, hended, hW, hsame⟩ := X0.leave (v := some (.int (0 : Int32))) (fun h => by rw [Bd.returns] at h; cases h) hlk
 subst hS0
 refine ⟨_, _, pre0 _ ?_, hrun, hended, _, _, rfl, ?_, ⟨_, rfl⟩, hW, hsame.mono (by decide) (by decide)⟩
 ·
  refine XS.iloadN X0.here hx rfl (hb hby d7_0) rfl ?_
  refine XS.aloadN X0.here hx rfl (hb hby d7_1) rfl rfl ?_
  refine X0.arraylength hx (by rw [e0]; exact Ar1.1) (State.isArrayOf_alike hZ.alike Ar1.2.1) (g := (mkF m 2 #[rv a0, iv (2 : Int32)] [(.ref a0), (.int (2 : Int32))])) rfl rfl (hb hby d7_2) _ ?_
  rw [len_of S1 N1]
  refine XS.isub X0.here hx rfl (hb hby d7_3) rfl ?_
  show AT p e below s₁ m 4 #[rv a0, iv (2 : Int32)] [(.int (0 : Int32))] _
  refine XS.bipush X0.here hx rfl (hb hby d7_4) ?_
  refine XS.iushr X0.here hx rfl (hb hby d7_6) rfl ?_
  refine XS.i2b X0.here hx rfl (hb hby d7_7) rfl ?_
  exact retN X0 hx (t := .byte) Bd.returns (by simp) (hb hby d7_8) hr
 ·
  show Q7 Z a0 ka x0 x1 h0 n0 _ s₁.heap _
  rw [e0]
  exact ⟨rfl, N0, rfl⟩

theorem d3_0 : decode jdk_42_method_149_code 0 = .ok (.aload_n 0, 1) := by decide +kernel
theorem d3_1 : decode jdk_42_method_149_code 1 = .ok (.invokespecial 1, 3) := by decide +kernel
theorem d3_4 : decode jdk_42_method_149_code 4 = .ok (.iload_n 3, 1) := by decide +kernel
theorem d3_5 : decode jdk_42_method_149_code 5 = .ok (.ifCond .ne 22, 3) := by decide +kernel
theorem d3_27 : decode jdk_42_method_149_code 27 = .ok (.getstatic 38, 3) := by decide +kernel
theorem d3_30 : decode jdk_42_method_149_code 30 = .ok (.ifCond .eq 28, 3) := by decide +kernel
theorem d3_33 : decode jdk_42_method_149_code 33 = .ok (.aload_n 1, 1) := by decide +kernel
theorem d3_34 : decode jdk_42_method_149_code 34 = .ok (.iload_n 2, 1) := by decide +kernel
theorem d3_35 : decode jdk_42_method_149_code 35 = .ok (.iload_n 3, 1) := by decide +kernel
theorem d3_36 : decode jdk_42_method_149_code 36 = .ok (.invokestatic 177, 3) := by decide +kernel
theorem d3_39 : decode jdk_42_method_149_code 39 = .ok (.astore 5, 2) := by decide +kernel
theorem d3_41 : decode jdk_42_method_149_code 41 = .ok (.aload_n 0, 1) := by decide +kernel
theorem d3_42 : decode jdk_42_method_149_code 42 = .ok (.aload 5, 2) := by decide +kernel
theorem d3_44 : decode jdk_42_method_149_code 44 = .ok (.iload_n 3, 1) := by decide +kernel
theorem d3_45 : decode jdk_42_method_149_code 45 = .ok (.invokestatic 47, 3) := by decide +kernel
theorem d3_48 : decode jdk_42_method_149_code 48 = .ok (.putfield 15, 3) := by decide +kernel
theorem d3_51 : decode jdk_42_method_149_code 51 = .ok (.aload_n 0, 1) := by decide +kernel
theorem d3_52 : decode jdk_42_method_149_code 52 = .ok (.aload 5, 2) := by decide +kernel
theorem d3_54 : decode jdk_42_method_149_code 54 = .ok (.putfield 9, 3) := by decide +kernel
theorem d3_57 : decode jdk_42_method_149_code 57 = .ok (.return_, 1) := by decide +kernel
theorem ef_3 (m : MethodId) (a0 : Addr) (a1 : Addr) : entryFrame m #[(.ref a0), (.ref a1), (.int (0 : Int32)), (.int (2 : Int32)), .null] 6 = mkF m 0 #[rv a0, rv a1, iv (0 : Int32), iv (2 : Int32), .val .null, un] [] := by first | (simp [entryFrame, mkF, argsToLocals, Value.category]; done) | rfl
def Q3 (Z : State) (a0 : Addr) (a1 : Addr) (w_CS0 : Int32) (w_SF1 : Value) (ka : ClassId) (c0 : Int32) (c1 : Int32) (h0 : Heap) (n0 : Nat) (v : Option Value) (h : Heap) (L : List Loc) : Prop := ∃ (b : Addr) (kb : ClassId), v = none ∧ Fr n0 L ∧ Keep h0 h [a0] ∧ Exa Z h a0 "java/lang/String" ∧ Fld Z h a0 "java/lang/String" "coder" "B" (.int (0 : Int32)) ∧ Fld Z h a0 "java/lang/String" "value" "[B" (.ref b) ∧ Arv Z h b kb .byte (2 : Int32) [(.int (nar .byte (c0.toInt8.toInt32))), (.int (nar .byte (c1.toInt8.toInt32)))] (.int (0 : Int32)) ∧ h0.size ≤ b ∧ Exa Z h b "[B" ∧ a0 ≠ b
set_option maxRecDepth 65536 in
set_option maxHeartbeats 40000000 in
theorem rm3 (l : Launch) (Z : State) (ar : Array Value) (hw : ∀ d ∈ tables_1, d.before ar Z = true) (ws : List Jvm.Cond) (a0 : Addr) (a1 : Addr) (w_CS0 : Int32) (w_SF1 : Value) (ka : ClassId) (c0 : Int32) (c1 : Int32) (h0 : Heap) (n0 : Nat) (O0 : Old Z n0 h0) (HW : Wd Z w_CS0 w_SF1) (pf0 : Exa Z h0 a0 "java/lang/String") (pf1 : Fld Z h0 a0 "java/lang/String" "value" "[B" .null) (pf2 : Fld Z h0 a0 "java/lang/String" "coder" "B" (.int (0 : Int32))) (pf3 : n0 ≤ a0) (pf4 : Arv Z h0 a1 ka .char (2 : Int32) [(.int c0), (.int c1)] (.int (0 : Int32))) (pf5 : a0 ≠ a1) (l0 : ¬ (255 : Int32) < c0) (l1 : ¬ (255 : Int32) < c1) :
    MetFree l y3 (head1 (Jvm.Cond.code y3 jdk_42_method_149_code 6 none :: ws) ({ frames := 2, cells := 1, slots := 2, locals := 35 } : Room)) (fun a U => a = #[(.ref a0), (.ref a1), (.int (0 : Int32)), (.int (2 : Int32)), .null] ∧ Z.Warmed39 U.vm ∧ U.heap = h0) (fun _ _ _ _ _ => True) (fun _ U o U' => ∃ v L, o = .returned v ∧ Q3 Z a0 a1 w_CS0 w_SF1 ka c0 c1 h0 n0 v U'.heap L ∧ FrameEnd U o U' L ({ frames := 2, cells := 1, slots := 2, locals := 35 } : Room).cells ({ frames := 2, cells := 1, slots := 2, locals := 35 } : Room).slots) := by
 refine MetFree.of_bodySF (plainFor_of_name pn_1) hisR ?_
 intro p e s m args below meth c s₁ Bd hml0 hP hK
 obtain ⟨rfl, hZ, hh⟩ := hP
 have hx := Bd.exec
 have hby := Bd.bytes
 have hml : c.maxLocals = 6 := hml0
 have hown : s.vm.findClass "java/lang/String" = some m.cls := findClass_of_methodNamed Bd.named
 have hnm := (name_of_methodNamed Bd.named Bd.method).1
 have hlk : meth.locks = false := by first | assumption | exact BodyLoose.notSynchronized (by assumption) | exact Body.notSynchronized (by assumption)
 have X0 : Stand p l e ({ frames := 2, cells := 1, slots := 2, locals := 35 } : Room) s m #[(.ref a0), (.ref a1), (.int (0 : Int32)), (.int (2 : Int32)), .null] below meth c s₁ [] 0 0 := Stand.of_body Bd
 have e0 : s₁.heap = h0 := by rw [← hh, Bd.state]; rfl
 have N0 := Fr.nil n0
 have Z0 : n0 ≤ h0.size := Nat.le_trans (Nat.le_of_eq O0.1.symm) O0.2.1
 obtain ⟨S0, hS0⟩ : ∃ z, z = s₁.setTop (entryFrame m #[(.ref a0), (.ref a1), (.int (0 : Int32)), (.int (2 : Int32)), .null] 6) := ⟨_, rfl⟩
 have pre0 : ∀ tg, AT p e below s₁ m 0 #[rv a0, rv a1, iv (0 : Int32), iv (2 : Int32), .val .null, un] [] tg → Steps p.tables e below S0 tg := fun tg kg => by rw [hS0]; exact castTop (ef_3 m a0 a1) kg
 obtain ⟨S_COMPACT_STRINGS, hz_w_CS0, S_SIOOBE_FORMATTER, ir_w_SF1⟩ := id HW
 obtain ⟨T1, X1, e1, st1⟩ := initO X0 hx hZ hown (ow hw 18 rfl) (ow hw 19 rfl) (ow hw 20 rfl) e0 (g := (mkF m 1 #[rv a0, rv a1, iv (0 : Int32), iv (2 : Int32), .val .null, un] [(.ref a0)])) rfl (by rw [hml]; rfl) rfl (hb hby d3_1) (by decide) (W := 0) (by show 2 * 0 + _ ≤ _; exact Nat.le_of_eq rfl) (by decide)
 obtain ⟨T2, X2, e2, st2⟩ := getS2 X1 hx hZ hown (host := "") (Or.inl (ow hw 21 rfl)) Via.refl e1 (S_COMPACT_STRINGS.ext O0.2) (g := (mkF m 27 #[rv a0, rv a1, iv (0 : Int32), iv (2 : Int32), .val .null, un] [])) rfl (hb hby d3_27)
 obtain ⟨_, _, ⟨T3, L3, k3, n3⟩, -, X3, ⟨Lc3, hQ3, l3, y3, z3⟩, st3⟩ := Jvm.LawKit.callS X2 hx (y := y5) hown (mvT hZ (ow hw 22 rfl)) (mvT hZ (ow hw 23 rfl)) (mvT hZ (ow hw 24 rfl)) (mvT hZ (ow hw 25 rfl)) (by decide) (backOf (W := 0) (rm5 l Z ar hw [] a1 ka c0 c1 h0 n0 O0 pf4 l0 l1) hZ (ow hw 25 rfl) (ow hw 24 rfl) (by decide) (by decide)) (g := (mkF m 36 #[rv a0, rv a1, iv (0 : Int32), iv (2 : Int32), .val .null, un] [(.int (2 : Int32)), (.int (0 : Int32)), (.ref a1)])) rfl (by rw [hml]; rfl) (argsL := [(.ref a1), (.int (0 : Int32)), (.int (2 : Int32))]) (rest := []) (lenOf pd_1 rfl) rfl (by show 2 * 0 + _ ≤ _; exact Nat.le_of_eq rfl) (hb hby d3_36) (fun _ _ => ⟨rfl, e2, (by decide : 0 + 1 ≤ _), (by decide : 0 + 2 ≤ _)⟩)
 dsimp only [Pt.U, Pt.locs, Pt.cells, Pt.slots] at X3 l3 y3 z3 st3 hQ3
 subst l3 y3 z3
 obtain ⟨b_3, kb_3, rfl, N3q, Kq3, u3_0, u3_1, u3_2⟩ := hQ3
 have N3 := Fr.app N0 N3q
 have E3_4 := pf0.keep Kq3
 have F3_5 := pf1.keep Kq3 nin0
 have F3_6 := pf2.keep Kq3 nin0
 have V3_7 := pf4.keep Kq3 nin0
 have K3 := (Keep.refl h0 [a0]).trans Kq3 all0
 have O3 := O0.keep Kq3 all0
 have sz8 : h0.size ≤ b_3 := Nat.le_trans (Keep.refl h0 [a0]).1 u3_1
 have gn8 : n0 ≤ b_3 := Nat.le_trans (Nat.le_trans (Nat.le_of_eq O0.1.symm) O0.2.1) u3_1
 have ne9 : a0 ≠ b_3 := Nat.ne_of_lt (Nat.lt_of_lt_of_le (pf0).lt u3_1)
 have ne10 : a1 ≠ b_3 := Nat.ne_of_lt (Nat.lt_of_lt_of_le (pf4).lt u3_1)
 obtain ⟨_, _, ⟨T11, L11, k11, n11⟩, -, X11, ⟨Lc11, hQ11, l11, y11, z11⟩, st11⟩ := Jvm.LawKit.callS X3 hx (y := y7) hown (mvT hZ (ow hw 30 rfl)) (mvT hZ (ow hw 31 rfl)) (mvT hZ (ow hw 24 rfl)) (mvT hZ (ow hw 32 rfl)) (by decide) (backOf (W := 1) (rm7 l Z ar hw [] b_3 kb_3 (nar .byte (c0.toInt8.toInt32)) (nar .byte (c1.toInt8.toInt32)) T3.heap n0 O3 u3_0) hZ (ow hw 32 rfl) (ow hw 24 rfl) (by decide) (by decide)) (g := (mkF m 45 #[rv a0, rv a1, iv (0 : Int32), iv (2 : Int32), .val .null, rv b_3] [(.int (2 : Int32)), (.ref b_3), (.ref a0)])) rfl (by rw [hml]; rfl) (argsL := [(.ref b_3), (.int (2 : Int32))]) (rest := [(.ref a0)]) (lenOf pd_2 rfl) rfl (by show 2 * 0 + _ ≤ _; exact Nat.le_of_eq rfl) (hb hby d3_45) (fun _ _ => ⟨rfl, rfl, (by decide : 1 + 0 ≤ _), (by decide : 2 + 0 ≤ _)⟩)
 dsimp only [Pt.U, Pt.locs, Pt.cells, Pt.slots] at X11 l11 y11 z11 st11 hQ11
 subst l11 y11 z11
 obtain ⟨rfl, N11q, e11⟩ := hQ11
 have N11 := Fr.app N3 N11q
 obtain ⟨T12, h12, X12, e12, W12, st12⟩ := putFN X11 hx hZ hown (ow hw 33 rfl) Via.refl e11 F3_6 E3_4 (Or.inr ⟨(ow hw 34 rfl), rfl, hnm⟩) (ow hw 9 rfl) (ty := .byte) (v' := (.int (0 : Int32))) (by decide) rfl rfl (g := (mkF m 48 #[rv a0, rv a1, iv (0 : Int32), iv (2 : Int32), .val .null, rv b_3] [(.int (0 : Int32)), (.ref a0)])) rfl rfl (hb hby d3_48)
 have E12_13 := E3_4.wr W12
 have F12_14 := F3_5.other W12 (Or.inr (slot_ne (Or.inr (ow hw 36 rfl)) (Or.inr (ow hw 34 rfl)) (by decide) (t := (.array .byte)) (t' := .byte) (by decide) (by decide)))
 have F12_15 : Fld Z h12 a0 "java/lang/String" "coder" "B" (.int (0 : Int32)) := F3_6.same W12
 have V12_16 := V3_7.other W12 (Ne.symm pf5)
 have V12_17 := u3_0.other W12 (Ne.symm ne9)
 have E12_18 := u3_2.wr W12
 have K12 := K3.wr W12 (Or.inl (List.mem_of_getElem? (i := 0) rfl))
 have O12 := O3.wr W12 pf3
 have N12 := Fr.snoc X12 N11 pf3
 obtain ⟨T19, h19, X19, e19, W19, st19⟩ := putF X12 hx hZ hown (host := "") (Or.inl (ow hw 35 rfl)) Via.refl e12 F12_14 E12_13 (Or.inr ⟨(ow hw 36 rfl), rfl, hnm⟩) (ow hw 9 rfl) (ty := (.array .byte)) (by decide) rfl rfl (g := (mkF m 54 #[rv a0, rv a1, iv (0 : Int32), iv (2 : Int32), .val .null, rv b_3] [(.ref b_3), (.ref a0)])) rfl rfl (hb hby d3_54)
 have E19_20 := E12_13.wr W19
 have F19_21 : Fld Z h19 a0 "java/lang/String" "value" "[B" (.ref b_3) := F12_14.same W19
 have F19_22 := F12_15.other W19 (Or.inr (slot_ne (Or.inr (ow hw 34 rfl)) (Or.inr (ow hw 36 rfl)) (by decide) (t := .byte) (t' := (.array .byte)) (by decide) (by decide)))
 have V19_23 := V12_16.other W19 (Ne.symm pf5)
 have V19_24 := V12_17.other W19 (Ne.symm ne9)
 have E19_25 := E12_18.wr W19
 have K19 := K12.wr W19 (Or.inl (List.mem_of_getElem? (i := 0) rfl))
 have O19 := O12.wr W19 pf3
 have N19 := Fr.snoc X19 N12 pf3
 clear E3_4 F3_5 F3_6 V3_7 E12_13 F12_14 F12_15 V12_16 V12_17 E12_18
 obtain ⟨fs, hr, hrun, hended, hW, hsame⟩ := X19.leave (v := none) (fun _ => rfl) hlk
 subst hS0
 refine ⟨_, _, pre0 _ ?_, hrun, hended, _, _, rfl, ?_, ⟨_, rfl⟩, hW, hsame.mono (by decide) (by decide)⟩
 ·
  refine XS.aloadN X0.here hx rfl (hb hby d3_0) rfl rfl ?_
  refine st1 _ ?_
  refine XS.iloadN X1.here hx rfl (hb hby d3_4) rfl ?_
  show AT p e below T1 m 5 #[rv a0, rv a1, iv (0 : Int32), iv (2 : Int32), .val .null, un] [(.int (2 : Int32))] _
  refine XS.ifYes X1.here hx rfl (pc0 := 5) (pc' := 27) rfl (hb hby d3_5) rfl (XT.i0_ne_t ((by decide) : ¬ ((2 : Int32) = (0 : Int32)))) (by decide) (by decide) ?_
  refine st2 _ ?_
  show AT p e below T2 m 30 #[rv a0, rv a1, iv (0 : Int32), iv (2 : Int32), .val .null, un] [(.int w_CS0)] _
  refine XS.ifNo X2.here hx rfl (hb hby d3_30) rfl (XT.i0_eq_f (hz_w_CS0 : ¬ (w_CS0 = (0 : Int32)))) ?_
  show AT p e below T2 m 33 #[rv a0, rv a1, iv (0 : Int32), iv (2 : Int32), .val .null, un] [] _
  refine XS.aloadN X2.here hx rfl (hb hby d3_33) rfl rfl ?_
  refine XS.iloadN X2.here hx rfl (hb hby d3_34) rfl ?_
  refine XS.iloadN X2.here hx rfl (hb hby d3_35) rfl ?_
  refine st3 _ ?_
  show AT p e below T3 m 39 #[rv a0, rv a1, iv (0 : Int32), iv (2 : Int32), .val .null, un] [(.ref b_3)] _
  refine XS.astore X3.here hx rfl (hb hby d3_39) rfl rfl (l' := #[rv a0, rv a1, iv (0 : Int32), iv (2 : Int32), .val .null, rv b_3]) rfl ?_
  refine XS.aloadN X3.here hx rfl (hb hby d3_41) rfl rfl ?_
  refine XS.aload X3.here hx rfl (hb hby d3_42) rfl rfl ?_
  refine XS.iloadN X3.here hx rfl (hb hby d3_44) rfl ?_
  show AT p e below T3 m 45 #[rv a0, rv a1, iv (0 : Int32), iv (2 : Int32), .val .null, rv b_3] [(.int (2 : Int32)), (.ref b_3), (.ref a0)] _
  refine st11 _ ?_
  refine st12 _ ?_
  refine XS.aloadN X12.here hx rfl (hb hby d3_51) rfl rfl ?_
  refine XS.aload X12.here hx rfl (hb hby d3_52) rfl rfl ?_
  show AT p e below T12 m 54 #[rv a0, rv a1, iv (0 : Int32), iv (2 : Int32), .val .null, rv b_3] [(.ref b_3), (.ref a0)] _
  refine st19 _ ?_
  exact X19.returnOut hx Bd.returns (hb hby d3_57) hr
 ·
  show Q3 Z a0 a1 w_CS0 w_SF1 ka c0 c1 h0 n0 _ T19.heap _
  rw [e19]
  exact ⟨b_3, kb_3, rfl, N19, K19, E19_20, F19_22, F19_21, V19_24, sz8, E19_25, ne9⟩

theorem d2_0 : decode jdk_42_method_3_code 0 = .ok (.aload_n 0, 1) := by decide +kernel
theorem d2_1 : decode jdk_42_method_3_code 1 = .ok (.aload_n 1, 1) := by decide +kernel
theorem d2_2 : decode jdk_42_method_3_code 2 = .ok (.iconst 0, 1) := by decide +kernel
theorem d2_3 : decode jdk_42_method_3_code 3 = .ok (.aload_n 1, 1) := by decide +kernel
theorem d2_4 : decode jdk_42_method_3_code 4 = .ok (.arraylength, 1) := by decide +kernel
theorem d2_5 : decode jdk_42_method_3_code 5 = .ok (.aconst_null, 1) := by decide +kernel
theorem d2_6 : decode jdk_42_method_3_code 6 = .ok (.invokespecial 27, 3) := by decide +kernel
theorem d2_9 : decode jdk_42_method_3_code 9 = .ok (.return_, 1) := by decide +kernel
theorem ef_2 (m : MethodId) (a0 : Addr) (a1 : Addr) : entryFrame m #[(.ref a0), (.ref a1)] 2 = mkF m 0 #[rv a0, rv a1] [] := by first | (simp [entryFrame, mkF, argsToLocals, Value.category]; done) | rfl
def Q2 (Z : State) (a0 : Addr) (a1 : Addr) (w_CS0 : Int32) (w_SF1 : Value) (ka : ClassId) (c0 : Int32) (c1 : Int32) (h0 : Heap) (n0 : Nat) (v : Option Value) (h : Heap) (L : List Loc) : Prop := ∃ (b : Addr) (kb : ClassId), v = none ∧ Fr n0 L ∧ Keep h0 h [a0] ∧ Exa Z h a0 "java/lang/String" ∧ Fld Z h a0 "java/lang/String" "coder" "B" (.int (0 : Int32)) ∧ Fld Z h a0 "java/lang/String" "value" "[B" (.ref b) ∧ Arv Z h b kb .byte (2 : Int32) [(.int (nar .byte (c0.toInt8.toInt32))), (.int (nar .byte (c1.toInt8.toInt32)))] (.int (0 : Int32)) ∧ h0.size ≤ b ∧ Exa Z h b "[B" ∧ a0 ≠ b
set_option maxRecDepth 65536 in
set_option maxHeartbeats 40000000 in
theorem rm2 (l : Launch) (Z : State) (ar : Array Value) (hw : ∀ d ∈ tables_1, d.before ar Z = true) (ws : List Jvm.Cond) (a0 : Addr) (a1 : Addr) (w_CS0 : Int32) (w_SF1 : Value) (ka : ClassId) (c0 : Int32) (c1 : Int32) (h0 : Heap) (n0 : Nat) (O0 : Old Z n0 h0) (HW : Wd Z w_CS0 w_SF1) (pf0 : Exa Z h0 a0 "java/lang/String") (pf1 : Fld Z h0 a0 "java/lang/String" "value" "[B" .null) (pf2 : Fld Z h0 a0 "java/lang/String" "coder" "B" (.int (0 : Int32))) (pf3 : n0 ≤ a0) (pf4 : Arv Z h0 a1 ka .char (2 : Int32) [(.int c0), (.int c1)] (.int (0 : Int32))) (pf5 : a0 ≠ a1) (l0 : ¬ (255 : Int32) < c0) (l1 : ¬ (255 : Int32) < c1) :
    MetFree l y2 (head1 (Jvm.Cond.code y2 jdk_42_method_3_code 2 none :: ws) ({ frames := 3, cells := 1, slots := 2, locals := 52 } : Room)) (fun a U => a = #[(.ref a0), (.ref a1)] ∧ Z.Warmed39 U.vm ∧ U.heap = h0) (fun _ _ _ _ _ => True) (fun _ U o U' => ∃ v L, o = .returned v ∧ Q2 Z a0 a1 w_CS0 w_SF1 ka c0 c1 h0 n0 v U'.heap L ∧ FrameEnd U o U' L ({ frames := 3, cells := 1, slots := 2, locals := 52 } : Room).cells ({ frames := 3, cells := 1, slots := 2, locals := 52 } : Room).slots) := by
 refine MetFree.of_bodySF (plainFor_of_name pn_1) hisR ?_
 intro p e s m args below meth c s₁ Bd hml0 hP hK
 obtain ⟨rfl, hZ, hh⟩ := hP
 have hx := Bd.exec
 have hby := Bd.bytes
 have hml : c.maxLocals = 2 := hml0
 have hown : s.vm.findClass "java/lang/String" = some m.cls := findClass_of_methodNamed Bd.named
 have hnm := (name_of_methodNamed Bd.named Bd.method).1
 have hlk : meth.locks = false := by first | assumption | exact BodyLoose.notSynchronized (by assumption) | exact Body.notSynchronized (by assumption)
 have X0 : Stand p l e ({ frames := 3, cells := 1, slots := 2, locals := 52 } : Room) s m #[(.ref a0), (.ref a1)] below meth c s₁ [] 0 0 := Stand.of_body Bd
 have e0 : s₁.heap = h0 := by rw [← hh, Bd.state]; rfl
 have N0 := Fr.nil n0
 have Z0 : n0 ≤ h0.size := Nat.le_trans (Nat.le_of_eq O0.1.symm) O0.2.1
 obtain ⟨S0, hS0⟩ : ∃ z, z = s₁.setTop (entryFrame m #[(.ref a0), (.ref a1)] 2) := ⟨_, rfl⟩
 have pre0 : ∀ tg, AT p e below s₁ m 0 #[rv a0, rv a1] [] tg → Steps p.tables e below S0 tg := fun tg kg => by rw [hS0]; exact castTop (ef_2 m a0 a1) kg
 obtain ⟨S_COMPACT_STRINGS, hz_w_CS0, S_SIOOBE_FORMATTER, ir_w_SF1⟩ := id HW
 obtain ⟨cl1, Ar1, q1, S1, N1, H1, G1⟩ := id pf4
 obtain ⟨_, _, ⟨T2, L2, k2, n2⟩, -, X2, ⟨Lc2, hQ2, l2, y2, z2⟩, st2⟩ := X0.specialBack hx (y := y3) rfl hown (mvT hZ (ow hw 14 rfl)) (mvT hZ (ow hw 15 rfl)) (mvT hZ (ow hw 17 rfl)) (by decide) (backOf (W := 0) (rm3 l Z ar hw [] a0 a1 w_CS0 w_SF1 ka c0 c1 h0 n0 O0 HW pf0 pf1 pf2 pf3 pf4 pf5 l0 l1) hZ (ow hw 17 rfl) (ow hw 10 rfl) (by decide) (by decide)) (g := (mkF m 6 #[rv a0, rv a1] [.null, (.int (2 : Int32)), (.int (0 : Int32)), (.ref a1), (.ref a0)])) rfl (by rw [hml]; rfl) (Steps.refl _) (a := a0) (argsL := [(.ref a1), (.int (0 : Int32)), (.int (2 : Int32)), .null]) (rest := []) (lenOf pd_3 rfl) rfl (by show 2 * 0 + _ ≤ _; exact Nat.le_of_eq rfl) (hb hby d2_6) (fun _ _ => ⟨rfl, e0, (by decide : 0 + 1 ≤ _), (by decide : 0 + 2 ≤ _)⟩)
 dsimp only [Pt.U, Pt.locs, Pt.cells, Pt.slots] at X2 l2 y2 z2 st2 hQ2
 subst l2 y2 z2
 obtain ⟨b_2, kb_2, rfl, N2q, Kq2, u2_0, u2_1, u2_2, u2_3, u2_4, u2_5, u2_6⟩ := hQ2
 have N2 := Fr.app N0 N2q
 have E2_3 := pf0.keep Kq2
 have V2_4 := pf4.keep Kq2 (ninS (Ne.symm pf5) nin0)
 have K2 := (Keep.refl h0 [a0]).trans Kq2 (allS (Or.inl (List.mem_of_getElem? (i := 0) rfl)) all0)
 have O2 := O0.keep Kq2 (allS pf3 all0)
 have sz5 : h0.size ≤ b_2 := Nat.le_trans (Keep.refl h0 [a0]).1 u2_4
 have gn5 : n0 ≤ b_2 := Nat.le_trans (Nat.le_trans (Nat.le_of_eq O0.1.symm) O0.2.1) u2_4
 have ne6 : a0 ≠ b_2 := Nat.ne_of_lt (Nat.lt_of_lt_of_le (pf0).lt u2_4)
 have ne7 : a1 ≠ b_2 := Nat.ne_of_lt (Nat.lt_of_lt_of_le (pf4).lt u2_4)
 obtain ⟨fs, hr, hrun, hended, hW, hsame⟩ := X2.leave (v := none) (fun _ => rfl) hlk
 subst hS0
 refine ⟨_, _, pre0 _ ?_, hrun, hended, _, _, rfl, ?_, ⟨_, rfl⟩, hW, hsame.mono (by decide) (by decide)⟩
 ·
  refine XS.aloadN X0.here hx rfl (hb hby d2_0) rfl rfl ?_
  refine XS.aloadN X0.here hx rfl (hb hby d2_1) rfl rfl ?_
  refine XS.iconst X0.here hx rfl (hb hby d2_2) ?_
  refine XS.aloadN X0.here hx rfl (hb hby d2_3) rfl rfl ?_
  show AT p e below s₁ m 4 #[rv a0, rv a1] [(.ref a1), (.int (0 : Int32)), (.ref a1), (.ref a0)] _
  refine X0.arraylength hx (by rw [e0]; exact Ar1.1) (State.isArrayOf_alike hZ.alike Ar1.2.1) (g := (mkF m 4 #[rv a0, rv a1] [(.ref a1), (.int (0 : Int32)), (.ref a1), (.ref a0)])) rfl rfl (hb hby d2_4) _ ?_
  rw [len_of S1 N1]
  refine XS.aconstNull X0.here hx rfl (hb hby d2_5) ?_
  refine st2.trans ?_
  exact X2.returnOut hx Bd.returns (hb hby d2_9) hr
 ·
  show Q2 Z a0 a1 w_CS0 w_SF1 ka c0 c1 h0 n0 _ T2.heap _
  exact ⟨b_2, kb_2, rfl, N2, K2, E2_3, u2_1, u2_2, u2_3, sz5, u2_5, u2_6⟩


def ch (x y : Int32) : Int32 := (x.toUInt32 >>> (y &&& 31).toUInt32).toInt32 &&& (255 : Int32)
theorem own_nc (x : Int32) : nar .char ((x &&& (255 : Int32)).toUInt32.toUInt16.toUInt32.toInt32) = x &&& (255 : Int32) := by
  show ((x &&& (255 : Int32)).toUInt32.toUInt16.toUInt32.toInt32).toUInt32.toUInt16.toUInt32.toInt32 = _
  rw [i2c_mask, i2c_mask]
theorem own_le (x : Int32) : ¬ (255 : Int32) < nar .char ((x &&& (255 : Int32)).toUInt32.toUInt16.toUInt32.toInt32) := by
  rw [own_nc, Int32.lt_iff_toInt_lt]
  have k : ((255 : Int32)).toInt = 255 := rfl
  have := c_and x (255 : Int32) (by decide)
  omega

theorem d1_0 : decode method_2_code 0 = .ok (.iconst 2, 1) := by decide +kernel
theorem d1_1 : decode method_2_code 1 = .ok (.newarray .char, 2) := by decide +kernel
theorem d1_3 : decode method_2_code 3 = .ok (.astore_n 2, 1) := by decide +kernel
theorem d1_4 : decode method_2_code 4 = .ok (.aload_n 2, 1) := by decide +kernel
theorem d1_5 : decode method_2_code 5 = .ok (.iconst 0, 1) := by decide +kernel
theorem d1_6 : decode method_2_code 6 = .ok (.iload_n 0, 1) := by decide +kernel
theorem d1_7 : decode method_2_code 7 = .ok (.iload_n 1, 1) := by decide +kernel
theorem d1_8 : decode method_2_code 8 = .ok (.iushr, 1) := by decide +kernel
theorem d1_9 : decode method_2_code 9 = .ok (.sipush 255, 3) := by decide +kernel
theorem d1_12 : decode method_2_code 12 = .ok (.iand, 1) := by decide +kernel
theorem d1_13 : decode method_2_code 13 = .ok (.i2c, 1) := by decide +kernel
theorem d1_14 : decode method_2_code 14 = .ok (.castore, 1) := by decide +kernel
theorem d1_15 : decode method_2_code 15 = .ok (.aload_n 2, 1) := by decide +kernel
theorem d1_16 : decode method_2_code 16 = .ok (.iconst 1, 1) := by decide +kernel
theorem d1_17 : decode method_2_code 17 = .ok (.iload_n 0, 1) := by decide +kernel
theorem d1_18 : decode method_2_code 18 = .ok (.iload_n 1, 1) := by decide +kernel
theorem d1_19 : decode method_2_code 19 = .ok (.bipush 8, 2) := by decide +kernel
theorem d1_21 : decode method_2_code 21 = .ok (.iadd, 1) := by decide +kernel
theorem d1_22 : decode method_2_code 22 = .ok (.iushr, 1) := by decide +kernel
theorem d1_23 : decode method_2_code 23 = .ok (.sipush 255, 3) := by decide +kernel
theorem d1_26 : decode method_2_code 26 = .ok (.iand, 1) := by decide +kernel
theorem d1_27 : decode method_2_code 27 = .ok (.i2c, 1) := by decide +kernel
theorem d1_28 : decode method_2_code 28 = .ok (.castore, 1) := by decide +kernel
theorem d1_29 : decode method_2_code 29 = .ok (.new 7, 3) := by decide +kernel
theorem d1_32 : decode method_2_code 32 = .ok (.dup, 1) := by decide +kernel
theorem d1_33 : decode method_2_code 33 = .ok (.aload_n 2, 1) := by decide +kernel
theorem d1_34 : decode method_2_code 34 = .ok (.invokespecial 9, 3) := by decide +kernel
theorem d1_37 : decode method_2_code 37 = .ok (.areturn, 1) := by decide +kernel
theorem ef_1 (m : MethodId) (p0 : Int32) (p1 : Int32) : entryFrame m #[(.int p0), (.int p1)] 3 = mkF m 0 #[iv p0, iv p1, un] [] := by first | (simp [entryFrame, mkF, argsToLocals, Value.category]; done) | rfl
def Q1 (Z : State) (p0 : Int32) (p1 : Int32) (w_CS0 : Int32) (w_SF1 : Value) (h0 : Heap) (n0 : Nat) (v : Option Value) (h : Heap) (L : List Loc) : Prop := ∃ (t : Addr) (b : Addr) (kb : ClassId), v = some (.ref t) ∧ Fr n0 L ∧ Keep h0 h [] ∧ Exa Z h t "java/lang/String" ∧ Fld Z h t "java/lang/String" "coder" "B" (.int (0 : Int32)) ∧ Fld Z h t "java/lang/String" "value" "[B" (.ref b) ∧ Arv Z h b kb .byte (2 : Int32) [(.int (nar .byte ((ch p0 p1).toInt8.toInt32))), (.int (nar .byte ((ch p0 (p1 + (8 : Int32))).toInt8.toInt32)))] (.int (0 : Int32)) ∧ Exa Z h b "[B" ∧ h0.size ≤ t ∧ h0.size ≤ b ∧ t ≠ b
set_option maxRecDepth 65536 in
set_option maxHeartbeats 40000000 in
theorem rm1 (l : Launch) (Z : State) (ar : Array Value) (hw : ∀ d ∈ tables_1, d.before ar Z = true) (ws : List Jvm.Cond) (p0 : Int32) (p1 : Int32) (w_CS0 : Int32) (w_SF1 : Value) (h0 : Heap) (n0 : Nat) (O0 : Old Z n0 h0) (HW : Wd Z w_CS0 w_SF1) :
    MetFree l y1 (head1 (Jvm.Cond.code y1 method_2_code 3 (some (.object "java/lang/String")) :: ws) ({ frames := 4, cells := 3, slots := 8, locals := 66 } : Room)) (fun a U => a = #[(.int p0), (.int p1)] ∧ Z.Warmed39 U.vm ∧ U.heap = h0) (fun _ _ _ _ _ => True) (fun _ U o U' => ∃ v L, o = .returned v ∧ Q1 Z p0 p1 w_CS0 w_SF1 h0 n0 v U'.heap L ∧ FrameEnd U o U' L ({ frames := 4, cells := 3, slots := 8, locals := 66 } : Room).cells ({ frames := 4, cells := 3, slots := 8, locals := 66 } : Room).slots) := by
 refine MetFree.of_bodySF (plainFor_of_name pn_2) hisR ?_
 intro p e s m args below meth c s₁ Bd hml0 hP hK
 obtain ⟨rfl, hZ, hh⟩ := hP
 have hx := Bd.exec
 have hby := Bd.bytes
 have hml : c.maxLocals = 3 := hml0
 have hown : s.vm.findClass "com/example/minderd/minderd/process/OwnerEqualsPinLaw" = some m.cls := findClass_of_methodNamed Bd.named
 have hnm := (name_of_methodNamed Bd.named Bd.method).1
 have hlk : meth.locks = false := by first | assumption | exact BodyLoose.notSynchronized (by assumption) | exact Body.notSynchronized (by assumption)
 have X0 : Stand p l e ({ frames := 4, cells := 3, slots := 8, locals := 66 } : Room) s m #[(.int p0), (.int p1)] below meth c s₁ [] 0 0 := Stand.of_body Bd
 have e0 : s₁.heap = h0 := by rw [← hh, Bd.state]; rfl
 have N0 := Fr.nil n0
 have Z0 : n0 ≤ h0.size := Nat.le_trans (Nat.le_of_eq O0.1.symm) O0.2.1
 obtain ⟨S0, hS0⟩ : ∃ z, z = s₁.setTop (entryFrame m #[(.int p0), (.int p1)] 3) := ⟨_, rfl⟩
 have pre0 : ∀ tg, AT p e below s₁ m 0 #[iv p0, iv p1, un] [] tg → Steps p.tables e below S0 tg := fun tg kg => by rw [hS0]; exact castTop (ef_1 m p0 p1) kg
 obtain ⟨S_COMPACT_STRINGS, hz_w_CS0, S_SIOOBE_FORMATTER, ir_w_SF1⟩ := id HW
 obtain ⟨T1, h1, k1, X1, e1, E1, A1, B1, st1⟩ := newPE X0 hx hZ (ow hw 7 rfl) e0 (g := (mkF m 1 #[iv p0, iv p1, un] [(.int (2 : Int32))])) rfl (hb hby d1_1) rfl (by decide) (cap := 2) (by decide) (by decide) (by decide) (by decide) (ad := "[C") (by decide)
 obtain ⟨b1, g1⟩ : ∃ z, z = h0.size := ⟨_, rfl⟩
 rw [← g1] at A1 B1 st1
 have gn1 : n0 ≤ b1 := Nat.le_trans (Nat.le_trans (Nat.le_of_eq O0.1.symm) O0.2.1) (Nat.le_of_eq g1.symm)
 have sz1 : h0.size ≤ b1 := Nat.le_trans (Keep.refl h0 []).1 (Nat.le_of_eq g1.symm)
 have K1 := (Keep.refl h0 []).ext E1
 have O1 := O0.ext E1
 have V1_2 : Arv Z h1 b1 k1 .char (2 : Int32) [(.int (0 : Int32)), (.int (0 : Int32))] (.int (0 : Int32)) := (Arv.new A1 (by decide)).pad (pad_rep [] (.int (0 : Int32)) 2)
 obtain ⟨cl3, Ar3, q3, S3, M3, H3, G3⟩ := id V1_2
 have hin3 := own_in (0 : Int32) S3 ⟨by decide, by decide⟩
 obtain ⟨T3, h3, X3, e3, W3, st3⟩ := stC X1 hx hZ e1 Ar3 (j := (0 : Int32)) hin3 (g := (mkF m 14 #[iv p0, iv p1, rv b1] [(.int ((((p0.toUInt32 >>> (p1 &&& 31).toUInt32).toInt32) &&& (255 : Int32)).toUInt32.toUInt16.toUInt32.toInt32)), (.int (0 : Int32)), (.ref b1)])) rfl rfl (hb hby d1_14)
 have V3_4 : Arv Z h3 b1 k1 .char (2 : Int32) [(.int (nar .char ((((p0.toUInt32 >>> (p1 &&& 31).toUInt32).toInt32) &&& (255 : Int32)).toUInt32.toUInt16.toUInt32.toInt32))), (.int (0 : Int32))] (.int (0 : Int32)) := Arv.set Ar3 q3 S3 M3 H3 G3 (fits_nar_char _) W3 0 rfl (Nat.le_of_ble_eq_true rfl)
 have E3_5 := B1.wr W3
 have K3 := K1.wr W3 (Or.inr sz1)
 have O3 := O1.wr W3 gn1
 have N3 := Fr.snoc X3 N0 gn1
 obtain ⟨cl6, Ar6, q6, S6, M6, H6, G6⟩ := id V3_4
 have hin6 := own_in (1 : Int32) S6 ⟨by decide, by decide⟩
 obtain ⟨T6, h6, X6, e6, W6, st6⟩ := stC X3 hx hZ e3 Ar6 (j := (1 : Int32)) hin6 (g := (mkF m 28 #[iv p0, iv p1, rv b1] [(.int ((((p0.toUInt32 >>> ((p1 + (8 : Int32)) &&& 31).toUInt32).toInt32) &&& (255 : Int32)).toUInt32.toUInt16.toUInt32.toInt32)), (.int (1 : Int32)), (.ref b1)])) rfl rfl (hb hby d1_28)
 have V6_7 : Arv Z h6 b1 k1 .char (2 : Int32) [(.int (nar .char ((((p0.toUInt32 >>> (p1 &&& 31).toUInt32).toInt32) &&& (255 : Int32)).toUInt32.toUInt16.toUInt32.toInt32))), (.int (nar .char ((((p0.toUInt32 >>> ((p1 + (8 : Int32)) &&& 31).toUInt32).toInt32) &&& (255 : Int32)).toUInt32.toUInt16.toUInt32.toInt32)))] (.int (0 : Int32)) := Arv.set Ar6 q6 S6 M6 H6 G6 (fits_nar_char _) W6 1 rfl (Nat.le_of_ble_eq_true rfl)
 have E6_8 := E3_5.wr W6
 have K6 := K3.wr W6 (Or.inr sz1)
 have O6 := O3.wr W6 gn1
 have N6 := Fr.snoc X6 N3 gn1
 obtain ⟨T9, h9, X9, e9, E9, A9, D9, -, st9⟩ := newO X6 hx hZ hown (ow hw 8 rfl) (ow hw 9 rfl) (ow hw 10 rfl) e6 (g := (mkF m 29 #[iv p0, iv p1, rv b1] [])) rfl (hb hby d1_29) (by decide) (by decide)
 obtain ⟨b9, g9⟩ : ∃ z, z = h6.size := ⟨_, rfl⟩
 rw [← g9] at A9 D9 st9
 have ne9_10 : b1 ≠ b9 := Nat.ne_of_lt (Nat.lt_of_lt_of_le (V6_7).lt (Nat.le_of_eq g9.symm))
 have gn9 : n0 ≤ b9 := Nat.le_trans (Nat.le_trans (Nat.le_of_eq O6.1.symm) O6.2.1) (Nat.le_of_eq g9.symm)
 have sz9 : h0.size ≤ b9 := Nat.le_trans K6.1 (Nat.le_of_eq g9.symm)
 have V9_11 := V6_7.ext E9
 have E9_12 := E6_8.ext E9
 have K9 := K6.ext E9
 have O9 := O6.ext E9
 have F9_13 : Fld Z h9 b9 "java/lang/String" "coder" "B" (.int (0 : Int32)) := D9 (Or.inr (ow hw 34 rfl)) (ty := .byte) (by decide)
 have F9_14 : Fld Z h9 b9 "java/lang/String" "value" "[B" .null := D9 (Or.inr (ow hw 36 rfl)) (ty := (.array .byte)) (by decide)
 obtain ⟨_, _, ⟨T15, L15, k15, n15⟩, -, X15, ⟨Lc15, hQ15, l15, y15, z15⟩, st15⟩ := X9.specialBack hx (y := y2) rfl hown (mvT hZ (ow hw 11 rfl)) (mvT hZ (ow hw 12 rfl)) (mvT hZ (ow hw 13 rfl)) (by decide) (backOf (W := 1) (rm2 l Z ar hw [] b9 b1 w_CS0 w_SF1 k1 (nar .char ((((p0.toUInt32 >>> (p1 &&& 31).toUInt32).toInt32) &&& (255 : Int32)).toUInt32.toUInt16.toUInt32.toInt32)) (nar .char ((((p0.toUInt32 >>> ((p1 + (8 : Int32)) &&& 31).toUInt32).toInt32) &&& (255 : Int32)).toUInt32.toUInt16.toUInt32.toInt32)) h9 n0 O9 HW A9 F9_14 F9_13 gn9 V9_11 (Ne.symm ne9_10) (own_le _) (own_le _)) hZ (ow hw 13 rfl) (ow hw 10 rfl) (by decide) (by decide)) (g := (mkF m 34 #[iv p0, iv p1, rv b1] [(.ref b1), (.ref b9), (.ref b9)])) rfl (by rw [hml]; rfl) (Steps.refl _) (a := b9) (argsL := [(.ref b1)]) (rest := [(.ref b9)]) (lenOf pd_4 rfl) rfl (by show 2 * 0 + _ ≤ _; exact Nat.le_of_eq rfl) (hb hby d1_34) (fun _ _ => ⟨rfl, e9, (by decide : 2 + 1 ≤ _), (by decide : 6 + 2 ≤ _)⟩)
 dsimp only [Pt.U, Pt.locs, Pt.cells, Pt.slots] at X15 l15 y15 z15 st15 hQ15
 subst l15 y15 z15
 obtain ⟨b_15, kb_15, rfl, N15q, Kq15, u15_0, u15_1, u15_2, u15_3, u15_4, u15_5, u15_6⟩ := hQ15
 have N15 := Fr.app N6 N15q
 have V15_16 := V9_11.keep Kq15 (ninS ne9_10 nin0)
 have E15_17 := E9_12.keep Kq15
 have E15_18 := A9.keep Kq15
 have K15 := K9.trans Kq15 (allS (Or.inr sz9) all0)
 have O15 := O9.keep Kq15 (allS gn9 all0)
 have sz19 : h0.size ≤ b_15 := Nat.le_trans K9.1 u15_4
 have gn19 : n0 ≤ b_15 := Nat.le_trans (Nat.le_trans (Nat.le_of_eq O9.1.symm) O9.2.1) u15_4
 have ne20 : b1 ≠ b_15 := Nat.ne_of_lt (Nat.lt_of_lt_of_le (V9_11).lt u15_4)
 have ne21 : b9 ≠ b_15 := Nat.ne_of_lt (Nat.lt_of_lt_of_le (A9).lt u15_4)
 clear E3_5 V6_7 E6_8 V9_11 E9_12
 obtain ⟨fs, hr, hrun, hended, hW, hsame⟩ := X15.leave (v := some (.ref b9)) (fun h => by rw [Bd.returns] at h; cases h) hlk
 subst hS0
 refine ⟨_, _, pre0 _ ?_, hrun, hended, _, _, rfl, ?_, ⟨_, rfl⟩, hW, hsame.mono (by decide) (by decide)⟩
 ·
  refine XS.iconst X0.here hx rfl (hb hby d1_0) ?_
  refine st1 _ ?_
  refine XS.astoreN X1.here hx rfl (hb hby d1_3) rfl rfl (l' := #[iv p0, iv p1, rv b1]) rfl ?_
  refine XS.aloadN X1.here hx rfl (hb hby d1_4) rfl rfl ?_
  show AT p e below T1 m 5 #[iv p0, iv p1, rv b1] [(.ref b1)] _
  refine XS.iconst X1.here hx rfl (hb hby d1_5) ?_
  refine XS.iloadN X1.here hx rfl (hb hby d1_6) rfl ?_
  refine XS.iloadN X1.here hx rfl (hb hby d1_7) rfl ?_
  refine XS.iushr X1.here hx rfl (hb hby d1_8) rfl ?_
  show AT p e below T1 m 9 #[iv p0, iv p1, rv b1] [(.int ((p0.toUInt32 >>> (p1 &&& 31).toUInt32).toInt32)), (.int (0 : Int32)), (.ref b1)] _
  refine XS.sipush X1.here hx rfl (hb hby d1_9) ?_
  refine XS.iand X1.here hx rfl (hb hby d1_12) rfl ?_
  refine XS.i2c X1.here hx rfl (hb hby d1_13) rfl ?_
  refine st3 _ ?_
  show AT p e below T3 m 15 #[iv p0, iv p1, rv b1] [] _
  refine XS.aloadN X3.here hx rfl (hb hby d1_15) rfl rfl ?_
  refine XS.iconst X3.here hx rfl (hb hby d1_16) ?_
  refine XS.iloadN X3.here hx rfl (hb hby d1_17) rfl ?_
  refine XS.iloadN X3.here hx rfl (hb hby d1_18) rfl ?_
  show AT p e below T3 m 19 #[iv p0, iv p1, rv b1] [(.int p1), (.int p0), (.int (1 : Int32)), (.ref b1)] _
  refine XS.bipush X3.here hx rfl (hb hby d1_19) ?_
  refine XS.iadd X3.here hx rfl (hb hby d1_21) rfl ?_
  refine XS.iushr X3.here hx rfl (hb hby d1_22) rfl ?_
  refine XS.sipush X3.here hx rfl (hb hby d1_23) ?_
  show AT p e below T3 m 26 #[iv p0, iv p1, rv b1] [(.int (255 : Int32)), (.int ((p0.toUInt32 >>> ((p1 + (8 : Int32)) &&& 31).toUInt32).toInt32)), (.int (1 : Int32)), (.ref b1)] _
  refine XS.iand X3.here hx rfl (hb hby d1_26) rfl ?_
  refine XS.i2c X3.here hx rfl (hb hby d1_27) rfl ?_
  refine st6 _ ?_
  refine st9 _ ?_
  show AT p e below T9 m 32 #[iv p0, iv p1, rv b1] [(.ref b9)] _
  refine XS.dup X9.here hx rfl (hb hby d1_32) rfl rfl ?_
  refine XS.aloadN X9.here hx rfl (hb hby d1_33) rfl rfl ?_
  refine st15.trans ?_
  exact retOut X15 hx (t := (.object "java/lang/String")) (i := .areturn) Bd.returns rfl (Or.inr (Or.inr (Or.inr (Or.inr ⟨rfl, rfl, rfl⟩)))) (hb hby d1_37) hr
 ·
  show Q1 Z p0 p1 w_CS0 w_SF1 h0 n0 _ T15.heap _
  exact ⟨b9, b_15, kb_15, rfl, N15, K15, E15_18, u15_1, u15_2, (by have q := u15_3; rw [own_nc, own_nc] at q; exact q), u15_5, sz9, sz19, u15_6⟩

theorem d8_0 : decode prog_30_method_1_code 0 = .ok (.aload_n 0, 1) := by decide +kernel
theorem d8_1 : decode prog_30_method_1_code 1 = .ok (.invokespecial 1, 3) := by decide +kernel
theorem d8_4 : decode prog_30_method_1_code 4 = .ok (.aload_n 0, 1) := by decide +kernel
theorem d8_5 : decode prog_30_method_1_code 5 = .ok (.aload_n 1, 1) := by decide +kernel
theorem d8_6 : decode prog_30_method_1_code 6 = .ok (.putfield 7, 3) := by decide +kernel
theorem d8_9 : decode prog_30_method_1_code 9 = .ok (.aload_n 0, 1) := by decide +kernel
theorem d8_10 : decode prog_30_method_1_code 10 = .ok (.aload_n 2, 1) := by decide +kernel
theorem d8_11 : decode prog_30_method_1_code 11 = .ok (.putfield 13, 3) := by decide +kernel
theorem d8_14 : decode prog_30_method_1_code 14 = .ok (.aload_n 0, 1) := by decide +kernel
theorem d8_15 : decode prog_30_method_1_code 15 = .ok (.aload_n 3, 1) := by decide +kernel
theorem d8_16 : decode prog_30_method_1_code 16 = .ok (.putfield 16, 3) := by decide +kernel
theorem d8_19 : decode prog_30_method_1_code 19 = .ok (.return_, 1) := by decide +kernel
theorem ef_8 (m : MethodId) (a0 : Addr) (a1 : Addr) (a2 : Addr) (a3 : Addr) : entryFrame m #[(.ref a0), (.ref a1), (.ref a2), (.ref a3)] 4 = mkF m 0 #[rv a0, rv a1, rv a2, rv a3] [] := by first | (simp [entryFrame, mkF, argsToLocals, Value.category]; done) | rfl
def Q8 (Z : State) (a0 : Addr) (a1 : Addr) (a2 : Addr) (a3 : Addr) (h0 : Heap) (n0 : Nat) (v : Option Value) (h : Heap) (L : List Loc) : Prop := v = none ∧ Fr n0 L ∧ Keep h0 h [a0] ∧ Exa Z h a0 "com/example/minderd/minderd/process/Owner" ∧ Fld Z h a0 "com/example/minderd/minderd/process/Owner" "config" "Ljava/lang/String;" (.ref a1) ∧ Fld Z h a0 "com/example/minderd/minderd/process/Owner" "program" "Ljava/lang/String;" (.ref a2) ∧ Fld Z h a0 "com/example/minderd/minderd/process/Owner" "run" "Ljava/lang/String;" (.ref a3)
set_option maxRecDepth 65536 in
set_option maxHeartbeats 40000000 in
theorem rm8 (l : Launch) (Z : State) (ar : Array Value) (hw : ∀ d ∈ tables_1, d.before ar Z = true) (ws : List Jvm.Cond) (a0 : Addr) (a1 : Addr) (a2 : Addr) (a3 : Addr) (h0 : Heap) (n0 : Nat) (O0 : Old Z n0 h0) (pf0 : Exa Z h0 a0 "com/example/minderd/minderd/process/Owner") (pf1 : Fld Z h0 a0 "com/example/minderd/minderd/process/Owner" "config" "Ljava/lang/String;" .null) (pf2 : Fld Z h0 a0 "com/example/minderd/minderd/process/Owner" "program" "Ljava/lang/String;" .null) (pf3 : Fld Z h0 a0 "com/example/minderd/minderd/process/Owner" "run" "Ljava/lang/String;" .null) (pf4 : n0 ≤ a0) :
    MetFree l y8 (head1 (Jvm.Cond.code y8 prog_30_method_1_code 4 none :: ws) ({ frames := 1, cells := 0, slots := 0, locals := 12 } : Room)) (fun a U => a = #[(.ref a0), (.ref a1), (.ref a2), (.ref a3)] ∧ Z.Warmed39 U.vm ∧ U.heap = h0) (fun _ _ _ _ _ => True) (fun _ U o U' => ∃ v L, o = .returned v ∧ Q8 Z a0 a1 a2 a3 h0 n0 v U'.heap L ∧ FrameEnd U o U' L ({ frames := 1, cells := 0, slots := 0, locals := 12 } : Room).cells ({ frames := 1, cells := 0, slots := 0, locals := 12 } : Room).slots) := by
 refine MetFree.of_bodySF (plainFor_of_name pn_3) hisR ?_
 intro p e s m args below meth c s₁ Bd hml0 hP hK
 obtain ⟨rfl, hZ, hh⟩ := hP
 have hx := Bd.exec
 have hby := Bd.bytes
 have hml : c.maxLocals = 4 := hml0
 have hown : s.vm.findClass "com/example/minderd/minderd/process/Owner" = some m.cls := findClass_of_methodNamed Bd.named
 have hnm := (name_of_methodNamed Bd.named Bd.method).1
 have hlk : meth.locks = false := by first | assumption | exact BodyLoose.notSynchronized (by assumption) | exact Body.notSynchronized (by assumption)
 have X0 : Stand p l e ({ frames := 1, cells := 0, slots := 0, locals := 12 } : Room) s m #[(.ref a0), (.ref a1), (.ref a2), (.ref a3)] below meth c s₁ [] 0 0 := Stand.of_body Bd
 have e0 : s₁.heap = h0 := by rw [← hh, Bd.state]; rfl
 have N0 := Fr.nil n0
 have Z0 : n0 ≤ h0.size := Nat.le_trans (Nat.le_of_eq O0.1.symm) O0.2.1
 obtain ⟨S0, hS0⟩ : ∃ z, z = s₁.setTop (entryFrame m #[(.ref a0), (.ref a1), (.ref a2), (.ref a3)] 4) := ⟨_, rfl⟩
 have pre0 : ∀ tg, AT p e below s₁ m 0 #[rv a0, rv a1, rv a2, rv a3] [] tg → Steps p.tables e below S0 tg := fun tg kg => by rw [hS0]; exact castTop (ef_8 m a0 a1 a2 a3) kg
 obtain ⟨T1, X1, e1, st1⟩ := initO X0 hx hZ hown (ow hw 40 rfl) (ow hw 19 rfl) (ow hw 20 rfl) e0 (g := (mkF m 1 #[rv a0, rv a1, rv a2, rv a3] [(.ref a0)])) rfl (by rw [hml]; rfl) rfl (hb hby d8_1) (by decide) (W := 0) (by show 2 * 0 + _ ≤ _; exact Nat.le_of_eq rfl) (by decide)
 obtain ⟨T2, h2, X2, e2, W2, st2⟩ := putF X1 hx hZ hown (host := "") (Or.inl (ow hw 41 rfl)) Via.refl e1 pf1 pf0 (Or.inr ⟨(ow hw 42 rfl), rfl, hnm⟩) (ow hw 1 rfl) (ty := (.object "java/lang/String")) (by decide) rfl rfl (g := (mkF m 6 #[rv a0, rv a1, rv a2, rv a3] [(.ref a1), (.ref a0)])) rfl rfl (hb hby d8_6)
 have E2_3 := pf0.wr W2
 have F2_4 : Fld Z h2 a0 "com/example/minderd/minderd/process/Owner" "config" "Ljava/lang/String;" (.ref a1) := pf1.same W2
 have F2_5 := pf2.other W2 (Or.inr (slot_ne (Or.inr (ow hw 44 rfl)) (Or.inr (ow hw 42 rfl)) (by decide) (t := (.object "java/lang/String")) (t' := (.object "java/lang/String")) (by decide) (by decide)))
 have F2_6 := pf3.other W2 (Or.inr (slot_ne (Or.inr (ow hw 46 rfl)) (Or.inr (ow hw 42 rfl)) (by decide) (t := (.object "java/lang/String")) (t' := (.object "java/lang/String")) (by decide) (by decide)))
 have K2 := (Keep.refl h0 [a0]).wr W2 (Or.inl (List.mem_of_getElem? (i := 0) rfl))
 have O2 := O0.wr W2 pf4
 have N2 := Fr.snoc X2 N0 pf4
 obtain ⟨T7, h7, X7, e7, W7, st7⟩ := putF X2 hx hZ hown (host := "") (Or.inl (ow hw 43 rfl)) Via.refl e2 F2_5 E2_3 (Or.inr ⟨(ow hw 44 rfl), rfl, hnm⟩) (ow hw 1 rfl) (ty := (.object "java/lang/String")) (by decide) rfl rfl (g := (mkF m 11 #[rv a0, rv a1, rv a2, rv a3] [(.ref a2), (.ref a0)])) rfl rfl (hb hby d8_11)
 have E7_8 := E2_3.wr W7
 have F7_9 := F2_4.other W7 (Or.inr (slot_ne (Or.inr (ow hw 42 rfl)) (Or.inr (ow hw 44 rfl)) (by decide) (t := (.object "java/lang/String")) (t' := (.object "java/lang/String")) (by decide) (by decide)))
 have F7_10 : Fld Z h7 a0 "com/example/minderd/minderd/process/Owner" "program" "Ljava/lang/String;" (.ref a2) := F2_5.same W7
 have F7_11 := F2_6.other W7 (Or.inr (slot_ne (Or.inr (ow hw 46 rfl)) (Or.inr (ow hw 44 rfl)) (by decide) (t := (.object "java/lang/String")) (t' := (.object "java/lang/String")) (by decide) (by decide)))
 have K7 := K2.wr W7 (Or.inl (List.mem_of_getElem? (i := 0) rfl))
 have O7 := O2.wr W7 pf4
 have N7 := Fr.snoc X7 N2 pf4
 obtain ⟨T12, h12, X12, e12, W12, st12⟩ := putF X7 hx hZ hown (host := "") (Or.inl (ow hw 45 rfl)) Via.refl e7 F7_11 E7_8 (Or.inr ⟨(ow hw 46 rfl), rfl, hnm⟩) (ow hw 1 rfl) (ty := (.object "java/lang/String")) (by decide) rfl rfl (g := (mkF m 16 #[rv a0, rv a1, rv a2, rv a3] [(.ref a3), (.ref a0)])) rfl rfl (hb hby d8_16)
 have E12_13 := E7_8.wr W12
 have F12_14 := F7_9.other W12 (Or.inr (slot_ne (Or.inr (ow hw 42 rfl)) (Or.inr (ow hw 46 rfl)) (by decide) (t := (.object "java/lang/String")) (t' := (.object "java/lang/String")) (by decide) (by decide)))
 have F12_15 := F7_10.other W12 (Or.inr (slot_ne (Or.inr (ow hw 44 rfl)) (Or.inr (ow hw 46 rfl)) (by decide) (t := (.object "java/lang/String")) (t' := (.object "java/lang/String")) (by decide) (by decide)))
 have F12_16 : Fld Z h12 a0 "com/example/minderd/minderd/process/Owner" "run" "Ljava/lang/String;" (.ref a3) := F7_11.same W12
 have K12 := K7.wr W12 (Or.inl (List.mem_of_getElem? (i := 0) rfl))
 have O12 := O7.wr W12 pf4
 have N12 := Fr.snoc X12 N7 pf4
 clear E2_3 F2_4 F2_5 F2_6 E7_8 F7_9 F7_10 F7_11
 obtain ⟨fs, hr, hrun, hended, hW, hsame⟩ := X12.leave (v := none) (fun _ => rfl) hlk
 subst hS0
 refine ⟨_, _, pre0 _ ?_, hrun, hended, _, _, rfl, ?_, ⟨_, rfl⟩, hW, hsame.mono (by decide) (by decide)⟩
 ·
  refine XS.aloadN X0.here hx rfl (hb hby d8_0) rfl rfl ?_
  refine st1 _ ?_
  refine XS.aloadN X1.here hx rfl (hb hby d8_4) rfl rfl ?_
  refine XS.aloadN X1.here hx rfl (hb hby d8_5) rfl rfl ?_
  show AT p e below T1 m 6 #[rv a0, rv a1, rv a2, rv a3] [(.ref a1), (.ref a0)] _
  refine st2 _ ?_
  refine XS.aloadN X2.here hx rfl (hb hby d8_9) rfl rfl ?_
  refine XS.aloadN X2.here hx rfl (hb hby d8_10) rfl rfl ?_
  refine st7 _ ?_
  show AT p e below T7 m 14 #[rv a0, rv a1, rv a2, rv a3] [] _
  refine XS.aloadN X7.here hx rfl (hb hby d8_14) rfl rfl ?_
  refine XS.aloadN X7.here hx rfl (hb hby d8_15) rfl rfl ?_
  refine st12 _ ?_
  exact X12.returnOut hx Bd.returns (hb hby d8_19) hr
 ·
  show Q8 Z a0 a1 a2 a3 h0 n0 _ T12.heap _
  rw [e12]
  exact ⟨rfl, N12, K12, E12_13, F12_14, F12_15, F12_16⟩

theorem d9_0 : decode method_3_code 0 = .ok (.iload_n 0, 1) := by decide +kernel
theorem d9_1 : decode method_3_code 1 = .ok (.sipush 255, 3) := by decide +kernel
theorem d9_4 : decode method_3_code 4 = .ok (.iand, 1) := by decide +kernel
theorem d9_5 : decode method_3_code 5 = .ok (.iload_n 0, 1) := by decide +kernel
theorem d9_6 : decode method_3_code 6 = .ok (.bipush 16, 2) := by decide +kernel
theorem d9_8 : decode method_3_code 8 = .ok (.iushr, 1) := by decide +kernel
theorem d9_9 : decode method_3_code 9 = .ok (.sipush 255, 3) := by decide +kernel
theorem d9_12 : decode method_3_code 12 = .ok (.iand, 1) := by decide +kernel
theorem d9_13 : decode method_3_code 13 = .ok (.if_icmp .ne 26, 3) := by decide +kernel
theorem d9_16 : decode method_3_code 16 = .ok (.iload_n 0, 1) := by decide +kernel
theorem d9_17 : decode method_3_code 17 = .ok (.bipush 8, 2) := by decide +kernel
theorem d9_19 : decode method_3_code 19 = .ok (.iushr, 1) := by decide +kernel
theorem d9_20 : decode method_3_code 20 = .ok (.sipush 255, 3) := by decide +kernel
theorem d9_23 : decode method_3_code 23 = .ok (.iand, 1) := by decide +kernel
theorem d9_24 : decode method_3_code 24 = .ok (.iload_n 0, 1) := by decide +kernel
theorem d9_25 : decode method_3_code 25 = .ok (.bipush 24, 2) := by decide +kernel
theorem d9_27 : decode method_3_code 27 = .ok (.iushr, 1) := by decide +kernel
theorem d9_28 : decode method_3_code 28 = .ok (.sipush 255, 3) := by decide +kernel
theorem d9_31 : decode method_3_code 31 = .ok (.iand, 1) := by decide +kernel
theorem d9_32 : decode method_3_code 32 = .ok (.if_icmp .ne 7, 3) := by decide +kernel
theorem d9_35 : decode method_3_code 35 = .ok (.iconst 1, 1) := by decide +kernel
theorem d9_36 : decode method_3_code 36 = .ok (.goto 4, 3) := by decide +kernel
theorem d9_39 : decode method_3_code 39 = .ok (.iconst 0, 1) := by decide +kernel
theorem d9_40 : decode method_3_code 40 = .ok (.ireturn, 1) := by decide +kernel
theorem ef_9 (m : MethodId) (p0 : Int32) : entryFrame m #[(.int p0)] 1 = mkF m 0 #[iv p0] [] := by first | (simp [entryFrame, mkF, argsToLocals, Value.category]; done) | rfl
def f9 (p0 : Int32) : Int32 := if (p0 &&& (255 : Int32)) = (((p0.toUInt32 >>> ((16 : Int32) &&& 31).toUInt32).toInt32) &&& (255 : Int32)) then (if (((p0.toUInt32 >>> ((8 : Int32) &&& 31).toUInt32).toInt32) &&& (255 : Int32)) = (((p0.toUInt32 >>> ((24 : Int32) &&& 31).toUInt32).toInt32) &&& (255 : Int32)) then (1 : Int32) else (0 : Int32)) else ((0 : Int32))
def Q9 (Z : State) (p0 : Int32) (h0 : Heap) (n0 : Nat) (v : Option Value) (h : Heap) (L : List Loc) : Prop := v = some (.int (f9 p0)) ∧ Fr n0 L ∧ h = h0
set_option maxRecDepth 65536 in
set_option maxHeartbeats 40000000 in
theorem rm9 (l : Launch) (Z : State) (ar : Array Value) (hw : ∀ d ∈ tables_1, d.before ar Z = true) (ws : List Jvm.Cond) (p0 : Int32) (h0 : Heap) (n0 : Nat) (O0 : Old Z n0 h0) :
    MetFree l y9 (head1 (Jvm.Cond.code y9 method_3_code 1 (some .boolean) :: ws) ({ frames := 0, cells := 0, slots := 0, locals := 0 } : Room)) (fun a U => a = #[(.int p0)] ∧ Z.Warmed39 U.vm ∧ U.heap = h0) (fun _ _ _ _ _ => True) (fun _ U o U' => ∃ v L, o = .returned v ∧ Q9 Z p0 h0 n0 v U'.heap L ∧ FrameEnd U o U' L ({ frames := 0, cells := 0, slots := 0, locals := 0 } : Room).cells ({ frames := 0, cells := 0, slots := 0, locals := 0 } : Room).slots) := by
 refine MetFree.of_bodySF (plainFor_of_name pn_2) hisR ?_
 intro p e s m args below meth c s₁ Bd hml0 hP hK
 obtain ⟨rfl, hZ, hh⟩ := hP
 have hx := Bd.exec
 have hby := Bd.bytes
 have hml : c.maxLocals = 1 := hml0
 have hown : s.vm.findClass "com/example/minderd/minderd/process/OwnerEqualsPinLaw" = some m.cls := findClass_of_methodNamed Bd.named
 have hnm := (name_of_methodNamed Bd.named Bd.method).1
 have hlk : meth.locks = false := by first | assumption | exact BodyLoose.notSynchronized (by assumption) | exact Body.notSynchronized (by assumption)
 have X0 : Stand p l e ({ frames := 0, cells := 0, slots := 0, locals := 0 } : Room) s m #[(.int p0)] below meth c s₁ [] 0 0 := Stand.of_body Bd
 have e0 : s₁.heap = h0 := by rw [← hh, Bd.state]; rfl
 have N0 := Fr.nil n0
 have Z0 : n0 ≤ h0.size := Nat.le_trans (Nat.le_of_eq O0.1.symm) O0.2.1
 obtain ⟨S0, hS0⟩ : ∃ z, z = s₁.setTop (entryFrame m #[(.int p0)] 1) := ⟨_, rfl⟩
 have pre0 : ∀ tg, AT p e below s₁ m 0 #[iv p0] [] tg → Steps p.tables e below S0 tg := fun tg kg => by rw [hS0]; exact castTop (ef_9 m p0) kg
 have pre1 : ∀ tg, AT p e below s₁ m 13 #[iv p0] [(.int (((p0.toUInt32 >>> ((16 : Int32) &&& 31).toUInt32).toInt32) &&& (255 : Int32))), (.int (p0 &&& (255 : Int32)))] tg → Steps p.tables e below S0 tg := fun tg kg => pre0 tg (by
  refine XS.iloadN X0.here hx rfl (hb hby d9_0) rfl ?_
  refine XS.sipush X0.here hx rfl (hb hby d9_1) ?_
  refine XS.iand X0.here hx rfl (hb hby d9_4) rfl ?_
  refine XS.iloadN X0.here hx rfl (hb hby d9_5) rfl ?_
  show AT p e below s₁ m 6 #[iv p0] [(.int p0), (.int (p0 &&& (255 : Int32)))] _
  refine XS.bipush X0.here hx rfl (hb hby d9_6) ?_
  refine XS.iushr X0.here hx rfl (hb hby d9_8) rfl ?_
  refine XS.sipush X0.here hx rfl (hb hby d9_9) ?_
  refine XS.iand X0.here hx rfl (hb hby d9_12) rfl ?_
  exact kg)
 rcases Decidable.em ((p0 &&& (255 : Int32)) = (((p0.toUInt32 >>> ((16 : Int32) &&& 31).toUInt32).toInt32) &&& (255 : Int32))) with hc2 | hc2
 ·
  have pre3 : ∀ tg, AT p e below s₁ m 32 #[iv p0] [(.int (((p0.toUInt32 >>> ((24 : Int32) &&& 31).toUInt32).toInt32) &&& (255 : Int32))), (.int (((p0.toUInt32 >>> ((8 : Int32) &&& 31).toUInt32).toInt32) &&& (255 : Int32)))] tg → Steps p.tables e below S0 tg := fun tg kg => pre1 tg (by
   refine XS.icmpNo X0.here hx rfl (hb hby d9_13) rfl (XT.ii_ne_f hc2) ?_
   show AT p e below s₁ m 16 #[iv p0] [] _
   refine XS.iloadN X0.here hx rfl (hb hby d9_16) rfl ?_
   refine XS.bipush X0.here hx rfl (hb hby d9_17) ?_
   refine XS.iushr X0.here hx rfl (hb hby d9_19) rfl ?_
   refine XS.sipush X0.here hx rfl (hb hby d9_20) ?_
   show AT p e below s₁ m 23 #[iv p0] [(.int (255 : Int32)), (.int ((p0.toUInt32 >>> ((8 : Int32) &&& 31).toUInt32).toInt32))] _
   refine XS.iand X0.here hx rfl (hb hby d9_23) rfl ?_
   refine XS.iloadN X0.here hx rfl (hb hby d9_24) rfl ?_
   refine XS.bipush X0.here hx rfl (hb hby d9_25) ?_
   refine XS.iushr X0.here hx rfl (hb hby d9_27) rfl ?_
   show AT p e below s₁ m 28 #[iv p0] [(.int ((p0.toUInt32 >>> ((24 : Int32) &&& 31).toUInt32).toInt32)), (.int (((p0.toUInt32 >>> ((8 : Int32) &&& 31).toUInt32).toInt32) &&& (255 : Int32)))] _
   refine XS.sipush X0.here hx rfl (hb hby d9_28) ?_
   refine XS.iand X0.here hx rfl (hb hby d9_31) rfl ?_
   exact kg)
  rcases Decidable.em ((((p0.toUInt32 >>> ((8 : Int32) &&& 31).toUInt32).toInt32) &&& (255 : Int32)) = (((p0.toUInt32 >>> ((24 : Int32) &&& 31).toUInt32).toInt32) &&& (255 : Int32))) with hc4 | hc4
  ·
   obtain ⟨fs, hr, hrun, hended, hW, hsame⟩ := X0.leave (v := some (.int (1 : Int32))) (fun h => by rw [Bd.returns] at h; cases h) hlk
   subst hS0
   refine ⟨_, _, pre3 _ ?_, hrun, hended, _, _, rfl, ?_, ⟨_, rfl⟩, hW, hsame.mono (by decide) (by decide)⟩
   ·
    refine XS.icmpNo X0.here hx rfl (hb hby d9_32) rfl (XT.ii_ne_f hc4) ?_
    refine XS.iconst X0.here hx rfl (hb hby d9_35) ?_
    refine XS.goto X0.here hx rfl (pc0 := 36) (pc' := 40) rfl (hb hby d9_36) (by decide) (by decide) ?_
    show AT p e below s₁ m 40 #[iv p0] [(.int (1 : Int32))] _
    exact retN X0 hx (t := .boolean) Bd.returns (by simp) (hb hby d9_40) hr
   ·
    show Q9 Z p0 h0 n0 _ s₁.heap _
    rw [e0]
    exact ⟨(by rw [f9, if_pos hc2, if_pos hc4]), N0, rfl⟩
  ·
   obtain ⟨fs, hr, hrun, hended, hW, hsame⟩ := X0.leave (v := some (.int (0 : Int32))) (fun h => by rw [Bd.returns] at h; cases h) hlk
   subst hS0
   refine ⟨_, _, pre3 _ ?_, hrun, hended, _, _, rfl, ?_, ⟨_, rfl⟩, hW, hsame.mono (by decide) (by decide)⟩
   ·
    refine XS.icmpYes X0.here hx rfl (pc0 := 32) (pc' := 39) rfl (hb hby d9_32) rfl (XT.ii_ne_t hc4) (by decide) (by decide) ?_
    refine XS.iconst X0.here hx rfl (hb hby d9_39) ?_
    exact retN X0 hx (t := .boolean) Bd.returns (by simp) (hb hby d9_40) hr
   ·
    show Q9 Z p0 h0 n0 _ s₁.heap _
    rw [e0]
    exact ⟨(by rw [f9, if_pos hc2, if_neg hc4]), N0, rfl⟩
 ·
  obtain ⟨fs, hr, hrun, hended, hW, hsame⟩ := X0.leave (v := some (.int (0 : Int32))) (fun h => by rw [Bd.returns] at h; cases h) hlk
  subst hS0
  refine ⟨_, _, pre1 _ ?_, hrun, hended, _, _, rfl, ?_, ⟨_, rfl⟩, hW, hsame.mono (by decide) (by decide)⟩
  ·
   refine XS.icmpYes X0.here hx rfl (pc0 := 13) (pc' := 39) rfl (hb hby d9_13) rfl (XT.ii_ne_t hc2) (by decide) (by decide) ?_
   show AT p e below s₁ m 39 #[iv p0] [] _
   refine XS.iconst X0.here hx rfl (hb hby d9_39) ?_
   exact retN X0 hx (t := .boolean) Bd.returns (by simp) (hb hby d9_40) hr
  ·
   show Q9 Z p0 h0 n0 _ s₁.heap _
   rw [e0]
   exact ⟨(by rw [f9, if_neg hc2]), N0, rfl⟩

theorem d12_0 : decode jdk_43_method_13_code 0 = .ok (.aload_n 0, 1) := by decide +kernel
theorem d12_1 : decode jdk_43_method_13_code 1 = .ok (.arraylength, 1) := by decide +kernel
theorem d12_2 : decode jdk_43_method_13_code 2 = .ok (.aload_n 1, 1) := by decide +kernel
theorem d12_3 : decode jdk_43_method_13_code 3 = .ok (.arraylength, 1) := by decide +kernel
theorem d12_4 : decode jdk_43_method_13_code 4 = .ok (.if_icmp .ne 30, 3) := by decide +kernel
theorem d12_7 : decode jdk_43_method_13_code 7 = .ok (.iconst 0, 1) := by decide +kernel
theorem d12_8 : decode jdk_43_method_13_code 8 = .ok (.istore_n 2, 1) := by decide +kernel
theorem d12_9 : decode jdk_43_method_13_code 9 = .ok (.iload_n 2, 1) := by decide +kernel
theorem d12_10 : decode jdk_43_method_13_code 10 = .ok (.aload_n 0, 1) := by decide +kernel
theorem d12_11 : decode jdk_43_method_13_code 11 = .ok (.arraylength, 1) := by decide +kernel
theorem d12_12 : decode jdk_43_method_13_code 12 = .ok (.if_icmp .ge 20, 3) := by decide +kernel
theorem d12_15 : decode jdk_43_method_13_code 15 = .ok (.aload_n 0, 1) := by decide +kernel
theorem d12_16 : decode jdk_43_method_13_code 16 = .ok (.iload_n 2, 1) := by decide +kernel
theorem d12_17 : decode jdk_43_method_13_code 17 = .ok (.baload, 1) := by decide +kernel
theorem d12_18 : decode jdk_43_method_13_code 18 = .ok (.aload_n 1, 1) := by decide +kernel
theorem d12_19 : decode jdk_43_method_13_code 19 = .ok (.iload_n 2, 1) := by decide +kernel
theorem d12_20 : decode jdk_43_method_13_code 20 = .ok (.baload, 1) := by decide +kernel
theorem d12_21 : decode jdk_43_method_13_code 21 = .ok (.if_icmp .eq 5, 3) := by decide +kernel
theorem d12_24 : decode jdk_43_method_13_code 24 = .ok (.iconst 0, 1) := by decide +kernel
theorem d12_25 : decode jdk_43_method_13_code 25 = .ok (.ireturn, 1) := by decide +kernel
theorem d12_26 : decode jdk_43_method_13_code 26 = .ok (.iinc 2 1, 3) := by decide +kernel
theorem d12_29 : decode jdk_43_method_13_code 29 = .ok (.goto (-20), 3) := by decide +kernel
theorem d12_32 : decode jdk_43_method_13_code 32 = .ok (.iconst 1, 1) := by decide +kernel
theorem d12_33 : decode jdk_43_method_13_code 33 = .ok (.ireturn, 1) := by decide +kernel
theorem ef_12 (m : MethodId) (a0 : Addr) (a1 : Addr) : entryFrame m #[(.ref a0), (.ref a1)] 3 = mkF m 0 #[rv a0, rv a1, un] [] := by first | (simp [entryFrame, mkF, argsToLocals, Value.category]; done) | rfl
def f12 (x0 : Int32) (x1 : Int32) (y0 : Int32) (y1 : Int32) : Int32 := if x0 = y0 then (if x1 = y1 then (1 : Int32) else (0 : Int32)) else ((0 : Int32))
def Q12 (Z : State) (a0 : Addr) (a1 : Addr) (ka : ClassId) (kb : ClassId) (x0 : Int32) (x1 : Int32) (y0 : Int32) (y1 : Int32) (h0 : Heap) (n0 : Nat) (v : Option Value) (h : Heap) (L : List Loc) : Prop := v = some (.int (f12 x0 x1 y0 y1)) ∧ Fr n0 L ∧ h = h0
set_option maxRecDepth 65536 in
set_option maxHeartbeats 40000000 in
theorem rm12 (l : Launch) (Z : State) (ar : Array Value) (hw : ∀ d ∈ tables_1, d.before ar Z = true) (ws : List Jvm.Cond) (a0 : Addr) (a1 : Addr) (ka : ClassId) (kb : ClassId) (x0 : Int32) (x1 : Int32) (y0 : Int32) (y1 : Int32) (h0 : Heap) (n0 : Nat) (O0 : Old Z n0 h0) (pf0 : Arv Z h0 a0 ka .byte (2 : Int32) [(.int x0), (.int x1)] (.int (0 : Int32))) (pf1 : Arv Z h0 a1 kb .byte (2 : Int32) [(.int y0), (.int y1)] (.int (0 : Int32))) :
    MetFree l y12 (head1 (Jvm.Cond.code y12 jdk_43_method_13_code 3 (some .boolean) :: ws) ({ frames := 0, cells := 0, slots := 0, locals := 0 } : Room)) (fun a U => a = #[(.ref a0), (.ref a1)] ∧ Z.Warmed39 U.vm ∧ U.heap = h0) (fun _ _ _ _ _ => True) (fun _ U o U' => ∃ v L, o = .returned v ∧ Q12 Z a0 a1 ka kb x0 x1 y0 y1 h0 n0 v U'.heap L ∧ FrameEnd U o U' L ({ frames := 0, cells := 0, slots := 0, locals := 0 } : Room).cells ({ frames := 0, cells := 0, slots := 0, locals := 0 } : Room).slots) := by
 refine MetFree.of_bodySF (plainFor_of_name pn_4) hisR ?_
 intro p e s m args below meth c s₁ Bd hml0 hP hK
 obtain ⟨rfl, hZ, hh⟩ := hP
 have hx := Bd.exec
 have hby := Bd.bytes
 have hml : c.maxLocals = 3 := hml0
 have hown : s.vm.findClass "java/lang/StringLatin1" = some m.cls := findClass_of_methodNamed Bd.named
 have hnm := (name_of_methodNamed Bd.named Bd.method).1
 have hlk : meth.locks = false := by first | assumption | exact BodyLoose.notSynchronized (by assumption) | exact Body.notSynchronized (by assumption)
 have X0 : Stand p l e ({ frames := 0, cells := 0, slots := 0, locals := 0 } : Room) s m #[(.ref a0), (.ref a1)] below meth c s₁ [] 0 0 := Stand.of_body Bd
 have e0 : s₁.heap = h0 := by rw [← hh, Bd.state]; rfl
 have N0 := Fr.nil n0
 have Z0 : n0 ≤ h0.size := Nat.le_trans (Nat.le_of_eq O0.1.symm) O0.2.1
 obtain ⟨S0, hS0⟩ : ∃ z, z = s₁.setTop (entryFrame m #[(.ref a0), (.ref a1)] 3) := ⟨_, rfl⟩
 have pre0 : ∀ tg, AT p e below s₁ m 0 #[rv a0, rv a1, un] [] tg → Steps p.tables e below S0 tg := fun tg kg => by rw [hS0]; exact castTop (ef_12 m a0 a1) kg
 obtain ⟨cl1, Ar1, q1, S1, N1, H1, G1⟩ := id pf0
 obtain ⟨cl2, Ar2, q2, S2, N2, H2, G2⟩ := id pf1
 obtain ⟨cl3, Ar3, q3, S3, N3, H3, G3⟩ := id pf0
 obtain ⟨cl4, Ar4, q4, S4, N4, H4, G4⟩ := id pf0
 have hin4 := own_in (0 : Int32) S4 ⟨by decide, by decide⟩
 have hat4 : cl4.slots[((0 : Int32)).toNatClampNeg]? = some (.int x0) := Has.at H4 hin4 rfl
 obtain ⟨cl5, Ar5, q5, S5, N5, H5, G5⟩ := id pf1
 have hin5 := own_in (0 : Int32) S5 ⟨by decide, by decide⟩
 have hat5 : cl5.slots[((0 : Int32)).toNatClampNeg]? = some (.int y0) := Has.at H5 hin5 rfl
 have pre6 : ∀ tg, AT p e below s₁ m 21 #[rv a0, rv a1, iv (0 : Int32)] [(.int y0), (.int x0)] tg → Steps p.tables e below S0 tg := fun tg kg => pre0 tg (by
  refine XS.aloadN X0.here hx rfl (hb hby d12_0) rfl rfl ?_
  refine X0.arraylength hx (by rw [e0]; exact Ar1.1) (State.isArrayOf_alike hZ.alike Ar1.2.1) (g := (mkF m 1 #[rv a0, rv a1, un] [(.ref a0)])) rfl rfl (hb hby d12_1) _ ?_
  rw [len_of S1 N1]
  refine XS.aloadN X0.here hx rfl (hb hby d12_2) rfl rfl ?_
  refine X0.arraylength hx (by rw [e0]; exact Ar2.1) (State.isArrayOf_alike hZ.alike Ar2.2.1) (g := (mkF m 3 #[rv a0, rv a1, un] [(.ref a1), (.int (2 : Int32))])) rfl rfl (hb hby d12_3) _ ?_
  rw [len_of S2 N2]
  show AT p e below s₁ m 4 #[rv a0, rv a1, un] [(.int (2 : Int32)), (.int (2 : Int32))] _
  refine XS.icmpNo X0.here hx rfl (hb hby d12_4) rfl (XT.ii_ne_f ((by decide) : (2 : Int32) = (2 : Int32))) ?_
  show AT p e below s₁ m 7 #[rv a0, rv a1, un] [] _
  refine XS.iconst X0.here hx rfl (hb hby d12_7) ?_
  refine XS.istoreN X0.here hx rfl (hb hby d12_8) rfl (l' := #[rv a0, rv a1, iv (0 : Int32)]) rfl ?_
  refine XS.iloadN X0.here hx rfl (hb hby d12_9) rfl ?_
  refine XS.aloadN X0.here hx rfl (hb hby d12_10) rfl rfl ?_
  show AT p e below s₁ m 11 #[rv a0, rv a1, iv (0 : Int32)] [(.ref a0), (.int (0 : Int32))] _
  refine X0.arraylength hx (by rw [e0]; exact Ar3.1) (State.isArrayOf_alike hZ.alike Ar3.2.1) (g := (mkF m 11 #[rv a0, rv a1, iv (0 : Int32)] [(.ref a0), (.int (0 : Int32))])) rfl rfl (hb hby d12_11) _ ?_
  rw [len_of S3 N3]
  show AT p e below s₁ m 12 #[rv a0, rv a1, iv (0 : Int32)] [(.int (2 : Int32)), (.int (0 : Int32))] _
  refine XS.icmpNo X0.here hx rfl (hb hby d12_12) rfl (XT.ii_ge_f ((by decide) : (0 : Int32) < (2 : Int32))) ?_
  refine XS.aloadN X0.here hx rfl (hb hby d12_15) rfl rfl ?_
  refine XS.iloadN X0.here hx rfl (hb hby d12_16) rfl ?_
  refine X0.baloadBytes hx (j := (0 : Int32)) (v := (.int x0)) (by rw [e0]; exact Ar4.1) (State.isArrayOf_alike hZ.alike Ar4.2.1) Ar4.2.2 hin4 hat4 (g := (mkF m 17 #[rv a0, rv a1, iv (0 : Int32)] [(.int (0 : Int32)), (.ref a0)])) rfl rfl (hb hby d12_17) _ ?_
  show AT p e below s₁ m 18 #[rv a0, rv a1, iv (0 : Int32)] [(.int x0)] _
  refine XS.aloadN X0.here hx rfl (hb hby d12_18) rfl rfl ?_
  refine XS.iloadN X0.here hx rfl (hb hby d12_19) rfl ?_
  refine X0.baloadBytes hx (j := (0 : Int32)) (v := (.int y0)) (by rw [e0]; exact Ar5.1) (State.isArrayOf_alike hZ.alike Ar5.2.1) Ar5.2.2 hin5 hat5 (g := (mkF m 20 #[rv a0, rv a1, iv (0 : Int32)] [(.int (0 : Int32)), (.ref a1), (.int x0)])) rfl rfl (hb hby d12_20) _ ?_
  exact kg)
 rcases Decidable.em (x0 = y0) with hc7 | hc7
 ·
  obtain ⟨cl8, Ar8, q8, S8, N8, H8, G8⟩ := id pf0
  obtain ⟨cl9, Ar9, q9, S9, N9, H9, G9⟩ := id pf0
  have hin9 := own_in (1 : Int32) S9 ⟨by decide, by decide⟩
  have hat9 : cl9.slots[((1 : Int32)).toNatClampNeg]? = some (.int x1) := Has.at H9 hin9 rfl
  obtain ⟨cl10, Ar10, q10, S10, N10, H10, G10⟩ := id pf1
  have hin10 := own_in (1 : Int32) S10 ⟨by decide, by decide⟩
  have hat10 : cl10.slots[((1 : Int32)).toNatClampNeg]? = some (.int y1) := Has.at H10 hin10 rfl
  have pre11 : ∀ tg, AT p e below s₁ m 21 #[rv a0, rv a1, iv (1 : Int32)] [(.int y1), (.int x1)] tg → Steps p.tables e below S0 tg := fun tg kg => pre6 tg (by
   refine XS.icmpYes X0.here hx rfl (pc0 := 21) (pc' := 26) rfl (hb hby d12_21) rfl (XT.ii_eq_t hc7) (by decide) (by decide) ?_
   refine XS.iinc X0.here hx rfl (hb hby d12_26) rfl (l' := #[rv a0, rv a1, iv (1 : Int32)]) rfl ?_
   show AT p e below s₁ m 29 #[rv a0, rv a1, iv (1 : Int32)] [] _
   refine XS.goto X0.here hx rfl (pc0 := 29) (pc' := 9) rfl (hb hby d12_29) (by decide) (by decide) ?_
   refine XS.iloadN X0.here hx rfl (hb hby d12_9) rfl ?_
   refine XS.aloadN X0.here hx rfl (hb hby d12_10) rfl rfl ?_
   refine X0.arraylength hx (by rw [e0]; exact Ar8.1) (State.isArrayOf_alike hZ.alike Ar8.2.1) (g := (mkF m 11 #[rv a0, rv a1, iv (1 : Int32)] [(.ref a0), (.int (1 : Int32))])) rfl rfl (hb hby d12_11) _ ?_
   rw [len_of S8 N8]
   show AT p e below s₁ m 12 #[rv a0, rv a1, iv (1 : Int32)] [(.int (2 : Int32)), (.int (1 : Int32))] _
   refine XS.icmpNo X0.here hx rfl (hb hby d12_12) rfl (XT.ii_ge_f ((by decide) : (1 : Int32) < (2 : Int32))) ?_
   show AT p e below s₁ m 15 #[rv a0, rv a1, iv (1 : Int32)] [] _
   refine XS.aloadN X0.here hx rfl (hb hby d12_15) rfl rfl ?_
   refine XS.iloadN X0.here hx rfl (hb hby d12_16) rfl ?_
   refine X0.baloadBytes hx (j := (1 : Int32)) (v := (.int x1)) (by rw [e0]; exact Ar9.1) (State.isArrayOf_alike hZ.alike Ar9.2.1) Ar9.2.2 hin9 hat9 (g := (mkF m 17 #[rv a0, rv a1, iv (1 : Int32)] [(.int (1 : Int32)), (.ref a0)])) rfl rfl (hb hby d12_17) _ ?_
   refine XS.aloadN X0.here hx rfl (hb hby d12_18) rfl rfl ?_
   show AT p e below s₁ m 19 #[rv a0, rv a1, iv (1 : Int32)] [(.ref a1), (.int x1)] _
   refine XS.iloadN X0.here hx rfl (hb hby d12_19) rfl ?_
   refine X0.baloadBytes hx (j := (1 : Int32)) (v := (.int y1)) (by rw [e0]; exact Ar10.1) (State.isArrayOf_alike hZ.alike Ar10.2.1) Ar10.2.2 hin10 hat10 (g := (mkF m 20 #[rv a0, rv a1, iv (1 : Int32)] [(.int (1 : Int32)), (.ref a1), (.int x1)])) rfl rfl (hb hby d12_20) _ ?_
   exact kg)
  rcases Decidable.em (x1 = y1) with hc12 | hc12
  ·
   obtain ⟨cl13, Ar13, q13, S13, N13, H13, G13⟩ := id pf0
   obtain ⟨fs, hr, hrun, hended, hW, hsame⟩ := X0.leave (v := some (.int (1 : Int32))) (fun h => by rw [Bd.returns] at h; cases h) hlk
   subst hS0
   refine ⟨_, _, pre11 _ ?_, hrun, hended, _, _, rfl, ?_, ⟨_, rfl⟩, hW, hsame.mono (by decide) (by decide)⟩
   ·
    refine XS.icmpYes X0.here hx rfl (pc0 := 21) (pc' := 26) rfl (hb hby d12_21) rfl (XT.ii_eq_t hc12) (by decide) (by decide) ?_
    refine XS.iinc X0.here hx rfl (hb hby d12_26) rfl (l' := #[rv a0, rv a1, iv (2 : Int32)]) rfl ?_
    refine XS.goto X0.here hx rfl (pc0 := 29) (pc' := 9) rfl (hb hby d12_29) (by decide) (by decide) ?_
    show AT p e below s₁ m 9 #[rv a0, rv a1, iv (2 : Int32)] [] _
    refine XS.iloadN X0.here hx rfl (hb hby d12_9) rfl ?_
    refine XS.aloadN X0.here hx rfl (hb hby d12_10) rfl rfl ?_
    refine X0.arraylength hx (by rw [e0]; exact Ar13.1) (State.isArrayOf_alike hZ.alike Ar13.2.1) (g := (mkF m 11 #[rv a0, rv a1, iv (2 : Int32)] [(.ref a0), (.int (2 : Int32))])) rfl rfl (hb hby d12_11) _ ?_
    rw [len_of S13 N13]
    show AT p e below s₁ m 12 #[rv a0, rv a1, iv (2 : Int32)] [(.int (2 : Int32)), (.int (2 : Int32))] _
    refine XS.icmpYes X0.here hx rfl (pc0 := 12) (pc' := 32) rfl (hb hby d12_12) rfl (XT.ii_ge_t ((by decide) : ¬ ((2 : Int32) < (2 : Int32)))) (by decide) (by decide) ?_
    refine XS.iconst X0.here hx rfl (hb hby d12_32) ?_
    show AT p e below s₁ m 33 #[rv a0, rv a1, iv (2 : Int32)] [(.int (1 : Int32))] _
    exact retN X0 hx (t := .boolean) Bd.returns (by simp) (hb hby d12_33) hr
   ·
    show Q12 Z a0 a1 ka kb x0 x1 y0 y1 h0 n0 _ s₁.heap _
    rw [e0]
    exact ⟨(by rw [f12, if_pos hc7, if_pos hc12]), N0, rfl⟩
  ·
   obtain ⟨fs, hr, hrun, hended, hW, hsame⟩ := X0.leave (v := some (.int (0 : Int32))) (fun h => by rw [Bd.returns] at h; cases h) hlk
   subst hS0
   refine ⟨_, _, pre11 _ ?_, hrun, hended, _, _, rfl, ?_, ⟨_, rfl⟩, hW, hsame.mono (by decide) (by decide)⟩
   ·
    refine XS.icmpNo X0.here hx rfl (hb hby d12_21) rfl (XT.ii_eq_f hc12) ?_
    refine XS.iconst X0.here hx rfl (hb hby d12_24) ?_
    exact retN X0 hx (t := .boolean) Bd.returns (by simp) (hb hby d12_25) hr
   ·
    show Q12 Z a0 a1 ka kb x0 x1 y0 y1 h0 n0 _ s₁.heap _
    rw [e0]
    exact ⟨(by rw [f12, if_pos hc7, if_neg hc12]), N0, rfl⟩
 ·
  obtain ⟨fs, hr, hrun, hended, hW, hsame⟩ := X0.leave (v := some (.int (0 : Int32))) (fun h => by rw [Bd.returns] at h; cases h) hlk
  subst hS0
  refine ⟨_, _, pre6 _ ?_, hrun, hended, _, _, rfl, ?_, ⟨_, rfl⟩, hW, hsame.mono (by decide) (by decide)⟩
  ·
   refine XS.icmpNo X0.here hx rfl (hb hby d12_21) rfl (XT.ii_eq_f hc7) ?_
   refine XS.iconst X0.here hx rfl (hb hby d12_24) ?_
   show AT p e below s₁ m 25 #[rv a0, rv a1, iv (0 : Int32)] [(.int (0 : Int32))] _
   exact retN X0 hx (t := .boolean) Bd.returns (by simp) (hb hby d12_25) hr
  ·
   show Q12 Z a0 a1 ka kb x0 x1 y0 y1 h0 n0 _ s₁.heap _
   rw [e0]
   exact ⟨(by rw [f12, if_neg hc7]), N0, rfl⟩

theorem d11_0 : decode jdk_42_method_66_code 0 = .ok (.aload_n 0, 1) := by decide +kernel
theorem d11_1 : decode jdk_42_method_66_code 1 = .ok (.aload_n 1, 1) := by decide +kernel
theorem d11_2 : decode jdk_42_method_66_code 2 = .ok (.if_acmp .ne 5, 3) := by decide +kernel
theorem d11_7 : decode jdk_42_method_66_code 7 = .ok (.aload_n 1, 1) := by decide +kernel
theorem d11_8 : decode jdk_42_method_66_code 8 = .ok (.instanceof 10, 3) := by decide +kernel
theorem d11_11 : decode jdk_42_method_66_code 11 = .ok (.ifCond .eq 43, 3) := by decide +kernel
theorem d11_14 : decode jdk_42_method_66_code 14 = .ok (.aload_n 1, 1) := by decide +kernel
theorem d11_15 : decode jdk_42_method_66_code 15 = .ok (.checkcast 10, 3) := by decide +kernel
theorem d11_18 : decode jdk_42_method_66_code 18 = .ok (.astore_n 2, 1) := by decide +kernel
theorem d11_19 : decode jdk_42_method_66_code 19 = .ok (.getstatic 38, 3) := by decide +kernel
theorem d11_22 : decode jdk_42_method_66_code 22 = .ok (.ifCond .eq 14, 3) := by decide +kernel
theorem d11_25 : decode jdk_42_method_66_code 25 = .ok (.aload_n 0, 1) := by decide +kernel
theorem d11_26 : decode jdk_42_method_66_code 26 = .ok (.getfield 15, 3) := by decide +kernel
theorem d11_29 : decode jdk_42_method_66_code 29 = .ok (.aload_n 2, 1) := by decide +kernel
theorem d11_30 : decode jdk_42_method_66_code 30 = .ok (.getfield 15, 3) := by decide +kernel
theorem d11_33 : decode jdk_42_method_66_code 33 = .ok (.if_icmp .ne 21, 3) := by decide +kernel
theorem d11_36 : decode jdk_42_method_66_code 36 = .ok (.aload_n 0, 1) := by decide +kernel
theorem d11_37 : decode jdk_42_method_66_code 37 = .ok (.getfield 9, 3) := by decide +kernel
theorem d11_40 : decode jdk_42_method_66_code 40 = .ok (.aload_n 2, 1) := by decide +kernel
theorem d11_41 : decode jdk_42_method_66_code 41 = .ok (.getfield 9, 3) := by decide +kernel
theorem d11_44 : decode jdk_42_method_66_code 44 = .ok (.invokestatic 541, 3) := by decide +kernel
theorem d11_47 : decode jdk_42_method_66_code 47 = .ok (.ifCond .eq 7, 3) := by decide +kernel
theorem d11_50 : decode jdk_42_method_66_code 50 = .ok (.iconst 1, 1) := by decide +kernel
theorem d11_51 : decode jdk_42_method_66_code 51 = .ok (.goto 4, 3) := by decide +kernel
theorem d11_54 : decode jdk_42_method_66_code 54 = .ok (.iconst 0, 1) := by decide +kernel
theorem d11_55 : decode jdk_42_method_66_code 55 = .ok (.ireturn, 1) := by decide +kernel
theorem ef_11 (m : MethodId) (a0 : Addr) (a1 : Addr) : entryFrame m #[(.ref a0), (.ref a1)] 3 = mkF m 0 #[rv a0, rv a1, un] [] := by first | (simp [entryFrame, mkF, argsToLocals, Value.category]; done) | rfl
def f11 (x0 : Int32) (x1 : Int32) (y0 : Int32) (y1 : Int32) : Int32 := if (f12 x0 x1 y0 y1) = (0 : Int32) then (0 : Int32) else (1 : Int32)
def Q11 (Z : State) (a0 : Addr) (a1 : Addr) (w_CS0 : Int32) (w_SF1 : Value) (u : Addr) (w : Addr) (ka : ClassId) (kb : ClassId) (x0 : Int32) (x1 : Int32) (y0 : Int32) (y1 : Int32) (h0 : Heap) (n0 : Nat) (v : Option Value) (h : Heap) (L : List Loc) : Prop := v = some (.int (f11 x0 x1 y0 y1)) ∧ Fr n0 L ∧ h = h0
set_option maxRecDepth 65536 in
set_option maxHeartbeats 40000000 in
theorem rm11 (l : Launch) (Z : State) (ar : Array Value) (hw : ∀ d ∈ tables_1, d.before ar Z = true) (ws : List Jvm.Cond) (a0 : Addr) (a1 : Addr) (w_CS0 : Int32) (w_SF1 : Value) (u : Addr) (w : Addr) (ka : ClassId) (kb : ClassId) (x0 : Int32) (x1 : Int32) (y0 : Int32) (y1 : Int32) (h0 : Heap) (n0 : Nat) (O0 : Old Z n0 h0) (HW : Wd Z w_CS0 w_SF1) (pf0 : Exa Z h0 a0 "java/lang/String") (pf1 : Exa Z h0 a1 "java/lang/String") (pf2 : Fld Z h0 a0 "java/lang/String" "coder" "B" (.int (0 : Int32))) (pf3 : Fld Z h0 a1 "java/lang/String" "coder" "B" (.int (0 : Int32))) (pf4 : Fld Z h0 a0 "java/lang/String" "value" "[B" (.ref u)) (pf5 : Fld Z h0 a1 "java/lang/String" "value" "[B" (.ref w)) (pf6 : Arv Z h0 u ka .byte (2 : Int32) [(.int x0), (.int x1)] (.int (0 : Int32))) (pf7 : Arv Z h0 w kb .byte (2 : Int32) [(.int y0), (.int y1)] (.int (0 : Int32))) (pf8 : a0 ≠ a1) :
    MetFree l y11 (head1 (Jvm.Cond.code y11 jdk_42_method_66_code 3 (some .boolean) :: ws) ({ frames := 1, cells := 0, slots := 0, locals := 14 } : Room)) (fun a U => a = #[(.ref a0), (.ref a1)] ∧ Z.Warmed39 U.vm ∧ U.heap = h0) (fun _ _ _ _ _ => True) (fun _ U o U' => ∃ v L, o = .returned v ∧ Q11 Z a0 a1 w_CS0 w_SF1 u w ka kb x0 x1 y0 y1 h0 n0 v U'.heap L ∧ FrameEnd U o U' L ({ frames := 1, cells := 0, slots := 0, locals := 14 } : Room).cells ({ frames := 1, cells := 0, slots := 0, locals := 14 } : Room).slots) := by
 refine MetFree.of_bodySF (plainFor_of_name pn_1) hisR ?_
 intro p e s m args below meth c s₁ Bd hml0 hP hK
 obtain ⟨rfl, hZ, hh⟩ := hP
 have hx := Bd.exec
 have hby := Bd.bytes
 have hml : c.maxLocals = 3 := hml0
 have hown : s.vm.findClass "java/lang/String" = some m.cls := findClass_of_methodNamed Bd.named
 have hnm := (name_of_methodNamed Bd.named Bd.method).1
 have hlk : meth.locks = false := by first | assumption | exact BodyLoose.notSynchronized (by assumption) | exact Body.notSynchronized (by assumption)
 have X0 : Stand p l e ({ frames := 1, cells := 0, slots := 0, locals := 14 } : Room) s m #[(.ref a0), (.ref a1)] below meth c s₁ [] 0 0 := Stand.of_body Bd
 have e0 : s₁.heap = h0 := by rw [← hh, Bd.state]; rfl
 have N0 := Fr.nil n0
 have Z0 : n0 ≤ h0.size := Nat.le_trans (Nat.le_of_eq O0.1.symm) O0.2.1
 obtain ⟨S0, hS0⟩ : ∃ z, z = s₁.setTop (entryFrame m #[(.ref a0), (.ref a1)] 3) := ⟨_, rfl⟩
 have pre0 : ∀ tg, AT p e below s₁ m 0 #[rv a0, rv a1, un] [] tg → Steps p.tables e below S0 tg := fun tg kg => by rw [hS0]; exact castTop (ef_11 m a0 a1) kg
 obtain ⟨S_COMPACT_STRINGS, hz_w_CS0, S_SIOOBE_FORMATTER, ir_w_SF1⟩ := id HW
 obtain ⟨T1, X1, e1, st1⟩ := instY X0 hx hZ hown (ow hw 62 rfl) e0 (Ins.self pf1) (g := (mkF m 8 #[rv a0, rv a1, un] [(.ref a1)])) rfl rfl (hb hby d11_8)
 obtain ⟨T2, X2, e2, st2⟩ := castY X1 hx hZ hown (ow hw 62 rfl) e1 (Ins.self pf1) (g := (mkF m 15 #[rv a0, rv a1, un] [(.ref a1)])) rfl rfl (hb hby d11_15)
 obtain ⟨T3, X3, e3, st3⟩ := getS2 X2 hx hZ hown (host := "") (Or.inl (ow hw 21 rfl)) Via.refl e2 (S_COMPACT_STRINGS.ext O0.2) (g := (mkF m 19 #[rv a0, rv a1, rv a1] [])) rfl (hb hby d11_19)
 obtain ⟨T4, X4, e4, st4⟩ := getF X3 hx hZ hown (host := "") (Or.inl (ow hw 33 rfl)) Via.refl e3 pf2 (g := (mkF m 26 #[rv a0, rv a1, rv a1] [(.ref a0)])) rfl rfl (hb hby d11_26)
 obtain ⟨T5, X5, e5, st5⟩ := getF X4 hx hZ hown (host := "") (Or.inl (ow hw 33 rfl)) Via.refl e4 pf3 (g := (mkF m 30 #[rv a0, rv a1, rv a1] [(.ref a1), (.int (0 : Int32))])) rfl rfl (hb hby d11_30)
 obtain ⟨T6, X6, e6, st6⟩ := getF X5 hx hZ hown (host := "") (Or.inl (ow hw 35 rfl)) Via.refl e5 pf4 (g := (mkF m 37 #[rv a0, rv a1, rv a1] [(.ref a0)])) rfl rfl (hb hby d11_37)
 obtain ⟨T7, X7, e7, st7⟩ := getF X6 hx hZ hown (host := "") (Or.inl (ow hw 35 rfl)) Via.refl e6 pf5 (g := (mkF m 41 #[rv a0, rv a1, rv a1] [(.ref a1), (.ref u)])) rfl rfl (hb hby d11_41)
 obtain ⟨_, _, ⟨T8, L8, k8, n8⟩, -, X8, ⟨Lc8, hQ8, l8, y8, z8⟩, st8⟩ := Jvm.LawKit.callS X7 hx (y := y12) hown (mvT hZ (ow hw 63 rfl)) (mvT hZ (ow hw 64 rfl)) (mvT hZ (ow hw 65 rfl)) (mvT hZ (ow hw 66 rfl)) (by decide) (backOf (W := 0) (rm12 l Z ar hw [] u w ka kb x0 x1 y0 y1 h0 n0 O0 pf6 pf7) hZ (ow hw 66 rfl) (ow hw 65 rfl) (by decide) (by decide)) (g := (mkF m 44 #[rv a0, rv a1, rv a1] [(.ref w), (.ref u)])) rfl (by rw [hml]; rfl) (argsL := [(.ref u), (.ref w)]) (rest := []) (lenOf pd_5 rfl) rfl (by show 2 * 0 + _ ≤ _; exact Nat.le_of_eq rfl) (hb hby d11_44) (fun _ _ => ⟨rfl, e7, (by decide : 0 + 0 ≤ _), (by decide : 0 + 0 ≤ _)⟩)
 dsimp only [Pt.U, Pt.locs, Pt.cells, Pt.slots] at X8 l8 y8 z8 st8 hQ8
 subst l8 y8 z8
 obtain ⟨rfl, N8q, e8⟩ := hQ8
 have N8 := Fr.app N0 N8q
 have pre9 : ∀ tg, AT p e below T8 m 47 #[rv a0, rv a1, rv a1] [(.int (f12 x0 x1 y0 y1))] tg → Steps p.tables e below S0 tg := fun tg kg => pre0 tg (by
  refine XS.aloadN X0.here hx rfl (hb hby d11_0) rfl rfl ?_
  refine XS.aloadN X0.here hx rfl (hb hby d11_1) rfl rfl ?_
  show AT p e below s₁ m 2 #[rv a0, rv a1, un] [(.ref a1), (.ref a0)] _
  refine Jvm.RoadKit.acmp (g := (mkF m 2 #[rv a0, rv a1, un] [(.ref a1), (.ref a0)])) X0 hx rfl rfl rfl (pc0 := 2) (pc' := 7) (same := false) rfl (hb hby d11_2) rfl (decide_eq_false fun q => (pf8 : ¬ (a0 = a1)) (Value.ref.inj q)) (by decide) (by decide) ?_
  refine XS.aloadN X0.here hx rfl (hb hby d11_7) rfl rfl ?_
  refine st1 _ ?_
  show AT p e below T1 m 11 #[rv a0, rv a1, un] [(.int (1 : Int32))] _
  refine XS.ifNo X1.here hx rfl (hb hby d11_11) rfl (XT.i0_eq_f ((by decide) : ¬ ((1 : Int32) = (0 : Int32)))) ?_
  show AT p e below T1 m 14 #[rv a0, rv a1, un] [] _
  refine XS.aloadN X1.here hx rfl (hb hby d11_14) rfl rfl ?_
  refine st2 _ ?_
  refine XS.astoreN X2.here hx rfl (hb hby d11_18) rfl rfl (l' := #[rv a0, rv a1, rv a1]) rfl ?_
  refine st3 _ ?_
  show AT p e below T3 m 22 #[rv a0, rv a1, rv a1] [(.int w_CS0)] _
  refine XS.ifNo X3.here hx rfl (hb hby d11_22) rfl (XT.i0_eq_f (hz_w_CS0 : ¬ (w_CS0 = (0 : Int32)))) ?_
  show AT p e below T3 m 25 #[rv a0, rv a1, rv a1] [] _
  refine XS.aloadN X3.here hx rfl (hb hby d11_25) rfl rfl ?_
  refine st4 _ ?_
  refine XS.aloadN X4.here hx rfl (hb hby d11_29) rfl rfl ?_
  refine st5 _ ?_
  show AT p e below T5 m 33 #[rv a0, rv a1, rv a1] [(.int (0 : Int32)), (.int (0 : Int32))] _
  refine XS.icmpNo X5.here hx rfl (hb hby d11_33) rfl (XT.ii_ne_f ((by decide) : (0 : Int32) = (0 : Int32))) ?_
  show AT p e below T5 m 36 #[rv a0, rv a1, rv a1] [] _
  refine XS.aloadN X5.here hx rfl (hb hby d11_36) rfl rfl ?_
  refine st6 _ ?_
  refine XS.aloadN X6.here hx rfl (hb hby d11_40) rfl rfl ?_
  refine st7 _ ?_
  show AT p e below T7 m 44 #[rv a0, rv a1, rv a1] [(.ref w), (.ref u)] _
  refine st8 _ ?_
  exact kg)
 rcases Decidable.em ((f12 x0 x1 y0 y1) = (0 : Int32)) with hc10 | hc10
 ·
  obtain ⟨fs, hr, hrun, hended, hW, hsame⟩ := X8.leave (v := some (.int (0 : Int32))) (fun h => by rw [Bd.returns] at h; cases h) hlk
  subst hS0
  refine ⟨_, _, pre9 _ ?_, hrun, hended, _, _, rfl, ?_, ⟨_, rfl⟩, hW, hsame.mono (by decide) (by decide)⟩
  ·
   refine XS.ifYes X8.here hx rfl (pc0 := 47) (pc' := 54) rfl (hb hby d11_47) rfl (XT.i0_eq_t hc10) (by decide) (by decide) ?_
   refine XS.iconst X8.here hx rfl (hb hby d11_54) ?_
   exact retN X8 hx (t := .boolean) Bd.returns (by simp) (hb hby d11_55) hr
  ·
   show Q11 Z a0 a1 w_CS0 w_SF1 u w ka kb x0 x1 y0 y1 h0 n0 _ T8.heap _
   rw [e8]
   exact ⟨(by rw [f11, if_pos hc10]), N8, rfl⟩
 ·
  obtain ⟨fs, hr, hrun, hended, hW, hsame⟩ := X8.leave (v := some (.int (1 : Int32))) (fun h => by rw [Bd.returns] at h; cases h) hlk
  subst hS0
  refine ⟨_, _, pre9 _ ?_, hrun, hended, _, _, rfl, ?_, ⟨_, rfl⟩, hW, hsame.mono (by decide) (by decide)⟩
  ·
   refine XS.ifNo X8.here hx rfl (hb hby d11_47) rfl (XT.i0_eq_f hc10) ?_
   refine XS.iconst X8.here hx rfl (hb hby d11_50) ?_
   refine XS.goto X8.here hx rfl (pc0 := 51) (pc' := 55) rfl (hb hby d11_51) (by decide) (by decide) ?_
   exact retN X8 hx (t := .boolean) Bd.returns (by simp) (hb hby d11_55) hr
  ·
   show Q11 Z a0 a1 w_CS0 w_SF1 u w ka kb x0 x1 y0 y1 h0 n0 _ T8.heap _
   rw [e8]
   exact ⟨(by rw [f11, if_neg hc10]), N8, rfl⟩

theorem d11_5 : decode jdk_42_method_66_code 5 = .ok (.iconst 1, 1) := by decide +kernel
theorem d11_6 : decode jdk_42_method_66_code 6 = .ok (.ireturn, 1) := by decide +kernel
theorem ef_11s (m : MethodId) (a0 : Addr) : entryFrame m #[(.ref a0), (.ref a0)] 3 = mkF m 0 #[rv a0, rv a0, un] [] := by first | (simp [entryFrame, mkF, argsToLocals, Value.category]; done) | rfl
def Q11s (Z : State) (a0 : Addr) (h0 : Heap) (n0 : Nat) (v : Option Value) (h : Heap) (L : List Loc) : Prop := v = some (.int (1 : Int32)) ∧ Fr n0 L ∧ h = h0
set_option maxRecDepth 65536 in
set_option maxHeartbeats 40000000 in
theorem rm11s (l : Launch) (Z : State) (ar : Array Value) (hw : ∀ d ∈ tables_1, d.before ar Z = true) (ws : List Jvm.Cond) (a0 : Addr) (h0 : Heap) (n0 : Nat) (O0 : Old Z n0 h0) (pf0 : Exa Z h0 a0 "java/lang/String") :
    MetFree l y11 (head1 (Jvm.Cond.code y11 jdk_42_method_66_code 3 (some .boolean) :: ws) ({ frames := 0, cells := 0, slots := 0, locals := 0 } : Room)) (fun a U => a = #[(.ref a0), (.ref a0)] ∧ Z.Warmed39 U.vm ∧ U.heap = h0) (fun _ _ _ _ _ => True) (fun _ U o U' => ∃ v L, o = .returned v ∧ Q11s Z a0 h0 n0 v U'.heap L ∧ FrameEnd U o U' L ({ frames := 0, cells := 0, slots := 0, locals := 0 } : Room).cells ({ frames := 0, cells := 0, slots := 0, locals := 0 } : Room).slots) := by
 refine MetFree.of_bodySF (plainFor_of_name pn_1) hisR ?_
 intro p e s m args below meth c s₁ Bd hml0 hP hK
 obtain ⟨rfl, hZ, hh⟩ := hP
 have hx := Bd.exec
 have hby := Bd.bytes
 have hml : c.maxLocals = 3 := hml0
 have hown : s.vm.findClass "java/lang/String" = some m.cls := findClass_of_methodNamed Bd.named
 have hnm := (name_of_methodNamed Bd.named Bd.method).1
 have hlk : meth.locks = false := by first | assumption | exact BodyLoose.notSynchronized (by assumption) | exact Body.notSynchronized (by assumption)
 have X0 : Stand p l e ({ frames := 0, cells := 0, slots := 0, locals := 0 } : Room) s m #[(.ref a0), (.ref a0)] below meth c s₁ [] 0 0 := Stand.of_body Bd
 have e0 : s₁.heap = h0 := by rw [← hh, Bd.state]; rfl
 have N0 := Fr.nil n0
 have Z0 : n0 ≤ h0.size := Nat.le_trans (Nat.le_of_eq O0.1.symm) O0.2.1
 obtain ⟨S0, hS0⟩ : ∃ z, z = s₁.setTop (entryFrame m #[(.ref a0), (.ref a0)] 3) := ⟨_, rfl⟩
 have pre0 : ∀ tg, AT p e below s₁ m 0 #[rv a0, rv a0, un] [] tg → Steps p.tables e below S0 tg := fun tg kg => by rw [hS0]; exact castTop (ef_11s m a0) kg
 obtain ⟨fs, hr, hrun, hended, hW, hsame⟩ := X0.leave (v := some (.int (1 : Int32))) (fun h => by rw [Bd.returns] at h; cases h) hlk
 subst hS0
 refine ⟨_, _, pre0 _ ?_, hrun, hended, _, _, rfl, ?_, ⟨_, rfl⟩, hW, hsame.mono (by decide) (by decide)⟩
 ·
  refine XS.aloadN X0.here hx rfl (hb hby d11_0) rfl rfl ?_
  refine XS.aloadN X0.here hx rfl (hb hby d11_1) rfl rfl ?_
  show AT p e below s₁ m 2 #[rv a0, rv a0, un] [(.ref a0), (.ref a0)] _
  refine Jvm.RoadKit.acmp (g := (mkF m 2 #[rv a0, rv a0, un] [(.ref a0), (.ref a0)])) X0 hx rfl rfl rfl (pc0 := 2) (pc' := 5) (same := true) rfl (hb hby d11_2) rfl (decide_eq_true rfl) (by decide) (by decide) ?_
  refine XS.iconst X0.here hx rfl (hb hby d11_5) ?_
  exact retN X0 hx (t := .boolean) Bd.returns (by simp) (hb hby d11_6) hr
 ·
  show Q11s Z a0 h0 n0 _ s₁.heap _
  rw [e0]
  exact ⟨rfl, N0, rfl⟩

theorem d10_0 : decode prog_30_method_9_code 0 = .ok (.aload_n 1, 1) := by decide +kernel
theorem d10_1 : decode prog_30_method_9_code 1 = .ok (.instanceof 8, 3) := by decide +kernel
theorem d10_4 : decode prog_30_method_9_code 4 = .ok (.ifCond .eq 54, 3) := by decide +kernel
theorem d10_7 : decode prog_30_method_9_code 7 = .ok (.aload_n 1, 1) := by decide +kernel
theorem d10_8 : decode prog_30_method_9_code 8 = .ok (.checkcast 8, 3) := by decide +kernel
theorem d10_11 : decode prog_30_method_9_code 11 = .ok (.astore_n 2, 1) := by decide +kernel
theorem d10_12 : decode prog_30_method_9_code 12 = .ok (.aload_n 0, 1) := by decide +kernel
theorem d10_13 : decode prog_30_method_9_code 13 = .ok (.getfield 7, 3) := by decide +kernel
theorem d10_16 : decode prog_30_method_9_code 16 = .ok (.aload_n 2, 1) := by decide +kernel
theorem d10_17 : decode prog_30_method_9_code 17 = .ok (.getfield 7, 3) := by decide +kernel
theorem d10_20 : decode prog_30_method_9_code 20 = .ok (.invokevirtual 99, 3) := by decide +kernel
theorem d10_23 : decode prog_30_method_9_code 23 = .ok (.ifCond .eq 35, 3) := by decide +kernel
theorem d10_26 : decode prog_30_method_9_code 26 = .ok (.aload_n 0, 1) := by decide +kernel
theorem d10_27 : decode prog_30_method_9_code 27 = .ok (.getfield 13, 3) := by decide +kernel
theorem d10_30 : decode prog_30_method_9_code 30 = .ok (.aload_n 2, 1) := by decide +kernel
theorem d10_31 : decode prog_30_method_9_code 31 = .ok (.getfield 13, 3) := by decide +kernel
theorem d10_34 : decode prog_30_method_9_code 34 = .ok (.invokevirtual 99, 3) := by decide +kernel
theorem d10_37 : decode prog_30_method_9_code 37 = .ok (.ifCond .eq 21, 3) := by decide +kernel
theorem d10_40 : decode prog_30_method_9_code 40 = .ok (.aload_n 0, 1) := by decide +kernel
theorem d10_41 : decode prog_30_method_9_code 41 = .ok (.getfield 16, 3) := by decide +kernel
theorem d10_44 : decode prog_30_method_9_code 44 = .ok (.aload_n 2, 1) := by decide +kernel
theorem d10_45 : decode prog_30_method_9_code 45 = .ok (.getfield 16, 3) := by decide +kernel
theorem d10_48 : decode prog_30_method_9_code 48 = .ok (.invokevirtual 99, 3) := by decide +kernel
theorem d10_51 : decode prog_30_method_9_code 51 = .ok (.ifCond .eq 7, 3) := by decide +kernel
theorem d10_54 : decode prog_30_method_9_code 54 = .ok (.iconst 1, 1) := by decide +kernel
theorem d10_55 : decode prog_30_method_9_code 55 = .ok (.goto 4, 3) := by decide +kernel
theorem d10_58 : decode prog_30_method_9_code 58 = .ok (.iconst 0, 1) := by decide +kernel
theorem d10_59 : decode prog_30_method_9_code 59 = .ok (.ireturn, 1) := by decide +kernel
theorem ef_10 (m : MethodId) (a0 : Addr) (a1 : Addr) : entryFrame m #[(.ref a0), (.ref a1)] 3 = mkF m 0 #[rv a0, rv a1, un] [] := by first | (simp [entryFrame, mkF, argsToLocals, Value.category]; done) | rfl
def f10 (xc0 : Int32) (yc0 : Int32) (xc1 : Int32) (yc1 : Int32) (xp0 : Int32) (yp0 : Int32) (xp1 : Int32) (yp1 : Int32) (xr0 : Int32) (yr0 : Int32) (xr1 : Int32) (yr1 : Int32) : Int32 := if (f11 xc0 yc0 xc1 yc1) = (0 : Int32) then (0 : Int32) else (if (f11 xp0 yp0 xp1 yp1) = (0 : Int32) then (0 : Int32) else (if (f11 xr0 yr0 xr1 yr1) = (0 : Int32) then (0 : Int32) else (1 : Int32)))
def Q10 (Z : State) (a0 : Addr) (a1 : Addr) (w_CS0 : Int32) (w_SF1 : Value) (sc0 : Addr) (vc0 : Addr) (kc0 : ClassId) (xc0 : Int32) (yc0 : Int32) (sc1 : Addr) (vc1 : Addr) (kc1 : ClassId) (xc1 : Int32) (yc1 : Int32) (sp0 : Addr) (vp0 : Addr) (kp0 : ClassId) (xp0 : Int32) (yp0 : Int32) (sp1 : Addr) (vp1 : Addr) (kp1 : ClassId) (xp1 : Int32) (yp1 : Int32) (sr0 : Addr) (vr0 : Addr) (kr0 : ClassId) (xr0 : Int32) (yr0 : Int32) (sr1 : Addr) (vr1 : Addr) (kr1 : ClassId) (xr1 : Int32) (yr1 : Int32) (h0 : Heap) (n0 : Nat) (v : Option Value) (h : Heap) (L : List Loc) : Prop := v = some (.int (f10 xc0 yc0 xc1 yc1 xp0 yp0 xp1 yp1 xr0 yr0 xr1 yr1)) ∧ Fr n0 L ∧ h = h0
set_option maxRecDepth 65536 in
set_option maxHeartbeats 40000000 in
theorem rm10 (l : Launch) (Z : State) (ar : Array Value) (hw : ∀ d ∈ tables_1, d.before ar Z = true) (ws : List Jvm.Cond) (a0 : Addr) (a1 : Addr) (w_CS0 : Int32) (w_SF1 : Value) (sc0 : Addr) (vc0 : Addr) (kc0 : ClassId) (xc0 : Int32) (yc0 : Int32) (sc1 : Addr) (vc1 : Addr) (kc1 : ClassId) (xc1 : Int32) (yc1 : Int32) (sp0 : Addr) (vp0 : Addr) (kp0 : ClassId) (xp0 : Int32) (yp0 : Int32) (sp1 : Addr) (vp1 : Addr) (kp1 : ClassId) (xp1 : Int32) (yp1 : Int32) (sr0 : Addr) (vr0 : Addr) (kr0 : ClassId) (xr0 : Int32) (yr0 : Int32) (sr1 : Addr) (vr1 : Addr) (kr1 : ClassId) (xr1 : Int32) (yr1 : Int32) (h0 : Heap) (n0 : Nat) (O0 : Old Z n0 h0) (HW : Wd Z w_CS0 w_SF1) (pf0 : Exa Z h0 a0 "com/example/minderd/minderd/process/Owner") (pf1 : Exa Z h0 a1 "com/example/minderd/minderd/process/Owner") (pf2 : Fld Z h0 a0 "com/example/minderd/minderd/process/Owner" "config" "Ljava/lang/String;" (.ref sc0)) (pf3 : Exa Z h0 sc0 "java/lang/String") (pf4 : Fld Z h0 sc0 "java/lang/String" "coder" "B" (.int (0 : Int32))) (pf5 : Fld Z h0 sc0 "java/lang/String" "value" "[B" (.ref vc0)) (pf6 : Arv Z h0 vc0 kc0 .byte (2 : Int32) [(.int xc0), (.int yc0)] (.int (0 : Int32))) (pf7 : Fld Z h0 a1 "com/example/minderd/minderd/process/Owner" "config" "Ljava/lang/String;" (.ref sc1)) (pf8 : Exa Z h0 sc1 "java/lang/String") (pf9 : Fld Z h0 sc1 "java/lang/String" "coder" "B" (.int (0 : Int32))) (pf10 : Fld Z h0 sc1 "java/lang/String" "value" "[B" (.ref vc1)) (pf11 : Arv Z h0 vc1 kc1 .byte (2 : Int32) [(.int xc1), (.int yc1)] (.int (0 : Int32))) (pf12 : sc0 ≠ sc1) (pf13 : Fld Z h0 a0 "com/example/minderd/minderd/process/Owner" "program" "Ljava/lang/String;" (.ref sp0)) (pf14 : Exa Z h0 sp0 "java/lang/String") (pf15 : Fld Z h0 sp0 "java/lang/String" "coder" "B" (.int (0 : Int32))) (pf16 : Fld Z h0 sp0 "java/lang/String" "value" "[B" (.ref vp0)) (pf17 : Arv Z h0 vp0 kp0 .byte (2 : Int32) [(.int xp0), (.int yp0)] (.int (0 : Int32))) (pf18 : Fld Z h0 a1 "com/example/minderd/minderd/process/Owner" "program" "Ljava/lang/String;" (.ref sp1)) (pf19 : Exa Z h0 sp1 "java/lang/String") (pf20 : Fld Z h0 sp1 "java/lang/String" "coder" "B" (.int (0 : Int32))) (pf21 : Fld Z h0 sp1 "java/lang/String" "value" "[B" (.ref vp1)) (pf22 : Arv Z h0 vp1 kp1 .byte (2 : Int32) [(.int xp1), (.int yp1)] (.int (0 : Int32))) (pf23 : sp0 ≠ sp1) (pf24 : Fld Z h0 a0 "com/example/minderd/minderd/process/Owner" "run" "Ljava/lang/String;" (.ref sr0)) (pf25 : Exa Z h0 sr0 "java/lang/String") (pf26 : Fld Z h0 sr0 "java/lang/String" "coder" "B" (.int (0 : Int32))) (pf27 : Fld Z h0 sr0 "java/lang/String" "value" "[B" (.ref vr0)) (pf28 : Arv Z h0 vr0 kr0 .byte (2 : Int32) [(.int xr0), (.int yr0)] (.int (0 : Int32))) (pf29 : Fld Z h0 a1 "com/example/minderd/minderd/process/Owner" "run" "Ljava/lang/String;" (.ref sr1)) (pf30 : Exa Z h0 sr1 "java/lang/String") (pf31 : Fld Z h0 sr1 "java/lang/String" "coder" "B" (.int (0 : Int32))) (pf32 : Fld Z h0 sr1 "java/lang/String" "value" "[B" (.ref vr1)) (pf33 : Arv Z h0 vr1 kr1 .byte (2 : Int32) [(.int xr1), (.int yr1)] (.int (0 : Int32))) (pf34 : sr0 ≠ sr1) :
    MetFree l y10 (head1 (Jvm.Cond.code y10 prog_30_method_9_code 3 (some .boolean) :: ws) ({ frames := 2, cells := 0, slots := 0, locals := 28 } : Room)) (fun a U => a = #[(.ref a0), (.ref a1)] ∧ Z.Warmed39 U.vm ∧ U.heap = h0) (fun _ _ _ _ _ => True) (fun _ U o U' => ∃ v L, o = .returned v ∧ Q10 Z a0 a1 w_CS0 w_SF1 sc0 vc0 kc0 xc0 yc0 sc1 vc1 kc1 xc1 yc1 sp0 vp0 kp0 xp0 yp0 sp1 vp1 kp1 xp1 yp1 sr0 vr0 kr0 xr0 yr0 sr1 vr1 kr1 xr1 yr1 h0 n0 v U'.heap L ∧ FrameEnd U o U' L ({ frames := 2, cells := 0, slots := 0, locals := 28 } : Room).cells ({ frames := 2, cells := 0, slots := 0, locals := 28 } : Room).slots) := by
 refine MetFree.of_bodySF (plainFor_of_name pn_3) hisR ?_
 intro p e s m args below meth c s₁ Bd hml0 hP hK
 obtain ⟨rfl, hZ, hh⟩ := hP
 have hx := Bd.exec
 have hby := Bd.bytes
 have hml : c.maxLocals = 3 := hml0
 have hown : s.vm.findClass "com/example/minderd/minderd/process/Owner" = some m.cls := findClass_of_methodNamed Bd.named
 have hnm := (name_of_methodNamed Bd.named Bd.method).1
 have hlk : meth.locks = false := by first | assumption | exact BodyLoose.notSynchronized (by assumption) | exact Body.notSynchronized (by assumption)
 have X0 : Stand p l e ({ frames := 2, cells := 0, slots := 0, locals := 28 } : Room) s m #[(.ref a0), (.ref a1)] below meth c s₁ [] 0 0 := Stand.of_body Bd
 have e0 : s₁.heap = h0 := by rw [← hh, Bd.state]; rfl
 have N0 := Fr.nil n0
 have Z0 : n0 ≤ h0.size := Nat.le_trans (Nat.le_of_eq O0.1.symm) O0.2.1
 obtain ⟨S0, hS0⟩ : ∃ z, z = s₁.setTop (entryFrame m #[(.ref a0), (.ref a1)] 3) := ⟨_, rfl⟩
 have pre0 : ∀ tg, AT p e below s₁ m 0 #[rv a0, rv a1, un] [] tg → Steps p.tables e below S0 tg := fun tg kg => by rw [hS0]; exact castTop (ef_10 m a0 a1) kg
 obtain ⟨S_COMPACT_STRINGS, hz_w_CS0, S_SIOOBE_FORMATTER, ir_w_SF1⟩ := id HW
 obtain ⟨T1, X1, e1, st1⟩ := instY X0 hx hZ hown (ow hw 55 rfl) e0 (Ins.self pf1) (g := (mkF m 1 #[rv a0, rv a1, un] [(.ref a1)])) rfl rfl (hb hby d10_1)
 obtain ⟨T2, X2, e2, st2⟩ := castY X1 hx hZ hown (ow hw 55 rfl) e1 (Ins.self pf1) (g := (mkF m 8 #[rv a0, rv a1, un] [(.ref a1)])) rfl rfl (hb hby d10_8)
 obtain ⟨T3, X3, e3, st3⟩ := getF X2 hx hZ hown (host := "") (Or.inl (ow hw 41 rfl)) Via.refl e2 pf2 (g := (mkF m 13 #[rv a0, rv a1, rv a1] [(.ref a0)])) rfl rfl (hb hby d10_13)
 obtain ⟨T4, X4, e4, st4⟩ := getF X3 hx hZ hown (host := "") (Or.inl (ow hw 41 rfl)) Via.refl e3 pf7 (g := (mkF m 17 #[rv a0, rv a1, rv a1] [(.ref a1), (.ref sc0)])) rfl rfl (hb hby d10_17)
 obtain ⟨cq5, kq5, q5a, q5b, q5c⟩ := isOf hZ e4 pf3
 obtain ⟨_, _, ⟨T5, L5, k5, n5⟩, -, X5, ⟨Lc5, hQ5, l5, y5, z5⟩, st5⟩ := X4.virtualBack hx (y := y11) (z := y11) hown (mvT hZ (ow hw 57 rfl)) (mvT hZ (ow hw 58 rfl)) (notFace_of_selects (args := #[]) (mvT hZ (ow hw 60 rfl))) (mvT hZ (ow hw 60 rfl)) (mvT hZ (ow hw 59 rfl)) (by decide) (backOf (W := 0) (rm11 l Z ar hw [] sc0 sc1 w_CS0 w_SF1 vc0 vc1 kc0 kc1 xc0 yc0 xc1 yc1 h0 n0 O0 HW pf3 pf8 pf4 pf9 pf5 pf10 pf6 pf11 pf12) hZ (ow hw 61 rfl) (ow hw 10 rfl) (by decide) (by decide)) q5a q5c (g := (mkF m 20 #[rv a0, rv a1, rv a1] [(.ref sc1), (.ref sc0)])) rfl (by rw [hml]; rfl) (Steps.refl _) (argsL := [(.ref sc1)]) (rest := []) (lenOf pd_6 rfl) rfl (by show 2 * 0 + _ ≤ _; exact Nat.le_of_eq rfl) (hb hby d10_20) (fun _ _ => ⟨rfl, e4, (by decide : 0 + 0 ≤ _), (by decide : 0 + 0 ≤ _)⟩)
 dsimp only [Pt.U, Pt.locs, Pt.cells, Pt.slots] at X5 l5 y5 z5 st5 hQ5
 subst l5 y5 z5
 obtain ⟨rfl, N5q, e5⟩ := hQ5
 have N5 := Fr.app N0 N5q
 have pre6 : ∀ tg, AT p e below T5 m 23 #[rv a0, rv a1, rv a1] [(.int (f11 xc0 yc0 xc1 yc1))] tg → Steps p.tables e below S0 tg := fun tg kg => pre0 tg (by
  refine XS.aloadN X0.here hx rfl (hb hby d10_0) rfl rfl ?_
  refine st1 _ ?_
  show AT p e below T1 m 4 #[rv a0, rv a1, un] [(.int (1 : Int32))] _
  refine XS.ifNo X1.here hx rfl (hb hby d10_4) rfl (XT.i0_eq_f ((by decide) : ¬ ((1 : Int32) = (0 : Int32)))) ?_
  refine XS.aloadN X1.here hx rfl (hb hby d10_7) rfl rfl ?_
  refine st2 _ ?_
  show AT p e below T2 m 11 #[rv a0, rv a1, un] [(.ref a1)] _
  refine XS.astoreN X2.here hx rfl (hb hby d10_11) rfl rfl (l' := #[rv a0, rv a1, rv a1]) rfl ?_
  refine XS.aloadN X2.here hx rfl (hb hby d10_12) rfl rfl ?_
  refine st3 _ ?_
  refine XS.aloadN X3.here hx rfl (hb hby d10_16) rfl rfl ?_
  show AT p e below T3 m 17 #[rv a0, rv a1, rv a1] [(.ref a1), (.ref sc0)] _
  refine st4 _ ?_
  refine st5.trans ?_
  exact kg)
 rcases Decidable.em ((f11 xc0 yc0 xc1 yc1) = (0 : Int32)) with hc7 | hc7
 ·
  obtain ⟨fs, hr, hrun, hended, hW, hsame⟩ := X5.leave (v := some (.int (0 : Int32))) (fun h => by rw [Bd.returns] at h; cases h) hlk
  subst hS0
  refine ⟨_, _, pre6 _ ?_, hrun, hended, _, _, rfl, ?_, ⟨_, rfl⟩, hW, hsame.mono (by decide) (by decide)⟩
  ·
   refine XS.ifYes X5.here hx rfl (pc0 := 23) (pc' := 58) rfl (hb hby d10_23) rfl (XT.i0_eq_t hc7) (by decide) (by decide) ?_
   refine XS.iconst X5.here hx rfl (hb hby d10_58) ?_
   exact retN X5 hx (t := .boolean) Bd.returns (by simp) (hb hby d10_59) hr
  ·
   show Q10 Z a0 a1 w_CS0 w_SF1 sc0 vc0 kc0 xc0 yc0 sc1 vc1 kc1 xc1 yc1 sp0 vp0 kp0 xp0 yp0 sp1 vp1 kp1 xp1 yp1 sr0 vr0 kr0 xr0 yr0 sr1 vr1 kr1 xr1 yr1 h0 n0 _ T5.heap _
   rw [e5]
   exact ⟨(by rw [f10, if_pos hc7]), N5, rfl⟩
 ·
  obtain ⟨T8, X8, e8, st8⟩ := getF X5 hx hZ hown (host := "") (Or.inl (ow hw 43 rfl)) Via.refl e5 pf13 (g := (mkF m 27 #[rv a0, rv a1, rv a1] [(.ref a0)])) rfl rfl (hb hby d10_27)
  obtain ⟨T9, X9, e9, st9⟩ := getF X8 hx hZ hown (host := "") (Or.inl (ow hw 43 rfl)) Via.refl e8 pf18 (g := (mkF m 31 #[rv a0, rv a1, rv a1] [(.ref a1), (.ref sp0)])) rfl rfl (hb hby d10_31)
  obtain ⟨cq10, kq10, q10a, q10b, q10c⟩ := isOf hZ e9 pf14
  obtain ⟨_, _, ⟨T10, L10, k10, n10⟩, -, X10, ⟨Lc10, hQ10, l10, y10, z10⟩, st10⟩ := X9.virtualBack hx (y := y11) (z := y11) hown (mvT hZ (ow hw 57 rfl)) (mvT hZ (ow hw 58 rfl)) (notFace_of_selects (args := #[]) (mvT hZ (ow hw 60 rfl))) (mvT hZ (ow hw 60 rfl)) (mvT hZ (ow hw 59 rfl)) (by decide) (backOf (W := 0) (rm11 l Z ar hw [] sp0 sp1 w_CS0 w_SF1 vp0 vp1 kp0 kp1 xp0 yp0 xp1 yp1 h0 n0 O0 HW pf14 pf19 pf15 pf20 pf16 pf21 pf17 pf22 pf23) hZ (ow hw 61 rfl) (ow hw 10 rfl) (by decide) (by decide)) q10a q10c (g := (mkF m 34 #[rv a0, rv a1, rv a1] [(.ref sp1), (.ref sp0)])) rfl (by rw [hml]; rfl) (Steps.refl _) (argsL := [(.ref sp1)]) (rest := []) (lenOf pd_6 rfl) rfl (by show 2 * 0 + _ ≤ _; exact Nat.le_of_eq rfl) (hb hby d10_34) (fun _ _ => ⟨rfl, e9, (by decide : 0 + 0 ≤ _), (by decide : 0 + 0 ≤ _)⟩)
  dsimp only [Pt.U, Pt.locs, Pt.cells, Pt.slots] at X10 l10 y10 z10 st10 hQ10
  subst l10 y10 z10
  obtain ⟨rfl, N10q, e10⟩ := hQ10
  have N10 := Fr.app N5 N10q
  have pre11 : ∀ tg, AT p e below T10 m 37 #[rv a0, rv a1, rv a1] [(.int (f11 xp0 yp0 xp1 yp1))] tg → Steps p.tables e below S0 tg := fun tg kg => pre6 tg (by
   refine XS.ifNo X5.here hx rfl (hb hby d10_23) rfl (XT.i0_eq_f hc7) ?_
   refine XS.aloadN X5.here hx rfl (hb hby d10_26) rfl rfl ?_
   refine st8 _ ?_
   show AT p e below T8 m 30 #[rv a0, rv a1, rv a1] [(.ref sp0)] _
   refine XS.aloadN X8.here hx rfl (hb hby d10_30) rfl rfl ?_
   refine st9 _ ?_
   refine st10.trans ?_
   exact kg)
  rcases Decidable.em ((f11 xp0 yp0 xp1 yp1) = (0 : Int32)) with hc12 | hc12
  ·
   obtain ⟨fs, hr, hrun, hended, hW, hsame⟩ := X10.leave (v := some (.int (0 : Int32))) (fun h => by rw [Bd.returns] at h; cases h) hlk
   subst hS0
   refine ⟨_, _, pre11 _ ?_, hrun, hended, _, _, rfl, ?_, ⟨_, rfl⟩, hW, hsame.mono (by decide) (by decide)⟩
   ·
    refine XS.ifYes X10.here hx rfl (pc0 := 37) (pc' := 58) rfl (hb hby d10_37) rfl (XT.i0_eq_t hc12) (by decide) (by decide) ?_
    refine XS.iconst X10.here hx rfl (hb hby d10_58) ?_
    show AT p e below T10 m 59 #[rv a0, rv a1, rv a1] [(.int (0 : Int32))] _
    exact retN X10 hx (t := .boolean) Bd.returns (by simp) (hb hby d10_59) hr
   ·
    show Q10 Z a0 a1 w_CS0 w_SF1 sc0 vc0 kc0 xc0 yc0 sc1 vc1 kc1 xc1 yc1 sp0 vp0 kp0 xp0 yp0 sp1 vp1 kp1 xp1 yp1 sr0 vr0 kr0 xr0 yr0 sr1 vr1 kr1 xr1 yr1 h0 n0 _ T10.heap _
    rw [e10]
    exact ⟨(by rw [f10, if_neg hc7, if_pos hc12]), N10, rfl⟩
  ·
   obtain ⟨T13, X13, e13, st13⟩ := getF X10 hx hZ hown (host := "") (Or.inl (ow hw 45 rfl)) Via.refl e10 pf24 (g := (mkF m 41 #[rv a0, rv a1, rv a1] [(.ref a0)])) rfl rfl (hb hby d10_41)
   obtain ⟨T14, X14, e14, st14⟩ := getF X13 hx hZ hown (host := "") (Or.inl (ow hw 45 rfl)) Via.refl e13 pf29 (g := (mkF m 45 #[rv a0, rv a1, rv a1] [(.ref a1), (.ref sr0)])) rfl rfl (hb hby d10_45)
   obtain ⟨cq15, kq15, q15a, q15b, q15c⟩ := isOf hZ e14 pf25
   obtain ⟨_, _, ⟨T15, L15, k15, n15⟩, -, X15, ⟨Lc15, hQ15, l15, y15, z15⟩, st15⟩ := X14.virtualBack hx (y := y11) (z := y11) hown (mvT hZ (ow hw 57 rfl)) (mvT hZ (ow hw 58 rfl)) (notFace_of_selects (args := #[]) (mvT hZ (ow hw 60 rfl))) (mvT hZ (ow hw 60 rfl)) (mvT hZ (ow hw 59 rfl)) (by decide) (backOf (W := 0) (rm11 l Z ar hw [] sr0 sr1 w_CS0 w_SF1 vr0 vr1 kr0 kr1 xr0 yr0 xr1 yr1 h0 n0 O0 HW pf25 pf30 pf26 pf31 pf27 pf32 pf28 pf33 pf34) hZ (ow hw 61 rfl) (ow hw 10 rfl) (by decide) (by decide)) q15a q15c (g := (mkF m 48 #[rv a0, rv a1, rv a1] [(.ref sr1), (.ref sr0)])) rfl (by rw [hml]; rfl) (Steps.refl _) (argsL := [(.ref sr1)]) (rest := []) (lenOf pd_6 rfl) rfl (by show 2 * 0 + _ ≤ _; exact Nat.le_of_eq rfl) (hb hby d10_48) (fun _ _ => ⟨rfl, e14, (by decide : 0 + 0 ≤ _), (by decide : 0 + 0 ≤ _)⟩)
   dsimp only [Pt.U, Pt.locs, Pt.cells, Pt.slots] at X15 l15 y15 z15 st15 hQ15
   subst l15 y15 z15
   obtain ⟨rfl, N15q, e15⟩ := hQ15
   have N15 := Fr.app N10 N15q
   have pre16 : ∀ tg, AT p e below T15 m 51 #[rv a0, rv a1, rv a1] [(.int (f11 xr0 yr0 xr1 yr1))] tg → Steps p.tables e below S0 tg := fun tg kg => pre11 tg (by
    refine XS.ifNo X10.here hx rfl (hb hby d10_37) rfl (XT.i0_eq_f hc12) ?_
    refine XS.aloadN X10.here hx rfl (hb hby d10_40) rfl rfl ?_
    show AT p e below T10 m 41 #[rv a0, rv a1, rv a1] [(.ref a0)] _
    refine st13 _ ?_
    refine XS.aloadN X13.here hx rfl (hb hby d10_44) rfl rfl ?_
    refine st14 _ ?_
    refine st15.trans ?_
    exact kg)
   rcases Decidable.em ((f11 xr0 yr0 xr1 yr1) = (0 : Int32)) with hc17 | hc17
   ·
    obtain ⟨fs, hr, hrun, hended, hW, hsame⟩ := X15.leave (v := some (.int (0 : Int32))) (fun h => by rw [Bd.returns] at h; cases h) hlk
    subst hS0
    refine ⟨_, _, pre16 _ ?_, hrun, hended, _, _, rfl, ?_, ⟨_, rfl⟩, hW, hsame.mono (by decide) (by decide)⟩
    ·
     refine XS.ifYes X15.here hx rfl (pc0 := 51) (pc' := 58) rfl (hb hby d10_51) rfl (XT.i0_eq_t hc17) (by decide) (by decide) ?_
     show AT p e below T15 m 58 #[rv a0, rv a1, rv a1] [] _
     refine XS.iconst X15.here hx rfl (hb hby d10_58) ?_
     exact retN X15 hx (t := .boolean) Bd.returns (by simp) (hb hby d10_59) hr
    ·
     show Q10 Z a0 a1 w_CS0 w_SF1 sc0 vc0 kc0 xc0 yc0 sc1 vc1 kc1 xc1 yc1 sp0 vp0 kp0 xp0 yp0 sp1 vp1 kp1 xp1 yp1 sr0 vr0 kr0 xr0 yr0 sr1 vr1 kr1 xr1 yr1 h0 n0 _ T15.heap _
     rw [e15]
     exact ⟨(by rw [f10, if_neg hc7, if_neg hc12, if_pos hc17]), N15, rfl⟩
   ·
    obtain ⟨fs, hr, hrun, hended, hW, hsame⟩ := X15.leave (v := some (.int (1 : Int32))) (fun h => by rw [Bd.returns] at h; cases h) hlk
    subst hS0
    refine ⟨_, _, pre16 _ ?_, hrun, hended, _, _, rfl, ?_, ⟨_, rfl⟩, hW, hsame.mono (by decide) (by decide)⟩
    ·
     refine XS.ifNo X15.here hx rfl (hb hby d10_51) rfl (XT.i0_eq_f hc17) ?_
     show AT p e below T15 m 54 #[rv a0, rv a1, rv a1] [] _
     refine XS.iconst X15.here hx rfl (hb hby d10_54) ?_
     refine XS.goto X15.here hx rfl (pc0 := 55) (pc' := 59) rfl (hb hby d10_55) (by decide) (by decide) ?_
     exact retN X15 hx (t := .boolean) Bd.returns (by simp) (hb hby d10_59) hr
    ·
     show Q10 Z a0 a1 w_CS0 w_SF1 sc0 vc0 kc0 xc0 yc0 sc1 vc1 kc1 xc1 yc1 sp0 vp0 kp0 xp0 yp0 sp1 vp1 kp1 xp1 yp1 sr0 vr0 kr0 xr0 yr0 sr1 vr1 kr1 xr1 yr1 h0 n0 _ T15.heap _
     rw [e15]
     exact ⟨(by rw [f10, if_neg hc7, if_neg hc12, if_neg hc17]), N15, rfl⟩

theorem ef_10s (m : MethodId) (a0 : Addr) : entryFrame m #[(.ref a0), (.ref a0)] 3 = mkF m 0 #[rv a0, rv a0, un] [] := by first | (simp [entryFrame, mkF, argsToLocals, Value.category]; done) | rfl
def Q10s (Z : State) (a0 : Addr) (sc : Addr) (sp : Addr) (sr : Addr) (h0 : Heap) (n0 : Nat) (v : Option Value) (h : Heap) (L : List Loc) : Prop := v = some (.int (1 : Int32)) ∧ Fr n0 L ∧ h = h0
set_option maxRecDepth 65536 in
set_option maxHeartbeats 40000000 in
theorem rm10s (l : Launch) (Z : State) (ar : Array Value) (hw : ∀ d ∈ tables_1, d.before ar Z = true) (ws : List Jvm.Cond) (a0 : Addr) (sc : Addr) (sp : Addr) (sr : Addr) (h0 : Heap) (n0 : Nat) (O0 : Old Z n0 h0) (pf0 : Exa Z h0 a0 "com/example/minderd/minderd/process/Owner") (pf1 : Fld Z h0 a0 "com/example/minderd/minderd/process/Owner" "config" "Ljava/lang/String;" (.ref sc)) (pf2 : Exa Z h0 sc "java/lang/String") (pf3 : Fld Z h0 a0 "com/example/minderd/minderd/process/Owner" "program" "Ljava/lang/String;" (.ref sp)) (pf4 : Exa Z h0 sp "java/lang/String") (pf5 : Fld Z h0 a0 "com/example/minderd/minderd/process/Owner" "run" "Ljava/lang/String;" (.ref sr)) (pf6 : Exa Z h0 sr "java/lang/String") :
    MetFree l y10 (head1 (Jvm.Cond.code y10 prog_30_method_9_code 3 (some .boolean) :: ws) ({ frames := 1, cells := 0, slots := 0, locals := 14 } : Room)) (fun a U => a = #[(.ref a0), (.ref a0)] ∧ Z.Warmed39 U.vm ∧ U.heap = h0) (fun _ _ _ _ _ => True) (fun _ U o U' => ∃ v L, o = .returned v ∧ Q10s Z a0 sc sp sr h0 n0 v U'.heap L ∧ FrameEnd U o U' L ({ frames := 1, cells := 0, slots := 0, locals := 14 } : Room).cells ({ frames := 1, cells := 0, slots := 0, locals := 14 } : Room).slots) := by
 refine MetFree.of_bodySF (plainFor_of_name pn_3) hisR ?_
 intro p e s m args below meth c s₁ Bd hml0 hP hK
 obtain ⟨rfl, hZ, hh⟩ := hP
 have hx := Bd.exec
 have hby := Bd.bytes
 have hml : c.maxLocals = 3 := hml0
 have hown : s.vm.findClass "com/example/minderd/minderd/process/Owner" = some m.cls := findClass_of_methodNamed Bd.named
 have hnm := (name_of_methodNamed Bd.named Bd.method).1
 have hlk : meth.locks = false := by first | assumption | exact BodyLoose.notSynchronized (by assumption) | exact Body.notSynchronized (by assumption)
 have X0 : Stand p l e ({ frames := 1, cells := 0, slots := 0, locals := 14 } : Room) s m #[(.ref a0), (.ref a0)] below meth c s₁ [] 0 0 := Stand.of_body Bd
 have e0 : s₁.heap = h0 := by rw [← hh, Bd.state]; rfl
 have N0 := Fr.nil n0
 have Z0 : n0 ≤ h0.size := Nat.le_trans (Nat.le_of_eq O0.1.symm) O0.2.1
 obtain ⟨S0, hS0⟩ : ∃ z, z = s₁.setTop (entryFrame m #[(.ref a0), (.ref a0)] 3) := ⟨_, rfl⟩
 have pre0 : ∀ tg, AT p e below s₁ m 0 #[rv a0, rv a0, un] [] tg → Steps p.tables e below S0 tg := fun tg kg => by rw [hS0]; exact castTop (ef_10s m a0) kg
 obtain ⟨T1, X1, e1, st1⟩ := instY X0 hx hZ hown (ow hw 55 rfl) e0 (Ins.self pf0) (g := (mkF m 1 #[rv a0, rv a0, un] [(.ref a0)])) rfl rfl (hb hby d10_1)
 obtain ⟨T2, X2, e2, st2⟩ := castY X1 hx hZ hown (ow hw 55 rfl) e1 (Ins.self pf0) (g := (mkF m 8 #[rv a0, rv a0, un] [(.ref a0)])) rfl rfl (hb hby d10_8)
 obtain ⟨T3, X3, e3, st3⟩ := getF X2 hx hZ hown (host := "") (Or.inl (ow hw 41 rfl)) Via.refl e2 pf1 (g := (mkF m 13 #[rv a0, rv a0, rv a0] [(.ref a0)])) rfl rfl (hb hby d10_13)
 obtain ⟨T4, X4, e4, st4⟩ := getF X3 hx hZ hown (host := "") (Or.inl (ow hw 41 rfl)) Via.refl e3 pf1 (g := (mkF m 17 #[rv a0, rv a0, rv a0] [(.ref a0), (.ref sc)])) rfl rfl (hb hby d10_17)
 obtain ⟨cq5, kq5, q5a, q5b, q5c⟩ := isOf hZ e4 pf2
 obtain ⟨_, _, ⟨T5, L5, k5, n5⟩, -, X5, ⟨Lc5, hQ5, l5, y5, z5⟩, st5⟩ := X4.virtualBack hx (y := y11) (z := y11) hown (mvT hZ (ow hw 57 rfl)) (mvT hZ (ow hw 58 rfl)) (notFace_of_selects (args := #[]) (mvT hZ (ow hw 60 rfl))) (mvT hZ (ow hw 60 rfl)) (mvT hZ (ow hw 59 rfl)) (by decide) (backOf (W := 0) (rm11s l Z ar hw [] sc h0 n0 O0 pf2) hZ (ow hw 61 rfl) (ow hw 10 rfl) (by decide) (by decide)) q5a q5c (g := (mkF m 20 #[rv a0, rv a0, rv a0] [(.ref sc), (.ref sc)])) rfl (by rw [hml]; rfl) (Steps.refl _) (argsL := [(.ref sc)]) (rest := []) (lenOf pd_6 rfl) rfl (by show 2 * 0 + _ ≤ _; exact Nat.le_of_eq rfl) (hb hby d10_20) (fun _ _ => ⟨rfl, e4, (by decide : 0 + 0 ≤ _), (by decide : 0 + 0 ≤ _)⟩)
 dsimp only [Pt.U, Pt.locs, Pt.cells, Pt.slots] at X5 l5 y5 z5 st5 hQ5
 subst l5 y5 z5
 obtain ⟨rfl, N5q, e5⟩ := hQ5
 have N5 := Fr.app N0 N5q
 obtain ⟨T6, X6, e6, st6⟩ := getF X5 hx hZ hown (host := "") (Or.inl (ow hw 43 rfl)) Via.refl e5 pf3 (g := (mkF m 27 #[rv a0, rv a0, rv a0] [(.ref a0)])) rfl rfl (hb hby d10_27)
 obtain ⟨T7, X7, e7, st7⟩ := getF X6 hx hZ hown (host := "") (Or.inl (ow hw 43 rfl)) Via.refl e6 pf3 (g := (mkF m 31 #[rv a0, rv a0, rv a0] [(.ref a0), (.ref sp)])) rfl rfl (hb hby d10_31)
 obtain ⟨cq8, kq8, q8a, q8b, q8c⟩ := isOf hZ e7 pf4
 obtain ⟨_, _, ⟨T8, L8, k8, n8⟩, -, X8, ⟨Lc8, hQ8, l8, y8, z8⟩, st8⟩ := X7.virtualBack hx (y := y11) (z := y11) hown (mvT hZ (ow hw 57 rfl)) (mvT hZ (ow hw 58 rfl)) (notFace_of_selects (args := #[]) (mvT hZ (ow hw 60 rfl))) (mvT hZ (ow hw 60 rfl)) (mvT hZ (ow hw 59 rfl)) (by decide) (backOf (W := 0) (rm11s l Z ar hw [] sp h0 n0 O0 pf4) hZ (ow hw 61 rfl) (ow hw 10 rfl) (by decide) (by decide)) q8a q8c (g := (mkF m 34 #[rv a0, rv a0, rv a0] [(.ref sp), (.ref sp)])) rfl (by rw [hml]; rfl) (Steps.refl _) (argsL := [(.ref sp)]) (rest := []) (lenOf pd_6 rfl) rfl (by show 2 * 0 + _ ≤ _; exact Nat.le_of_eq rfl) (hb hby d10_34) (fun _ _ => ⟨rfl, e7, (by decide : 0 + 0 ≤ _), (by decide : 0 + 0 ≤ _)⟩)
 dsimp only [Pt.U, Pt.locs, Pt.cells, Pt.slots] at X8 l8 y8 z8 st8 hQ8
 subst l8 y8 z8
 obtain ⟨rfl, N8q, e8⟩ := hQ8
 have N8 := Fr.app N5 N8q
 obtain ⟨T9, X9, e9, st9⟩ := getF X8 hx hZ hown (host := "") (Or.inl (ow hw 45 rfl)) Via.refl e8 pf5 (g := (mkF m 41 #[rv a0, rv a0, rv a0] [(.ref a0)])) rfl rfl (hb hby d10_41)
 obtain ⟨T10, X10, e10, st10⟩ := getF X9 hx hZ hown (host := "") (Or.inl (ow hw 45 rfl)) Via.refl e9 pf5 (g := (mkF m 45 #[rv a0, rv a0, rv a0] [(.ref a0), (.ref sr)])) rfl rfl (hb hby d10_45)
 obtain ⟨cq11, kq11, q11a, q11b, q11c⟩ := isOf hZ e10 pf6
 obtain ⟨_, _, ⟨T11, L11, k11, n11⟩, -, X11, ⟨Lc11, hQ11, l11, y11, z11⟩, st11⟩ := X10.virtualBack hx (y := y11) (z := y11) hown (mvT hZ (ow hw 57 rfl)) (mvT hZ (ow hw 58 rfl)) (notFace_of_selects (args := #[]) (mvT hZ (ow hw 60 rfl))) (mvT hZ (ow hw 60 rfl)) (mvT hZ (ow hw 59 rfl)) (by decide) (backOf (W := 0) (rm11s l Z ar hw [] sr h0 n0 O0 pf6) hZ (ow hw 61 rfl) (ow hw 10 rfl) (by decide) (by decide)) q11a q11c (g := (mkF m 48 #[rv a0, rv a0, rv a0] [(.ref sr), (.ref sr)])) rfl (by rw [hml]; rfl) (Steps.refl _) (argsL := [(.ref sr)]) (rest := []) (lenOf pd_6 rfl) rfl (by show 2 * 0 + _ ≤ _; exact Nat.le_of_eq rfl) (hb hby d10_48) (fun _ _ => ⟨rfl, e10, (by decide : 0 + 0 ≤ _), (by decide : 0 + 0 ≤ _)⟩)
 dsimp only [Pt.U, Pt.locs, Pt.cells, Pt.slots] at X11 l11 y11 z11 st11 hQ11
 subst l11 y11 z11
 obtain ⟨rfl, N11q, e11⟩ := hQ11
 have N11 := Fr.app N8 N11q
 obtain ⟨fs, hr, hrun, hended, hW, hsame⟩ := X11.leave (v := some (.int (1 : Int32))) (fun h => by rw [Bd.returns] at h; cases h) hlk
 subst hS0
 refine ⟨_, _, pre0 _ ?_, hrun, hended, _, _, rfl, ?_, ⟨_, rfl⟩, hW, hsame.mono (by decide) (by decide)⟩
 ·
  refine XS.aloadN X0.here hx rfl (hb hby d10_0) rfl rfl ?_
  refine st1 _ ?_
  show AT p e below T1 m 4 #[rv a0, rv a0, un] [(.int (1 : Int32))] _
  refine XS.ifNo X1.here hx rfl (hb hby d10_4) rfl (XT.i0_eq_f ((by decide) : ¬ ((1 : Int32) = (0 : Int32)))) ?_
  refine XS.aloadN X1.here hx rfl (hb hby d10_7) rfl rfl ?_
  refine st2 _ ?_
  show AT p e below T2 m 11 #[rv a0, rv a0, un] [(.ref a0)] _
  refine XS.astoreN X2.here hx rfl (hb hby d10_11) rfl rfl (l' := #[rv a0, rv a0, rv a0]) rfl ?_
  refine XS.aloadN X2.here hx rfl (hb hby d10_12) rfl rfl ?_
  refine st3 _ ?_
  refine XS.aloadN X3.here hx rfl (hb hby d10_16) rfl rfl ?_
  show AT p e below T3 m 17 #[rv a0, rv a0, rv a0] [(.ref a0), (.ref sc)] _
  refine st4 _ ?_
  refine st5.trans ?_
  show AT p e below T5 m 23 #[rv a0, rv a0, rv a0] [(.int (1 : Int32))] _
  refine XS.ifNo X5.here hx rfl (hb hby d10_23) rfl (XT.i0_eq_f ((by decide) : ¬ ((1 : Int32) = (0 : Int32)))) ?_
  refine XS.aloadN X5.here hx rfl (hb hby d10_26) rfl rfl ?_
  refine st6 _ ?_
  show AT p e below T6 m 30 #[rv a0, rv a0, rv a0] [(.ref sp)] _
  refine XS.aloadN X6.here hx rfl (hb hby d10_30) rfl rfl ?_
  refine st7 _ ?_
  refine st8.trans ?_
  show AT p e below T8 m 37 #[rv a0, rv a0, rv a0] [(.int (1 : Int32))] _
  refine XS.ifNo X8.here hx rfl (hb hby d10_37) rfl (XT.i0_eq_f ((by decide) : ¬ ((1 : Int32) = (0 : Int32)))) ?_
  refine XS.aloadN X8.here hx rfl (hb hby d10_40) rfl rfl ?_
  show AT p e below T8 m 41 #[rv a0, rv a0, rv a0] [(.ref a0)] _
  refine st9 _ ?_
  refine XS.aloadN X9.here hx rfl (hb hby d10_44) rfl rfl ?_
  refine st10 _ ?_
  refine st11.trans ?_
  show AT p e below T11 m 51 #[rv a0, rv a0, rv a0] [(.int (1 : Int32))] _
  refine XS.ifNo X11.here hx rfl (hb hby d10_51) rfl (XT.i0_eq_f ((by decide) : ¬ ((1 : Int32) = (0 : Int32)))) ?_
  show AT p e below T11 m 54 #[rv a0, rv a0, rv a0] [] _
  refine XS.iconst X11.here hx rfl (hb hby d10_54) ?_
  refine XS.goto X11.here hx rfl (pc0 := 55) (pc' := 59) rfl (hb hby d10_55) (by decide) (by decide) ?_
  exact retN X11 hx (t := .boolean) Bd.returns (by simp) (hb hby d10_59) hr
 ·
  show Q10s Z a0 sc sp sr h0 n0 _ T11.heap _
  rw [e11]
  exact ⟨rfl, N11, rfl⟩

theorem ef_10n (m : MethodId) (a0 : Addr) : entryFrame m #[(.ref a0), .null] 3 = mkF m 0 #[rv a0, .val .null, un] [] := by first | (simp [entryFrame, mkF, argsToLocals, Value.category]; done) | rfl
def Q10n (Z : State) (a0 : Addr) (h0 : Heap) (n0 : Nat) (v : Option Value) (h : Heap) (L : List Loc) : Prop := v = some (.int (0 : Int32)) ∧ Fr n0 L ∧ h = h0
set_option maxRecDepth 65536 in
set_option maxHeartbeats 40000000 in
theorem rm10n (l : Launch) (Z : State) (ar : Array Value) (hw : ∀ d ∈ tables_1, d.before ar Z = true) (ws : List Jvm.Cond) (a0 : Addr) (h0 : Heap) (n0 : Nat) (O0 : Old Z n0 h0) (pf0 : Exa Z h0 a0 "com/example/minderd/minderd/process/Owner") :
    MetFree l y10 (head1 (Jvm.Cond.code y10 prog_30_method_9_code 3 (some .boolean) :: ws) ({ frames := 0, cells := 0, slots := 0, locals := 0 } : Room)) (fun a U => a = #[(.ref a0), .null] ∧ Z.Warmed39 U.vm ∧ U.heap = h0) (fun _ _ _ _ _ => True) (fun _ U o U' => ∃ v L, o = .returned v ∧ Q10n Z a0 h0 n0 v U'.heap L ∧ FrameEnd U o U' L ({ frames := 0, cells := 0, slots := 0, locals := 0 } : Room).cells ({ frames := 0, cells := 0, slots := 0, locals := 0 } : Room).slots) := by
 refine MetFree.of_bodySF (plainFor_of_name pn_3) hisR ?_
 intro p e s m args below meth c s₁ Bd hml0 hP hK
 obtain ⟨rfl, hZ, hh⟩ := hP
 have hx := Bd.exec
 have hby := Bd.bytes
 have hml : c.maxLocals = 3 := hml0
 have hown : s.vm.findClass "com/example/minderd/minderd/process/Owner" = some m.cls := findClass_of_methodNamed Bd.named
 have hnm := (name_of_methodNamed Bd.named Bd.method).1
 have hlk : meth.locks = false := by first | assumption | exact BodyLoose.notSynchronized (by assumption) | exact Body.notSynchronized (by assumption)
 have X0 : Stand p l e ({ frames := 0, cells := 0, slots := 0, locals := 0 } : Room) s m #[(.ref a0), .null] below meth c s₁ [] 0 0 := Stand.of_body Bd
 have e0 : s₁.heap = h0 := by rw [← hh, Bd.state]; rfl
 have N0 := Fr.nil n0
 have Z0 : n0 ≤ h0.size := Nat.le_trans (Nat.le_of_eq O0.1.symm) O0.2.1
 obtain ⟨S0, hS0⟩ : ∃ z, z = s₁.setTop (entryFrame m #[(.ref a0), .null] 3) := ⟨_, rfl⟩
 have pre0 : ∀ tg, AT p e below s₁ m 0 #[rv a0, .val .null, un] [] tg → Steps p.tables e below S0 tg := fun tg kg => by rw [hS0]; exact castTop (ef_10n m a0) kg
 obtain ⟨fs, hr, hrun, hended, hW, hsame⟩ := X0.leave (v := some (.int (0 : Int32))) (fun h => by rw [Bd.returns] at h; cases h) hlk
 subst hS0
 refine ⟨_, _, pre0 _ ?_, hrun, hended, _, _, rfl, ?_, ⟨_, rfl⟩, hW, hsame.mono (by decide) (by decide)⟩
 ·
  refine XS.aloadN X0.here hx rfl (hb hby d10_0) rfl rfl ?_
  refine X0.instanceofNull hx (g := (mkF m 1 #[rv a0, .val .null, un] [.null])) rfl rfl (hb hby d10_1) _ ?_
  show AT p e below s₁ m 4 #[rv a0, .val .null, un] [(.int (0 : Int32))] _
  refine XS.ifYes X0.here hx rfl (pc0 := 4) (pc' := 58) rfl (hb hby d10_4) rfl (XT.i0_eq_t ((by decide) : (0 : Int32) = (0 : Int32))) (by decide) (by decide) ?_
  refine XS.iconst X0.here hx rfl (hb hby d10_58) ?_
  exact retN X0 hx (t := .boolean) Bd.returns (by simp) (hb hby d10_59) hr
 ·
  show Q10n Z a0 h0 n0 _ s₁.heap _
  rw [e0]
  exact ⟨rfl, N0, rfl⟩

theorem ef_10t (m : MethodId) (a0 : Addr) (a1 : Addr) : entryFrame m #[(.ref a0), (.ref a1)] 3 = mkF m 0 #[rv a0, rv a1, un] [] := by first | (simp [entryFrame, mkF, argsToLocals, Value.category]; done) | rfl
def Q10t (Z : State) (a0 : Addr) (a1 : Addr) (h0 : Heap) (n0 : Nat) (v : Option Value) (h : Heap) (L : List Loc) : Prop := v = some (.int (0 : Int32)) ∧ Fr n0 L ∧ h = h0
set_option maxRecDepth 65536 in
set_option maxHeartbeats 40000000 in
theorem rm10t (l : Launch) (Z : State) (ar : Array Value) (hw : ∀ d ∈ tables_1, d.before ar Z = true) (ws : List Jvm.Cond) (a0 : Addr) (a1 : Addr) (h0 : Heap) (n0 : Nat) (O0 : Old Z n0 h0) (pf0 : Exa Z h0 a0 "com/example/minderd/minderd/process/Owner") (pf1 : Exa Z h0 a1 "java/lang/String") :
    MetFree l y10 (head1 (Jvm.Cond.code y10 prog_30_method_9_code 3 (some .boolean) :: ws) ({ frames := 0, cells := 0, slots := 0, locals := 0 } : Room)) (fun a U => a = #[(.ref a0), (.ref a1)] ∧ Z.Warmed39 U.vm ∧ U.heap = h0) (fun _ _ _ _ _ => True) (fun _ U o U' => ∃ v L, o = .returned v ∧ Q10t Z a0 a1 h0 n0 v U'.heap L ∧ FrameEnd U o U' L ({ frames := 0, cells := 0, slots := 0, locals := 0 } : Room).cells ({ frames := 0, cells := 0, slots := 0, locals := 0 } : Room).slots) := by
 refine MetFree.of_bodySF (plainFor_of_name pn_3) hisR ?_
 intro p e s m args below meth c s₁ Bd hml0 hP hK
 obtain ⟨rfl, hZ, hh⟩ := hP
 have hx := Bd.exec
 have hby := Bd.bytes
 have hml : c.maxLocals = 3 := hml0
 have hown : s.vm.findClass "com/example/minderd/minderd/process/Owner" = some m.cls := findClass_of_methodNamed Bd.named
 have hnm := (name_of_methodNamed Bd.named Bd.method).1
 have hlk : meth.locks = false := by first | assumption | exact BodyLoose.notSynchronized (by assumption) | exact Body.notSynchronized (by assumption)
 have X0 : Stand p l e ({ frames := 0, cells := 0, slots := 0, locals := 0 } : Room) s m #[(.ref a0), (.ref a1)] below meth c s₁ [] 0 0 := Stand.of_body Bd
 have e0 : s₁.heap = h0 := by rw [← hh, Bd.state]; rfl
 have N0 := Fr.nil n0
 have Z0 : n0 ≤ h0.size := Nat.le_trans (Nat.le_of_eq O0.1.symm) O0.2.1
 obtain ⟨S0, hS0⟩ : ∃ z, z = s₁.setTop (entryFrame m #[(.ref a0), (.ref a1)] 3) := ⟨_, rfl⟩
 have pre0 : ∀ tg, AT p e below s₁ m 0 #[rv a0, rv a1, un] [] tg → Steps p.tables e below S0 tg := fun tg kg => by rw [hS0]; exact castTop (ef_10t m a0 a1) kg
 obtain ⟨T1, X1, e1, st1⟩ := instNo X0 hx hZ hown (ow hw 55 rfl) e0 pf1 (own_notOf (ow hw 67 rfl) (ow hw 68 rfl) (ow hw 1 rfl) (by decide) (by decide)) (g := (mkF m 1 #[rv a0, rv a1, un] [(.ref a1)])) rfl rfl (hb hby d10_1)
 obtain ⟨fs, hr, hrun, hended, hW, hsame⟩ := X1.leave (v := some (.int (0 : Int32))) (fun h => by rw [Bd.returns] at h; cases h) hlk
 subst hS0
 refine ⟨_, _, pre0 _ ?_, hrun, hended, _, _, rfl, ?_, ⟨_, rfl⟩, hW, hsame.mono (by decide) (by decide)⟩
 ·
  refine XS.aloadN X0.here hx rfl (hb hby d10_0) rfl rfl ?_
  refine st1 _ ?_
  show AT p e below T1 m 4 #[rv a0, rv a1, un] [(.int (0 : Int32))] _
  refine XS.ifYes X1.here hx rfl (pc0 := 4) (pc' := 58) rfl (hb hby d10_4) rfl (XT.i0_eq_t ((by decide) : (0 : Int32) = (0 : Int32))) (by decide) (by decide) ?_
  refine XS.iconst X1.here hx rfl (hb hby d10_58) ?_
  exact retN X1 hx (t := .boolean) Bd.returns (by simp) (hb hby d10_59) hr
 ·
  show Q10t Z a0 a1 h0 n0 _ T1.heap _
  rw [e1]
  exact ⟨rfl, N0, rfl⟩


theorem own_bt (u v : Int32) (hu : 0 ≤ u.toInt ∧ u.toInt ≤ 255) (hv : 0 ≤ v.toInt ∧ v.toInt ≤ 255) : ((nar .byte (u.toInt8.toInt32)) = (nar .byte (v.toInt8.toInt32))) ↔ u = v := by
  constructor
  · intro h
    have a1 := c_i2b u; have a2 := c_i2b (u.toInt8.toInt32); have b1 := c_i2b v; have b2 := c_i2b (v.toInt8.toInt32)
    have h' : ((u.toInt8.toInt32).toInt8.toInt32).toInt = ((v.toInt8.toInt32).toInt8.toInt32).toInt := congrArg Int32.toInt h
    rw [← Int32.toInt_inj]; omega
  · intro h; rw [h]
theorem own_ch (x y : Int32) : 0 ≤ (ch x y).toInt ∧ (ch x y).toInt ≤ 255 := c_and _ (255 : Int32) (by decide)
theorem own_ch0 (x : Int32) : ch x (0 : Int32) = x &&& (255 : Int32) := by
  show (x.toUInt32 >>> ((0 : Int32) &&& 31).toUInt32).toInt32 &&& (255 : Int32) = _
  have : (x.toUInt32 >>> ((0 : Int32) &&& 31).toUInt32).toInt32 = x := by
    apply Int32.toBitVec_inj.mp
    show x.toBitVec >>> _ = x.toBitVec
    rfl
  rw [this]
theorem own_f12 (x : Int32) : f12 (nar .byte ((ch x (0 : Int32)).toInt8.toInt32)) (nar .byte ((ch x ((0 : Int32) + (8 : Int32))).toInt8.toInt32)) (nar .byte ((ch x (16 : Int32)).toInt8.toInt32)) (nar .byte ((ch x ((16 : Int32) + (8 : Int32))).toInt8.toInt32)) = f9 x := by
  unfold f12 f9
  simp only [own_bt _ _ (own_ch x _) (own_ch x _)]
  simp only [own_ch0]
  rfl
theorem own_f12s (x : Int32) : f12 (nar .byte ((ch x (16 : Int32)).toInt8.toInt32)) (nar .byte ((ch x ((16 : Int32) + (8 : Int32))).toInt8.toInt32)) (nar .byte ((ch x (0 : Int32)).toInt8.toInt32)) (nar .byte ((ch x ((0 : Int32) + (8 : Int32))).toInt8.toInt32)) = f9 x := by
  unfold f12 f9
  simp only [own_bt _ _ (own_ch x _) (own_ch x _)]
  simp only [@eq_comm _ (ch x (16 : Int32)) (ch x (0 : Int32)), @eq_comm _ (ch x ((16 : Int32) + (8 : Int32))) (ch x ((0 : Int32) + (8 : Int32)))]
  simp only [own_ch0]
  rfl
def ref3 (p0 p1 p2 : Int32) : Int32 := if f9 p0 = (0 : Int32) then (0 : Int32) else if f9 p1 = (0 : Int32) then (0 : Int32) else if f9 p2 = (0 : Int32) then (0 : Int32) else (1 : Int32)
theorem own_if (x : Int32) : ((if x = (0 : Int32) then (0 : Int32) else (1 : Int32)) = (0 : Int32)) ↔ x = (0 : Int32) := by
  split
  · exact ⟨fun _ => by assumption, fun _ => rfl⟩
  · exact ⟨fun h => absurd h (by decide), fun h => absurd h (by assumption)⟩
theorem own_ab (p0 p1 p2 : Int32) : f10 (nar .byte ((ch p0 (0 : Int32)).toInt8.toInt32)) (nar .byte ((ch p0 ((0 : Int32) + (8 : Int32))).toInt8.toInt32)) (nar .byte ((ch p0 (16 : Int32)).toInt8.toInt32)) (nar .byte ((ch p0 ((16 : Int32) + (8 : Int32))).toInt8.toInt32)) (nar .byte ((ch p1 (0 : Int32)).toInt8.toInt32)) (nar .byte ((ch p1 ((0 : Int32) + (8 : Int32))).toInt8.toInt32)) (nar .byte ((ch p1 (16 : Int32)).toInt8.toInt32)) (nar .byte ((ch p1 ((16 : Int32) + (8 : Int32))).toInt8.toInt32)) (nar .byte ((ch p2 (0 : Int32)).toInt8.toInt32)) (nar .byte ((ch p2 ((0 : Int32) + (8 : Int32))).toInt8.toInt32)) (nar .byte ((ch p2 (16 : Int32)).toInt8.toInt32)) (nar .byte ((ch p2 ((16 : Int32) + (8 : Int32))).toInt8.toInt32)) = ref3 p0 p1 p2 := by
  unfold f10 f11 ref3
  simp only [own_f12, own_if]
theorem own_ba (p0 p1 p2 : Int32) : f10 (nar .byte ((ch p0 (16 : Int32)).toInt8.toInt32)) (nar .byte ((ch p0 ((16 : Int32) + (8 : Int32))).toInt8.toInt32)) (nar .byte ((ch p0 (0 : Int32)).toInt8.toInt32)) (nar .byte ((ch p0 ((0 : Int32) + (8 : Int32))).toInt8.toInt32)) (nar .byte ((ch p1 (16 : Int32)).toInt8.toInt32)) (nar .byte ((ch p1 ((16 : Int32) + (8 : Int32))).toInt8.toInt32)) (nar .byte ((ch p1 (0 : Int32)).toInt8.toInt32)) (nar .byte ((ch p1 ((0 : Int32) + (8 : Int32))).toInt8.toInt32)) (nar .byte ((ch p2 (16 : Int32)).toInt8.toInt32)) (nar .byte ((ch p2 ((16 : Int32) + (8 : Int32))).toInt8.toInt32)) (nar .byte ((ch p2 (0 : Int32)).toInt8.toInt32)) (nar .byte ((ch p2 ((0 : Int32) + (8 : Int32))).toInt8.toInt32)) = ref3 p0 p1 p2 := by
  unfold f10 f11 ref3
  simp only [own_f12s, own_if]

theorem ef_0 (m : MethodId) (p0 : Int32) (p1 : Int32) (p2 : Int32) : entryFrame m #[(.int p0), (.int p1), (.int p2)] maxLocals = mkF m 0 #[iv p0, iv p1, iv p2, un, un, un, un, un, un, un, un] [] := by first | (simp [entryFrame, mkF, argsToLocals, Value.category, maxLocals]; done) | rfl
def Q0 (Z : State) (p0 : Int32) (p1 : Int32) (p2 : Int32) (w_CS0 : Int32) (w_SF1 : Value) (h0 : Heap) (n0 : Nat) (v : Option Value) (h : Heap) (L : List Loc) : Prop := v = some (.int 1) ∧ Fr n0 L
set_option maxRecDepth 65536 in
set_option maxHeartbeats 40000000 in
theorem rm0 (l : Launch) (Z : State) (ar : Array Value) (hw : ∀ d ∈ tables_1, d.before ar Z = true) (ws : List Jvm.Cond) (p0 : Int32) (p1 : Int32) (p2 : Int32) (w_CS0 : Int32) (w_SF1 : Value) (h0 : Heap) (n0 : Nat) (O0 : Old Z n0 h0) (HW : Wd Z w_CS0 w_SF1) :
    MetFree l x (head1 (Jvm.Cond.code x code maxLocals ret :: ws) room_1) (fun a U => a = #[(.int p0), (.int p1), (.int p2)] ∧ Z.Warmed39 U.vm ∧ U.heap = h0) (fun _ _ _ _ _ => True) (fun _ U o U' => ∃ v L, o = .returned v ∧ Q0 Z p0 p1 p2 w_CS0 w_SF1 h0 n0 v U'.heap L ∧ FrameEnd U o U' L 56 192) := by
 refine MetFree.of_bodySF (plainFor_of_name pn_2) hisR ?_
 intro p e s m args below meth c s₁ Bd hml0 hP hK
 obtain ⟨rfl, hZ, hh⟩ := hP
 have hx := Bd.exec
 have hby := Bd.bytes
 have hml : c.maxLocals = 11 := hml0
 have hown : s.vm.findClass "com/example/minderd/minderd/process/OwnerEqualsPinLaw" = some m.cls := findClass_of_methodNamed Bd.named
 have hnm := (name_of_methodNamed Bd.named Bd.method).1
 have hlk : meth.locks = false := by first | assumption | exact BodyLoose.notSynchronized (by assumption) | exact Body.notSynchronized (by assumption)
 have X0 : Stand p l e room_1 s m #[(.int p0), (.int p1), (.int p2)] below meth c s₁ [] 0 0 := Stand.of_body Bd
 have e0 : s₁.heap = h0 := by rw [← hh, Bd.state]; rfl
 have N0 := Fr.nil n0
 have Z0 : n0 ≤ h0.size := Nat.le_trans (Nat.le_of_eq O0.1.symm) O0.2.1
 obtain ⟨S0, hS0⟩ : ∃ z, z = s₁.setTop (entryFrame m #[(.int p0), (.int p1), (.int p2)] maxLocals) := ⟨_, rfl⟩
 have pre0 : ∀ tg, AT p e below s₁ m 0 #[iv p0, iv p1, iv p2, un, un, un, un, un, un, un, un] [] tg → Steps p.tables e below S0 tg := fun tg kg => by rw [hS0]; exact castTop (ef_0 m p0 p1 p2) kg
 obtain ⟨S_COMPACT_STRINGS, hz_w_CS0, S_SIOOBE_FORMATTER, ir_w_SF1⟩ := id HW
 obtain ⟨T1, h1, X1, e1, E1, A1, D1, -, st1⟩ := newO X0 hx hZ hown (ow hw 0 rfl) (ow hw 1 rfl) (ow hw 2 rfl) e0 (g := (mkF m 0 #[iv p0, iv p1, iv p2, un, un, un, un, un, un, un, un] [])) rfl (hb hby at_0) (by decide) (by decide)
 obtain ⟨b1, g1⟩ : ∃ z, z = h0.size := ⟨_, rfl⟩
 rw [← g1] at A1 D1 st1
 have gn1 : n0 ≤ b1 := Nat.le_trans (Nat.le_trans (Nat.le_of_eq O0.1.symm) O0.2.1) (Nat.le_of_eq g1.symm)
 have sz1 : h0.size ≤ b1 := Nat.le_trans (Keep.refl h0 []).1 (Nat.le_of_eq g1.symm)
 have K1 := (Keep.refl h0 []).ext E1
 have O1 := O0.ext E1
 have F1_2 : Fld Z h1 b1 "com/example/minderd/minderd/process/Owner" "config" "Ljava/lang/String;" .null := D1 (Or.inr (ow hw 42 rfl)) (ty := (.object "java/lang/String")) (by decide)
 have F1_3 : Fld Z h1 b1 "com/example/minderd/minderd/process/Owner" "program" "Ljava/lang/String;" .null := D1 (Or.inr (ow hw 44 rfl)) (ty := (.object "java/lang/String")) (by decide)
 have F1_4 : Fld Z h1 b1 "com/example/minderd/minderd/process/Owner" "run" "Ljava/lang/String;" .null := D1 (Or.inr (ow hw 46 rfl)) (ty := (.object "java/lang/String")) (by decide)
 obtain ⟨_, _, ⟨T5, L5, k5, n5⟩, -, X5, ⟨Lc5, hQ5, l5, y5, z5⟩, st5⟩ := Jvm.LawKit.callS X1 hx (y := y1) hown (mvT hZ (ow hw 3 rfl)) (mvT hZ (ow hw 4 rfl)) (mvT hZ (ow hw 5 rfl)) (mvT hZ (ow hw 6 rfl)) (by decide) (backOf (W := 2) (rm1 l Z ar hw [] p0 (0 : Int32) w_CS0 w_SF1 h1 n0 O1 HW) hZ (ow hw 6 rfl) (ow hw 5 rfl) (by decide) (by decide)) (g := (mkF m 6 #[iv p0, iv p1, iv p2, un, un, un, un, un, un, un, un] [(.int (0 : Int32)), (.int p0), (.ref b1), (.ref b1)])) rfl (by rw [hml]; rfl) (argsL := [(.int p0), (.int (0 : Int32))]) (rest := [(.ref b1), (.ref b1)]) (lenOf pd_7 rfl) rfl (by show 2 * 0 + _ ≤ _; exact Nat.le_of_eq rfl) (hb hby at_6) (fun _ _ => ⟨rfl, e1, (by decide : 1 + 3 ≤ _), (by decide : 3 + 8 ≤ _)⟩)
 dsimp only [Pt.U, Pt.locs, Pt.cells, Pt.slots] at X5 l5 y5 z5 st5 hQ5
 subst l5 y5 z5
 obtain ⟨t_5, b_5, kb_5, rfl, N5q, Kq5, u5_0, u5_1, u5_2, u5_3, u5_4, u5_5, u5_6, u5_7⟩ := hQ5
 have N5 := Fr.app N0 N5q
 have E5_6 := A1.keep Kq5
 have F5_7 := F1_2.keep Kq5 nin0
 have F5_8 := F1_3.keep Kq5 nin0
 have F5_9 := F1_4.keep Kq5 nin0
 have K5 := K1.trans Kq5 all0
 have O5 := O1.keep Kq5 all0
 have sz10 : h0.size ≤ t_5 := Nat.le_trans K1.1 u5_5
 have gn10 : n0 ≤ t_5 := Nat.le_trans (Nat.le_trans (Nat.le_of_eq O1.1.symm) O1.2.1) u5_5
 have ne11 : b1 ≠ t_5 := Nat.ne_of_lt (Nat.lt_of_lt_of_le (A1).lt u5_5)
 have sz12 : h0.size ≤ b_5 := Nat.le_trans K1.1 u5_6
 have gn12 : n0 ≤ b_5 := Nat.le_trans (Nat.le_trans (Nat.le_of_eq O1.1.symm) O1.2.1) u5_6
 have ne13 : b1 ≠ b_5 := Nat.ne_of_lt (Nat.lt_of_lt_of_le (A1).lt u5_6)
 obtain ⟨_, _, ⟨T14, L14, k14, n14⟩, -, X14, ⟨Lc14, hQ14, l14, y14, z14⟩, st14⟩ := Jvm.LawKit.callS X5 hx (y := y1) hown (mvT hZ (ow hw 3 rfl)) (mvT hZ (ow hw 4 rfl)) (mvT hZ (ow hw 5 rfl)) (mvT hZ (ow hw 6 rfl)) (by decide) (backOf (W := 3) (rm1 l Z ar hw [] p1 (0 : Int32) w_CS0 w_SF1 T5.heap n0 O5 HW) hZ (ow hw 6 rfl) (ow hw 5 rfl) (by decide) (by decide)) (g := (mkF m 11 #[iv p0, iv p1, iv p2, un, un, un, un, un, un, un, un] [(.int (0 : Int32)), (.int p1), (.ref t_5), (.ref b1), (.ref b1)])) rfl (by rw [hml]; rfl) (argsL := [(.int p1), (.int (0 : Int32))]) (rest := [(.ref t_5), (.ref b1), (.ref b1)]) (lenOf pd_7 rfl) rfl (by show 2 * 0 + _ ≤ _; exact Nat.le_of_eq rfl) (hb hby at_11) (fun _ _ => ⟨rfl, rfl, (by decide : 4 + 3 ≤ _), (by decide : 11 + 8 ≤ _)⟩)
 dsimp only [Pt.U, Pt.locs, Pt.cells, Pt.slots] at X14 l14 y14 z14 st14 hQ14
 subst l14 y14 z14
 obtain ⟨t_14, b_14, kb_14, rfl, N14q, Kq14, u14_0, u14_1, u14_2, u14_3, u14_4, u14_5, u14_6, u14_7⟩ := hQ14
 have N14 := Fr.app N5 N14q
 have E14_15 := E5_6.keep Kq14
 have F14_16 := F5_7.keep Kq14 nin0
 have F14_17 := F5_8.keep Kq14 nin0
 have F14_18 := F5_9.keep Kq14 nin0
 have E14_19 := u5_0.keep Kq14
 have F14_20 := u5_1.keep Kq14 nin0
 have F14_21 := u5_2.keep Kq14 nin0
 have V14_22 := u5_3.keep Kq14 nin0
 have E14_23 := u5_4.keep Kq14
 have K14 := K5.trans Kq14 all0
 have O14 := O5.keep Kq14 all0
 have sz24 : h0.size ≤ t_14 := Nat.le_trans K5.1 u14_5
 have gn24 : n0 ≤ t_14 := Nat.le_trans (Nat.le_trans (Nat.le_of_eq O5.1.symm) O5.2.1) u14_5
 have ne25 : b1 ≠ t_14 := Nat.ne_of_lt (Nat.lt_of_lt_of_le (E5_6).lt u14_5)
 have ne26 : t_5 ≠ t_14 := Nat.ne_of_lt (Nat.lt_of_lt_of_le (u5_0).lt u14_5)
 have ne27 : b_5 ≠ t_14 := Nat.ne_of_lt (Nat.lt_of_lt_of_le (u5_3).lt u14_5)
 have sz28 : h0.size ≤ b_14 := Nat.le_trans K5.1 u14_6
 have gn28 : n0 ≤ b_14 := Nat.le_trans (Nat.le_trans (Nat.le_of_eq O5.1.symm) O5.2.1) u14_6
 have ne29 : b1 ≠ b_14 := Nat.ne_of_lt (Nat.lt_of_lt_of_le (E5_6).lt u14_6)
 have ne30 : t_5 ≠ b_14 := Nat.ne_of_lt (Nat.lt_of_lt_of_le (u5_0).lt u14_6)
 have ne31 : b_5 ≠ b_14 := Nat.ne_of_lt (Nat.lt_of_lt_of_le (u5_3).lt u14_6)
 obtain ⟨_, _, ⟨T32, L32, k32, n32⟩, -, X32, ⟨Lc32, hQ32, l32, y32, z32⟩, st32⟩ := Jvm.LawKit.callS X14 hx (y := y1) hown (mvT hZ (ow hw 3 rfl)) (mvT hZ (ow hw 4 rfl)) (mvT hZ (ow hw 5 rfl)) (mvT hZ (ow hw 6 rfl)) (by decide) (backOf (W := 4) (rm1 l Z ar hw [] p2 (0 : Int32) w_CS0 w_SF1 T14.heap n0 O14 HW) hZ (ow hw 6 rfl) (ow hw 5 rfl) (by decide) (by decide)) (g := (mkF m 16 #[iv p0, iv p1, iv p2, un, un, un, un, un, un, un, un] [(.int (0 : Int32)), (.int p2), (.ref t_14), (.ref t_5), (.ref b1), (.ref b1)])) rfl (by rw [hml]; rfl) (argsL := [(.int p2), (.int (0 : Int32))]) (rest := [(.ref t_14), (.ref t_5), (.ref b1), (.ref b1)]) (lenOf pd_7 rfl) rfl (by show 2 * 0 + _ ≤ _; exact Nat.le_of_eq rfl) (hb hby at_16) (fun _ _ => ⟨rfl, rfl, (by decide : 7 + 3 ≤ _), (by decide : 19 + 8 ≤ _)⟩)
 dsimp only [Pt.U, Pt.locs, Pt.cells, Pt.slots] at X32 l32 y32 z32 st32 hQ32
 subst l32 y32 z32
 obtain ⟨t_32, b_32, kb_32, rfl, N32q, Kq32, u32_0, u32_1, u32_2, u32_3, u32_4, u32_5, u32_6, u32_7⟩ := hQ32
 have N32 := Fr.app N14 N32q
 have E32_33 := E14_15.keep Kq32
 have F32_34 := F14_16.keep Kq32 nin0
 have F32_35 := F14_17.keep Kq32 nin0
 have F32_36 := F14_18.keep Kq32 nin0
 have E32_37 := E14_19.keep Kq32
 have F32_38 := F14_20.keep Kq32 nin0
 have F32_39 := F14_21.keep Kq32 nin0
 have V32_40 := V14_22.keep Kq32 nin0
 have E32_41 := E14_23.keep Kq32
 have E32_42 := u14_0.keep Kq32
 have F32_43 := u14_1.keep Kq32 nin0
 have F32_44 := u14_2.keep Kq32 nin0
 have V32_45 := u14_3.keep Kq32 nin0
 have E32_46 := u14_4.keep Kq32
 have K32 := K14.trans Kq32 all0
 have O32 := O14.keep Kq32 all0
 have sz47 : h0.size ≤ t_32 := Nat.le_trans K14.1 u32_5
 have gn47 : n0 ≤ t_32 := Nat.le_trans (Nat.le_trans (Nat.le_of_eq O14.1.symm) O14.2.1) u32_5
 have ne48 : b1 ≠ t_32 := Nat.ne_of_lt (Nat.lt_of_lt_of_le (E14_15).lt u32_5)
 have ne49 : t_5 ≠ t_32 := Nat.ne_of_lt (Nat.lt_of_lt_of_le (E14_19).lt u32_5)
 have ne50 : b_5 ≠ t_32 := Nat.ne_of_lt (Nat.lt_of_lt_of_le (V14_22).lt u32_5)
 have ne51 : t_14 ≠ t_32 := Nat.ne_of_lt (Nat.lt_of_lt_of_le (u14_0).lt u32_5)
 have ne52 : b_14 ≠ t_32 := Nat.ne_of_lt (Nat.lt_of_lt_of_le (u14_3).lt u32_5)
 have sz53 : h0.size ≤ b_32 := Nat.le_trans K14.1 u32_6
 have gn53 : n0 ≤ b_32 := Nat.le_trans (Nat.le_trans (Nat.le_of_eq O14.1.symm) O14.2.1) u32_6
 have ne54 : b1 ≠ b_32 := Nat.ne_of_lt (Nat.lt_of_lt_of_le (E14_15).lt u32_6)
 have ne55 : t_5 ≠ b_32 := Nat.ne_of_lt (Nat.lt_of_lt_of_le (E14_19).lt u32_6)
 have ne56 : b_5 ≠ b_32 := Nat.ne_of_lt (Nat.lt_of_lt_of_le (V14_22).lt u32_6)
 have ne57 : t_14 ≠ b_32 := Nat.ne_of_lt (Nat.lt_of_lt_of_le (u14_0).lt u32_6)
 have ne58 : b_14 ≠ b_32 := Nat.ne_of_lt (Nat.lt_of_lt_of_le (u14_3).lt u32_6)
 obtain ⟨_, _, ⟨T59, L59, k59, n59⟩, -, X59, ⟨Lc59, hQ59, l59, y59, z59⟩, st59⟩ := X32.specialBack hx (y := y8) rfl hown (mvT hZ (ow hw 37 rfl)) (mvT hZ (ow hw 38 rfl)) (mvT hZ (ow hw 39 rfl)) (by decide) (backOf (W := 1) (rm8 l Z ar hw [] b1 t_5 t_14 t_32 T32.heap n0 O32 E32_33 F32_34 F32_35 F32_36 gn1) hZ (ow hw 39 rfl) (ow hw 2 rfl) (by decide) (by decide)) (g := (mkF m 19 #[iv p0, iv p1, iv p2, un, un, un, un, un, un, un, un] [(.ref t_32), (.ref t_14), (.ref t_5), (.ref b1), (.ref b1)])) rfl (by rw [hml]; rfl) (Steps.refl _) (a := b1) (argsL := [(.ref t_5), (.ref t_14), (.ref t_32)]) (rest := [(.ref b1)]) (lenOf pd_8 rfl) rfl (by show 2 * 0 + _ ≤ _; exact Nat.le_of_eq rfl) (hb hby at_19) (fun _ _ => ⟨rfl, rfl, (by decide : 10 + 0 ≤ _), (by decide : 27 + 0 ≤ _)⟩)
 dsimp only [Pt.U, Pt.locs, Pt.cells, Pt.slots] at X59 l59 y59 z59 st59 hQ59
 subst l59 y59 z59
 obtain ⟨rfl, N59q, Kq59, u59_0, u59_1, u59_2, u59_3⟩ := hQ59
 have N59 := Fr.app N32 N59q
 have E59_60 := E32_33.keep Kq59
 have E59_61 := E32_37.keep Kq59
 have F59_62 := F32_38.keep Kq59 (ninS (Ne.symm ne11) nin0)
 have F59_63 := F32_39.keep Kq59 (ninS (Ne.symm ne11) nin0)
 have V59_64 := V32_40.keep Kq59 (ninS (Ne.symm ne13) nin0)
 have E59_65 := E32_41.keep Kq59
 have E59_66 := E32_42.keep Kq59
 have F59_67 := F32_43.keep Kq59 (ninS (Ne.symm ne25) nin0)
 have F59_68 := F32_44.keep Kq59 (ninS (Ne.symm ne25) nin0)
 have V59_69 := V32_45.keep Kq59 (ninS (Ne.symm ne29) nin0)
 have E59_70 := E32_46.keep Kq59
 have E59_71 := u32_0.keep Kq59
 have F59_72 := u32_1.keep Kq59 (ninS (Ne.symm ne48) nin0)
 have F59_73 := u32_2.keep Kq59 (ninS (Ne.symm ne48) nin0)
 have V59_74 := u32_3.keep Kq59 (ninS (Ne.symm ne54) nin0)
 have E59_75 := u32_4.keep Kq59
 have K59 := K32.trans Kq59 (allS (Or.inr sz1) all0)
 have O59 := O32.keep Kq59 (allS gn1 all0)
 obtain ⟨T76, h76, X76, e76, E76, A76, D76, -, st76⟩ := newO X59 hx hZ hown (ow hw 0 rfl) (ow hw 1 rfl) (ow hw 2 rfl) rfl (g := (mkF m 23 #[iv p0, iv p1, iv p2, rv b1, un, un, un, un, un, un, un] [])) rfl (hb hby at_23) (by decide) (by decide)
 obtain ⟨b76, g76⟩ : ∃ z, z = T59.heap.size := ⟨_, rfl⟩
 rw [← g76] at A76 D76 st76
 have ne76_77 : b1 ≠ b76 := Nat.ne_of_lt (Nat.lt_of_lt_of_le (E59_60).lt (Nat.le_of_eq g76.symm))
 have ne76_78 : t_5 ≠ b76 := Nat.ne_of_lt (Nat.lt_of_lt_of_le (E59_61).lt (Nat.le_of_eq g76.symm))
 have ne76_79 : b_5 ≠ b76 := Nat.ne_of_lt (Nat.lt_of_lt_of_le (V59_64).lt (Nat.le_of_eq g76.symm))
 have ne76_80 : t_14 ≠ b76 := Nat.ne_of_lt (Nat.lt_of_lt_of_le (E59_66).lt (Nat.le_of_eq g76.symm))
 have ne76_81 : b_14 ≠ b76 := Nat.ne_of_lt (Nat.lt_of_lt_of_le (V59_69).lt (Nat.le_of_eq g76.symm))
 have ne76_82 : t_32 ≠ b76 := Nat.ne_of_lt (Nat.lt_of_lt_of_le (E59_71).lt (Nat.le_of_eq g76.symm))
 have ne76_83 : b_32 ≠ b76 := Nat.ne_of_lt (Nat.lt_of_lt_of_le (V59_74).lt (Nat.le_of_eq g76.symm))
 have gn76 : n0 ≤ b76 := Nat.le_trans (Nat.le_trans (Nat.le_of_eq O59.1.symm) O59.2.1) (Nat.le_of_eq g76.symm)
 have sz76 : h0.size ≤ b76 := Nat.le_trans K59.1 (Nat.le_of_eq g76.symm)
 have E76_84 := E59_60.ext E76
 have E76_85 := E59_61.ext E76
 have F76_86 := F59_62.ext E76
 have F76_87 := F59_63.ext E76
 have V76_88 := V59_64.ext E76
 have E76_89 := E59_65.ext E76
 have E76_90 := E59_66.ext E76
 have F76_91 := F59_67.ext E76
 have F76_92 := F59_68.ext E76
 have V76_93 := V59_69.ext E76
 have E76_94 := E59_70.ext E76
 have E76_95 := E59_71.ext E76
 have F76_96 := F59_72.ext E76
 have F76_97 := F59_73.ext E76
 have V76_98 := V59_74.ext E76
 have E76_99 := E59_75.ext E76
 have F76_100 := u59_1.ext E76
 have F76_101 := u59_2.ext E76
 have F76_102 := u59_3.ext E76
 have K76 := K59.ext E76
 have O76 := O59.ext E76
 have F76_103 : Fld Z h76 b76 "com/example/minderd/minderd/process/Owner" "config" "Ljava/lang/String;" .null := D76 (Or.inr (ow hw 42 rfl)) (ty := (.object "java/lang/String")) (by decide)
 have F76_104 : Fld Z h76 b76 "com/example/minderd/minderd/process/Owner" "program" "Ljava/lang/String;" .null := D76 (Or.inr (ow hw 44 rfl)) (ty := (.object "java/lang/String")) (by decide)
 have F76_105 : Fld Z h76 b76 "com/example/minderd/minderd/process/Owner" "run" "Ljava/lang/String;" .null := D76 (Or.inr (ow hw 46 rfl)) (ty := (.object "java/lang/String")) (by decide)
 obtain ⟨_, _, ⟨T106, L106, k106, n106⟩, -, X106, ⟨Lc106, hQ106, l106, y106, z106⟩, st106⟩ := Jvm.LawKit.callS X76 hx (y := y1) hown (mvT hZ (ow hw 3 rfl)) (mvT hZ (ow hw 4 rfl)) (mvT hZ (ow hw 5 rfl)) (mvT hZ (ow hw 6 rfl)) (by decide) (backOf (W := 2) (rm1 l Z ar hw [] p0 (16 : Int32) w_CS0 w_SF1 h76 n0 O76 HW) hZ (ow hw 6 rfl) (ow hw 5 rfl) (by decide) (by decide)) (g := (mkF m 30 #[iv p0, iv p1, iv p2, rv b1, un, un, un, un, un, un, un] [(.int (16 : Int32)), (.int p0), (.ref b76), (.ref b76)])) rfl (by rw [hml]; rfl) (argsL := [(.int p0), (.int (16 : Int32))]) (rest := [(.ref b76), (.ref b76)]) (lenOf pd_7 rfl) rfl (by show 2 * 0 + _ ≤ _; exact Nat.le_of_eq rfl) (hb hby at_30) (fun _ _ => ⟨rfl, e76, (by decide : 11 + 3 ≤ _), (by decide : 30 + 8 ≤ _)⟩)
 dsimp only [Pt.U, Pt.locs, Pt.cells, Pt.slots] at X106 l106 y106 z106 st106 hQ106
 subst l106 y106 z106
 obtain ⟨t_106, b_106, kb_106, rfl, N106q, Kq106, u106_0, u106_1, u106_2, u106_3, u106_4, u106_5, u106_6, u106_7⟩ := hQ106
 have N106 := Fr.app N59 N106q
 have E106_107 := E76_84.keep Kq106
 have E106_108 := E76_85.keep Kq106
 have F106_109 := F76_86.keep Kq106 nin0
 have F106_110 := F76_87.keep Kq106 nin0
 have V106_111 := V76_88.keep Kq106 nin0
 have E106_112 := E76_89.keep Kq106
 have E106_113 := E76_90.keep Kq106
 have F106_114 := F76_91.keep Kq106 nin0
 have F106_115 := F76_92.keep Kq106 nin0
 have V106_116 := V76_93.keep Kq106 nin0
 have E106_117 := E76_94.keep Kq106
 have E106_118 := E76_95.keep Kq106
 have F106_119 := F76_96.keep Kq106 nin0
 have F106_120 := F76_97.keep Kq106 nin0
 have V106_121 := V76_98.keep Kq106 nin0
 have E106_122 := E76_99.keep Kq106
 have F106_123 := F76_100.keep Kq106 nin0
 have F106_124 := F76_101.keep Kq106 nin0
 have F106_125 := F76_102.keep Kq106 nin0
 have E106_126 := A76.keep Kq106
 have F106_127 := F76_103.keep Kq106 nin0
 have F106_128 := F76_104.keep Kq106 nin0
 have F106_129 := F76_105.keep Kq106 nin0
 have K106 := K76.trans Kq106 all0
 have O106 := O76.keep Kq106 all0
 have sz130 : h0.size ≤ t_106 := Nat.le_trans K76.1 u106_5
 have gn130 : n0 ≤ t_106 := Nat.le_trans (Nat.le_trans (Nat.le_of_eq O76.1.symm) O76.2.1) u106_5
 have ne131 : b1 ≠ t_106 := Nat.ne_of_lt (Nat.lt_of_lt_of_le (E76_84).lt u106_5)
 have ne132 : t_5 ≠ t_106 := Nat.ne_of_lt (Nat.lt_of_lt_of_le (E76_85).lt u106_5)
 have ne133 : b_5 ≠ t_106 := Nat.ne_of_lt (Nat.lt_of_lt_of_le (V76_88).lt u106_5)
 have ne134 : t_14 ≠ t_106 := Nat.ne_of_lt (Nat.lt_of_lt_of_le (E76_90).lt u106_5)
 have ne135 : b_14 ≠ t_106 := Nat.ne_of_lt (Nat.lt_of_lt_of_le (V76_93).lt u106_5)
 have ne136 : t_32 ≠ t_106 := Nat.ne_of_lt (Nat.lt_of_lt_of_le (E76_95).lt u106_5)
 have ne137 : b_32 ≠ t_106 := Nat.ne_of_lt (Nat.lt_of_lt_of_le (V76_98).lt u106_5)
 have ne138 : b76 ≠ t_106 := Nat.ne_of_lt (Nat.lt_of_lt_of_le (A76).lt u106_5)
 have sz139 : h0.size ≤ b_106 := Nat.le_trans K76.1 u106_6
 have gn139 : n0 ≤ b_106 := Nat.le_trans (Nat.le_trans (Nat.le_of_eq O76.1.symm) O76.2.1) u106_6
 have ne140 : b1 ≠ b_106 := Nat.ne_of_lt (Nat.lt_of_lt_of_le (E76_84).lt u106_6)
 have ne141 : t_5 ≠ b_106 := Nat.ne_of_lt (Nat.lt_of_lt_of_le (E76_85).lt u106_6)
 have ne142 : b_5 ≠ b_106 := Nat.ne_of_lt (Nat.lt_of_lt_of_le (V76_88).lt u106_6)
 have ne143 : t_14 ≠ b_106 := Nat.ne_of_lt (Nat.lt_of_lt_of_le (E76_90).lt u106_6)
 have ne144 : b_14 ≠ b_106 := Nat.ne_of_lt (Nat.lt_of_lt_of_le (V76_93).lt u106_6)
 have ne145 : t_32 ≠ b_106 := Nat.ne_of_lt (Nat.lt_of_lt_of_le (E76_95).lt u106_6)
 have ne146 : b_32 ≠ b_106 := Nat.ne_of_lt (Nat.lt_of_lt_of_le (V76_98).lt u106_6)
 have ne147 : b76 ≠ b_106 := Nat.ne_of_lt (Nat.lt_of_lt_of_le (A76).lt u106_6)
 obtain ⟨_, _, ⟨T148, L148, k148, n148⟩, -, X148, ⟨Lc148, hQ148, l148, y148, z148⟩, st148⟩ := Jvm.LawKit.callS X106 hx (y := y1) hown (mvT hZ (ow hw 3 rfl)) (mvT hZ (ow hw 4 rfl)) (mvT hZ (ow hw 5 rfl)) (mvT hZ (ow hw 6 rfl)) (by decide) (backOf (W := 3) (rm1 l Z ar hw [] p1 (16 : Int32) w_CS0 w_SF1 T106.heap n0 O106 HW) hZ (ow hw 6 rfl) (ow hw 5 rfl) (by decide) (by decide)) (g := (mkF m 36 #[iv p0, iv p1, iv p2, rv b1, un, un, un, un, un, un, un] [(.int (16 : Int32)), (.int p1), (.ref t_106), (.ref b76), (.ref b76)])) rfl (by rw [hml]; rfl) (argsL := [(.int p1), (.int (16 : Int32))]) (rest := [(.ref t_106), (.ref b76), (.ref b76)]) (lenOf pd_7 rfl) rfl (by show 2 * 0 + _ ≤ _; exact Nat.le_of_eq rfl) (hb hby at_36) (fun _ _ => ⟨rfl, rfl, (by decide : 14 + 3 ≤ _), (by decide : 38 + 8 ≤ _)⟩)
 dsimp only [Pt.U, Pt.locs, Pt.cells, Pt.slots] at X148 l148 y148 z148 st148 hQ148
 subst l148 y148 z148
 obtain ⟨t_148, b_148, kb_148, rfl, N148q, Kq148, u148_0, u148_1, u148_2, u148_3, u148_4, u148_5, u148_6, u148_7⟩ := hQ148
 have N148 := Fr.app N106 N148q
 have E148_149 := E106_107.keep Kq148
 have E148_150 := E106_108.keep Kq148
 have F148_151 := F106_109.keep Kq148 nin0
 have F148_152 := F106_110.keep Kq148 nin0
 have V148_153 := V106_111.keep Kq148 nin0
 have E148_154 := E106_112.keep Kq148
 have E148_155 := E106_113.keep Kq148
 have F148_156 := F106_114.keep Kq148 nin0
 have F148_157 := F106_115.keep Kq148 nin0
 have V148_158 := V106_116.keep Kq148 nin0
 have E148_159 := E106_117.keep Kq148
 have E148_160 := E106_118.keep Kq148
 have F148_161 := F106_119.keep Kq148 nin0
 have F148_162 := F106_120.keep Kq148 nin0
 have V148_163 := V106_121.keep Kq148 nin0
 have E148_164 := E106_122.keep Kq148
 have F148_165 := F106_123.keep Kq148 nin0
 have F148_166 := F106_124.keep Kq148 nin0
 have F148_167 := F106_125.keep Kq148 nin0
 have E148_168 := E106_126.keep Kq148
 have F148_169 := F106_127.keep Kq148 nin0
 have F148_170 := F106_128.keep Kq148 nin0
 have F148_171 := F106_129.keep Kq148 nin0
 have E148_172 := u106_0.keep Kq148
 have F148_173 := u106_1.keep Kq148 nin0
 have F148_174 := u106_2.keep Kq148 nin0
 have V148_175 := u106_3.keep Kq148 nin0
 have E148_176 := u106_4.keep Kq148
 have K148 := K106.trans Kq148 all0
 have O148 := O106.keep Kq148 all0
 have sz177 : h0.size ≤ t_148 := Nat.le_trans K106.1 u148_5
 have gn177 : n0 ≤ t_148 := Nat.le_trans (Nat.le_trans (Nat.le_of_eq O106.1.symm) O106.2.1) u148_5
 have ne178 : b1 ≠ t_148 := Nat.ne_of_lt (Nat.lt_of_lt_of_le (E106_107).lt u148_5)
 have ne179 : t_5 ≠ t_148 := Nat.ne_of_lt (Nat.lt_of_lt_of_le (E106_108).lt u148_5)
 have ne180 : b_5 ≠ t_148 := Nat.ne_of_lt (Nat.lt_of_lt_of_le (V106_111).lt u148_5)
 have ne181 : t_14 ≠ t_148 := Nat.ne_of_lt (Nat.lt_of_lt_of_le (E106_113).lt u148_5)
 have ne182 : b_14 ≠ t_148 := Nat.ne_of_lt (Nat.lt_of_lt_of_le (V106_116).lt u148_5)
 have ne183 : t_32 ≠ t_148 := Nat.ne_of_lt (Nat.lt_of_lt_of_le (E106_118).lt u148_5)
 have ne184 : b_32 ≠ t_148 := Nat.ne_of_lt (Nat.lt_of_lt_of_le (V106_121).lt u148_5)
 have ne185 : b76 ≠ t_148 := Nat.ne_of_lt (Nat.lt_of_lt_of_le (E106_126).lt u148_5)
 have ne186 : t_106 ≠ t_148 := Nat.ne_of_lt (Nat.lt_of_lt_of_le (u106_0).lt u148_5)
 have ne187 : b_106 ≠ t_148 := Nat.ne_of_lt (Nat.lt_of_lt_of_le (u106_3).lt u148_5)
 have sz188 : h0.size ≤ b_148 := Nat.le_trans K106.1 u148_6
 have gn188 : n0 ≤ b_148 := Nat.le_trans (Nat.le_trans (Nat.le_of_eq O106.1.symm) O106.2.1) u148_6
 have ne189 : b1 ≠ b_148 := Nat.ne_of_lt (Nat.lt_of_lt_of_le (E106_107).lt u148_6)
 have ne190 : t_5 ≠ b_148 := Nat.ne_of_lt (Nat.lt_of_lt_of_le (E106_108).lt u148_6)
 have ne191 : b_5 ≠ b_148 := Nat.ne_of_lt (Nat.lt_of_lt_of_le (V106_111).lt u148_6)
 have ne192 : t_14 ≠ b_148 := Nat.ne_of_lt (Nat.lt_of_lt_of_le (E106_113).lt u148_6)
 have ne193 : b_14 ≠ b_148 := Nat.ne_of_lt (Nat.lt_of_lt_of_le (V106_116).lt u148_6)
 have ne194 : t_32 ≠ b_148 := Nat.ne_of_lt (Nat.lt_of_lt_of_le (E106_118).lt u148_6)
 have ne195 : b_32 ≠ b_148 := Nat.ne_of_lt (Nat.lt_of_lt_of_le (V106_121).lt u148_6)
 have ne196 : b76 ≠ b_148 := Nat.ne_of_lt (Nat.lt_of_lt_of_le (E106_126).lt u148_6)
 have ne197 : t_106 ≠ b_148 := Nat.ne_of_lt (Nat.lt_of_lt_of_le (u106_0).lt u148_6)
 have ne198 : b_106 ≠ b_148 := Nat.ne_of_lt (Nat.lt_of_lt_of_le (u106_3).lt u148_6)
 obtain ⟨_, _, ⟨T199, L199, k199, n199⟩, -, X199, ⟨Lc199, hQ199, l199, y199, z199⟩, st199⟩ := Jvm.LawKit.callS X148 hx (y := y1) hown (mvT hZ (ow hw 3 rfl)) (mvT hZ (ow hw 4 rfl)) (mvT hZ (ow hw 5 rfl)) (mvT hZ (ow hw 6 rfl)) (by decide) (backOf (W := 4) (rm1 l Z ar hw [] p2 (16 : Int32) w_CS0 w_SF1 T148.heap n0 O148 HW) hZ (ow hw 6 rfl) (ow hw 5 rfl) (by decide) (by decide)) (g := (mkF m 42 #[iv p0, iv p1, iv p2, rv b1, un, un, un, un, un, un, un] [(.int (16 : Int32)), (.int p2), (.ref t_148), (.ref t_106), (.ref b76), (.ref b76)])) rfl (by rw [hml]; rfl) (argsL := [(.int p2), (.int (16 : Int32))]) (rest := [(.ref t_148), (.ref t_106), (.ref b76), (.ref b76)]) (lenOf pd_7 rfl) rfl (by show 2 * 0 + _ ≤ _; exact Nat.le_of_eq rfl) (hb hby at_42) (fun _ _ => ⟨rfl, rfl, (by decide : 17 + 3 ≤ _), (by decide : 46 + 8 ≤ _)⟩)
 dsimp only [Pt.U, Pt.locs, Pt.cells, Pt.slots] at X199 l199 y199 z199 st199 hQ199
 subst l199 y199 z199
 obtain ⟨t_199, b_199, kb_199, rfl, N199q, Kq199, u199_0, u199_1, u199_2, u199_3, u199_4, u199_5, u199_6, u199_7⟩ := hQ199
 have N199 := Fr.app N148 N199q
 have E199_200 := E148_149.keep Kq199
 have E199_201 := E148_150.keep Kq199
 have F199_202 := F148_151.keep Kq199 nin0
 have F199_203 := F148_152.keep Kq199 nin0
 have V199_204 := V148_153.keep Kq199 nin0
 have E199_205 := E148_154.keep Kq199
 have E199_206 := E148_155.keep Kq199
 have F199_207 := F148_156.keep Kq199 nin0
 have F199_208 := F148_157.keep Kq199 nin0
 have V199_209 := V148_158.keep Kq199 nin0
 have E199_210 := E148_159.keep Kq199
 have E199_211 := E148_160.keep Kq199
 have F199_212 := F148_161.keep Kq199 nin0
 have F199_213 := F148_162.keep Kq199 nin0
 have V199_214 := V148_163.keep Kq199 nin0
 have E199_215 := E148_164.keep Kq199
 have F199_216 := F148_165.keep Kq199 nin0
 have F199_217 := F148_166.keep Kq199 nin0
 have F199_218 := F148_167.keep Kq199 nin0
 have E199_219 := E148_168.keep Kq199
 have F199_220 := F148_169.keep Kq199 nin0
 have F199_221 := F148_170.keep Kq199 nin0
 have F199_222 := F148_171.keep Kq199 nin0
 have E199_223 := E148_172.keep Kq199
 have F199_224 := F148_173.keep Kq199 nin0
 have F199_225 := F148_174.keep Kq199 nin0
 have V199_226 := V148_175.keep Kq199 nin0
 have E199_227 := E148_176.keep Kq199
 have E199_228 := u148_0.keep Kq199
 have F199_229 := u148_1.keep Kq199 nin0
 have F199_230 := u148_2.keep Kq199 nin0
 have V199_231 := u148_3.keep Kq199 nin0
 have E199_232 := u148_4.keep Kq199
 have K199 := K148.trans Kq199 all0
 have O199 := O148.keep Kq199 all0
 have sz233 : h0.size ≤ t_199 := Nat.le_trans K148.1 u199_5
 have gn233 : n0 ≤ t_199 := Nat.le_trans (Nat.le_trans (Nat.le_of_eq O148.1.symm) O148.2.1) u199_5
 have ne234 : b1 ≠ t_199 := Nat.ne_of_lt (Nat.lt_of_lt_of_le (E148_149).lt u199_5)
 have ne235 : t_5 ≠ t_199 := Nat.ne_of_lt (Nat.lt_of_lt_of_le (E148_150).lt u199_5)
 have ne236 : b_5 ≠ t_199 := Nat.ne_of_lt (Nat.lt_of_lt_of_le (V148_153).lt u199_5)
 have ne237 : t_14 ≠ t_199 := Nat.ne_of_lt (Nat.lt_of_lt_of_le (E148_155).lt u199_5)
 have ne238 : b_14 ≠ t_199 := Nat.ne_of_lt (Nat.lt_of_lt_of_le (V148_158).lt u199_5)
 have ne239 : t_32 ≠ t_199 := Nat.ne_of_lt (Nat.lt_of_lt_of_le (E148_160).lt u199_5)
 have ne240 : b_32 ≠ t_199 := Nat.ne_of_lt (Nat.lt_of_lt_of_le (V148_163).lt u199_5)
 have ne241 : b76 ≠ t_199 := Nat.ne_of_lt (Nat.lt_of_lt_of_le (E148_168).lt u199_5)
 have ne242 : t_106 ≠ t_199 := Nat.ne_of_lt (Nat.lt_of_lt_of_le (E148_172).lt u199_5)
 have ne243 : b_106 ≠ t_199 := Nat.ne_of_lt (Nat.lt_of_lt_of_le (V148_175).lt u199_5)
 have ne244 : t_148 ≠ t_199 := Nat.ne_of_lt (Nat.lt_of_lt_of_le (u148_0).lt u199_5)
 have ne245 : b_148 ≠ t_199 := Nat.ne_of_lt (Nat.lt_of_lt_of_le (u148_3).lt u199_5)
 have sz246 : h0.size ≤ b_199 := Nat.le_trans K148.1 u199_6
 have gn246 : n0 ≤ b_199 := Nat.le_trans (Nat.le_trans (Nat.le_of_eq O148.1.symm) O148.2.1) u199_6
 have ne247 : b1 ≠ b_199 := Nat.ne_of_lt (Nat.lt_of_lt_of_le (E148_149).lt u199_6)
 have ne248 : t_5 ≠ b_199 := Nat.ne_of_lt (Nat.lt_of_lt_of_le (E148_150).lt u199_6)
 have ne249 : b_5 ≠ b_199 := Nat.ne_of_lt (Nat.lt_of_lt_of_le (V148_153).lt u199_6)
 have ne250 : t_14 ≠ b_199 := Nat.ne_of_lt (Nat.lt_of_lt_of_le (E148_155).lt u199_6)
 have ne251 : b_14 ≠ b_199 := Nat.ne_of_lt (Nat.lt_of_lt_of_le (V148_158).lt u199_6)
 have ne252 : t_32 ≠ b_199 := Nat.ne_of_lt (Nat.lt_of_lt_of_le (E148_160).lt u199_6)
 have ne253 : b_32 ≠ b_199 := Nat.ne_of_lt (Nat.lt_of_lt_of_le (V148_163).lt u199_6)
 have ne254 : b76 ≠ b_199 := Nat.ne_of_lt (Nat.lt_of_lt_of_le (E148_168).lt u199_6)
 have ne255 : t_106 ≠ b_199 := Nat.ne_of_lt (Nat.lt_of_lt_of_le (E148_172).lt u199_6)
 have ne256 : b_106 ≠ b_199 := Nat.ne_of_lt (Nat.lt_of_lt_of_le (V148_175).lt u199_6)
 have ne257 : t_148 ≠ b_199 := Nat.ne_of_lt (Nat.lt_of_lt_of_le (u148_0).lt u199_6)
 have ne258 : b_148 ≠ b_199 := Nat.ne_of_lt (Nat.lt_of_lt_of_le (u148_3).lt u199_6)
 obtain ⟨_, _, ⟨T259, L259, k259, n259⟩, -, X259, ⟨Lc259, hQ259, l259, y259, z259⟩, st259⟩ := X199.specialBack hx (y := y8) rfl hown (mvT hZ (ow hw 37 rfl)) (mvT hZ (ow hw 38 rfl)) (mvT hZ (ow hw 39 rfl)) (by decide) (backOf (W := 1) (rm8 l Z ar hw [] b76 t_106 t_148 t_199 T199.heap n0 O199 E199_219 F199_220 F199_221 F199_222 gn76) hZ (ow hw 39 rfl) (ow hw 2 rfl) (by decide) (by decide)) (g := (mkF m 45 #[iv p0, iv p1, iv p2, rv b1, un, un, un, un, un, un, un] [(.ref t_199), (.ref t_148), (.ref t_106), (.ref b76), (.ref b76)])) rfl (by rw [hml]; rfl) (Steps.refl _) (a := b76) (argsL := [(.ref t_106), (.ref t_148), (.ref t_199)]) (rest := [(.ref b76)]) (lenOf pd_8 rfl) rfl (by show 2 * 0 + _ ≤ _; exact Nat.le_of_eq rfl) (hb hby at_45) (fun _ _ => ⟨rfl, rfl, (by decide : 20 + 0 ≤ _), (by decide : 54 + 0 ≤ _)⟩)
 dsimp only [Pt.U, Pt.locs, Pt.cells, Pt.slots] at X259 l259 y259 z259 st259 hQ259
 subst l259 y259 z259
 obtain ⟨rfl, N259q, Kq259, u259_0, u259_1, u259_2, u259_3⟩ := hQ259
 have N259 := Fr.app N199 N259q
 have E259_260 := E199_200.keep Kq259
 have E259_261 := E199_201.keep Kq259
 have F259_262 := F199_202.keep Kq259 (ninS ne76_78 nin0)
 have F259_263 := F199_203.keep Kq259 (ninS ne76_78 nin0)
 have V259_264 := V199_204.keep Kq259 (ninS ne76_79 nin0)
 have E259_265 := E199_205.keep Kq259
 have E259_266 := E199_206.keep Kq259
 have F259_267 := F199_207.keep Kq259 (ninS ne76_80 nin0)
 have F259_268 := F199_208.keep Kq259 (ninS ne76_80 nin0)
 have V259_269 := V199_209.keep Kq259 (ninS ne76_81 nin0)
 have E259_270 := E199_210.keep Kq259
 have E259_271 := E199_211.keep Kq259
 have F259_272 := F199_212.keep Kq259 (ninS ne76_82 nin0)
 have F259_273 := F199_213.keep Kq259 (ninS ne76_82 nin0)
 have V259_274 := V199_214.keep Kq259 (ninS ne76_83 nin0)
 have E259_275 := E199_215.keep Kq259
 have F259_276 := F199_216.keep Kq259 (ninS ne76_77 nin0)
 have F259_277 := F199_217.keep Kq259 (ninS ne76_77 nin0)
 have F259_278 := F199_218.keep Kq259 (ninS ne76_77 nin0)
 have E259_279 := E199_219.keep Kq259
 have E259_280 := E199_223.keep Kq259
 have F259_281 := F199_224.keep Kq259 (ninS (Ne.symm ne138) nin0)
 have F259_282 := F199_225.keep Kq259 (ninS (Ne.symm ne138) nin0)
 have V259_283 := V199_226.keep Kq259 (ninS (Ne.symm ne147) nin0)
 have E259_284 := E199_227.keep Kq259
 have E259_285 := E199_228.keep Kq259
 have F259_286 := F199_229.keep Kq259 (ninS (Ne.symm ne185) nin0)
 have F259_287 := F199_230.keep Kq259 (ninS (Ne.symm ne185) nin0)
 have V259_288 := V199_231.keep Kq259 (ninS (Ne.symm ne196) nin0)
 have E259_289 := E199_232.keep Kq259
 have E259_290 := u199_0.keep Kq259
 have F259_291 := u199_1.keep Kq259 (ninS (Ne.symm ne241) nin0)
 have F259_292 := u199_2.keep Kq259 (ninS (Ne.symm ne241) nin0)
 have V259_293 := u199_3.keep Kq259 (ninS (Ne.symm ne254) nin0)
 have E259_294 := u199_4.keep Kq259
 have K259 := K199.trans Kq259 (allS (Or.inr sz76) all0)
 have O259 := O199.keep Kq259 (allS gn76 all0)
 obtain ⟨_, _, ⟨T295, L295, k295, n295⟩, -, X295, ⟨Lc295, hQ295, l295, y295, z295⟩, st295⟩ := Jvm.LawKit.callS X259 hx (y := y9) hown (mvT hZ (ow hw 47 rfl)) (mvT hZ (ow hw 48 rfl)) (mvT hZ (ow hw 5 rfl)) (mvT hZ (ow hw 49 rfl)) (by decide) (backOf (W := 0) (rm9 l Z ar hw [] p0 T259.heap n0 O259) hZ (ow hw 49 rfl) (ow hw 5 rfl) (by decide) (by decide)) (g := (mkF m 51 #[iv p0, iv p1, iv p2, rv b1, rv b76, un, un, un, un, un, un] [(.int p0)])) rfl (by rw [hml]; rfl) (argsL := [(.int p0)]) (rest := []) (lenOf pd_9 rfl) rfl (by show 2 * 0 + _ ≤ _; exact Nat.le_of_eq rfl) (hb hby at_51) (fun _ _ => ⟨rfl, rfl, (by decide : 20 + 0 ≤ _), (by decide : 54 + 0 ≤ _)⟩)
 dsimp only [Pt.U, Pt.locs, Pt.cells, Pt.slots] at X295 l295 y295 z295 st295 hQ295
 subst l295 y295 z295
 obtain ⟨rfl, N295q, e295⟩ := hQ295
 have N295 := Fr.app N259 N295q
 have pre296 : ∀ tg, AT p e below T295 m 54 #[iv p0, iv p1, iv p2, rv b1, rv b76, un, un, un, un, un, un] [(.int (f9 p0))] tg → Steps p.tables e below S0 tg := fun tg kg => pre0 tg (by
  refine st1 _ ?_
  refine XS.dup X1.here hx rfl (hb hby at_3) rfl rfl ?_
  refine XS.iloadN X1.here hx rfl (hb hby at_4) rfl ?_
  refine XS.iconst X1.here hx rfl (hb hby at_5) ?_
  show AT p e below T1 m 6 #[iv p0, iv p1, iv p2, un, un, un, un, un, un, un, un] [(.int (0 : Int32)), (.int p0), (.ref b1), (.ref b1)] _
  refine st5 _ ?_
  refine XS.iloadN X5.here hx rfl (hb hby at_9) rfl ?_
  refine XS.iconst X5.here hx rfl (hb hby at_10) ?_
  refine st14 _ ?_
  show AT p e below T14 m 14 #[iv p0, iv p1, iv p2, un, un, un, un, un, un, un, un] [(.ref t_14), (.ref t_5), (.ref b1), (.ref b1)] _
  refine XS.iloadN X14.here hx rfl (hb hby at_14) rfl ?_
  refine XS.iconst X14.here hx rfl (hb hby at_15) ?_
  refine st32 _ ?_
  refine st59.trans ?_
  show AT p e below T59 m 22 #[iv p0, iv p1, iv p2, un, un, un, un, un, un, un, un] [(.ref b1)] _
  refine XS.astoreN X59.here hx rfl (hb hby at_22) rfl rfl (l' := #[iv p0, iv p1, iv p2, rv b1, un, un, un, un, un, un, un]) rfl ?_
  refine st76 _ ?_
  refine XS.dup X76.here hx rfl (hb hby at_26) rfl rfl ?_
  refine XS.iloadN X76.here hx rfl (hb hby at_27) rfl ?_
  show AT p e below T76 m 28 #[iv p0, iv p1, iv p2, rv b1, un, un, un, un, un, un, un] [(.int p0), (.ref b76), (.ref b76)] _
  refine XS.bipush X76.here hx rfl (hb hby at_28) ?_
  refine st106 _ ?_
  refine XS.iloadN X106.here hx rfl (hb hby at_33) rfl ?_
  refine XS.bipush X106.here hx rfl (hb hby at_34) ?_
  show AT p e below T106 m 36 #[iv p0, iv p1, iv p2, rv b1, un, un, un, un, un, un, un] [(.int (16 : Int32)), (.int p1), (.ref t_106), (.ref b76), (.ref b76)] _
  refine st148 _ ?_
  refine XS.iloadN X148.here hx rfl (hb hby at_39) rfl ?_
  refine XS.bipush X148.here hx rfl (hb hby at_40) ?_
  refine st199 _ ?_
  show AT p e below T199 m 45 #[iv p0, iv p1, iv p2, rv b1, un, un, un, un, un, un, un] [(.ref t_199), (.ref t_148), (.ref t_106), (.ref b76), (.ref b76)] _
  refine st259.trans ?_
  refine XS.astore X259.here hx rfl (hb hby at_48) rfl rfl (l' := #[iv p0, iv p1, iv p2, rv b1, rv b76, un, un, un, un, un, un]) rfl ?_
  refine XS.iloadN X259.here hx rfl (hb hby at_50) rfl ?_
  refine st295 _ ?_
  exact kg)
 rcases Decidable.em ((f9 p0) = (0 : Int32)) with hc297 | hc297
 ·
  obtain ⟨cq298, kq298, q298a, q298b, q298c⟩ := isOf hZ e295 E259_260
  obtain ⟨_, _, ⟨T298, L298, k298, n298⟩, -, X298, ⟨Lc298, hQ298, l298, y298, z298⟩, st298⟩ := X295.virtualBack hx (y := y10) (z := y10) hown (mvT hZ (ow hw 50 rfl)) (mvT hZ (ow hw 51 rfl)) (notFace_of_selects (args := #[]) (mvT hZ (ow hw 53 rfl))) (mvT hZ (ow hw 53 rfl)) (mvT hZ (ow hw 52 rfl)) (by decide) (backOf (W := 0) (rm10 l Z ar hw [] b1 b76 w_CS0 w_SF1 t_5 b_5 kb_5 (nar .byte ((ch p0 (0 : Int32)).toInt8.toInt32)) (nar .byte ((ch p0 ((0 : Int32) + (8 : Int32))).toInt8.toInt32)) t_106 b_106 kb_106 (nar .byte ((ch p0 (16 : Int32)).toInt8.toInt32)) (nar .byte ((ch p0 ((16 : Int32) + (8 : Int32))).toInt8.toInt32)) t_14 b_14 kb_14 (nar .byte ((ch p1 (0 : Int32)).toInt8.toInt32)) (nar .byte ((ch p1 ((0 : Int32) + (8 : Int32))).toInt8.toInt32)) t_148 b_148 kb_148 (nar .byte ((ch p1 (16 : Int32)).toInt8.toInt32)) (nar .byte ((ch p1 ((16 : Int32) + (8 : Int32))).toInt8.toInt32)) t_32 b_32 kb_32 (nar .byte ((ch p2 (0 : Int32)).toInt8.toInt32)) (nar .byte ((ch p2 ((0 : Int32) + (8 : Int32))).toInt8.toInt32)) t_199 b_199 kb_199 (nar .byte ((ch p2 (16 : Int32)).toInt8.toInt32)) (nar .byte ((ch p2 ((16 : Int32) + (8 : Int32))).toInt8.toInt32)) T259.heap n0 O259 HW E259_260 E259_279 F259_276 E259_261 F259_262 F259_263 V259_264 u259_1 E259_280 F259_281 F259_282 V259_283 ne132 F259_277 E259_266 F259_267 F259_268 V259_269 u259_2 E259_285 F259_286 F259_287 V259_288 ne181 F259_278 E259_271 F259_272 F259_273 V259_274 u259_3 E259_290 F259_291 F259_292 V259_293 ne239) hZ (ow hw 54 rfl) (ow hw 2 rfl) (by decide) (by decide)) q298a q298c (g := (mkF m 81 #[iv p0, iv p1, iv p2, rv b1, rv b76, iv (0 : Int32), un, un, un, un, un] [(.ref b76), (.ref b1)])) rfl (by rw [hml]; rfl) (Steps.refl _) (argsL := [(.ref b76)]) (rest := []) (lenOf pd_6 rfl) rfl (by show 2 * 0 + _ ≤ _; exact Nat.le_of_eq rfl) (hb hby at_81) (fun _ _ => ⟨rfl, e295, (by decide : 20 + 0 ≤ _), (by decide : 54 + 0 ≤ _)⟩)
  dsimp only [Pt.U, Pt.locs, Pt.cells, Pt.slots] at X298 l298 y298 z298 st298 hQ298
  subst l298 y298 z298
  obtain ⟨rfl, N298q, e298⟩ := hQ298
  have N298 := Fr.app N295 N298q
  clear F1_2 F1_3 F1_4 E5_6 F5_7 F5_8 F5_9 E14_15 F14_16 F14_17 F14_18 E14_19 F14_20 F14_21 V14_22 E14_23 E32_33 E32_37 F32_38 F32_39 V32_40 E32_41 E32_42 F32_43 F32_44 V32_45 E32_46 E59_60 E59_61 F59_62 F59_63 V59_64 E59_65 E59_66 F59_67 F59_68 V59_69 E59_70 E59_71 F59_72 F59_73 V59_74 E59_75 E76_84 E76_85 F76_86 F76_87 V76_88 E76_89 E76_90 F76_91 F76_92 V76_93 E76_94 E76_95 F76_96 F76_97 V76_98 E76_99 F76_100 F76_101 F76_102 F76_103 F76_104 F76_105 E106_107 E106_108 F106_109 F106_110 V106_111 E106_112 E106_113 F106_114 F106_115 V106_116 E106_117 E106_118 F106_119 F106_120 V106_121 E106_122 F106_123 F106_124 F106_125 E106_126 F106_127 F106_128 F106_129 E148_149 E148_150 F148_151 F148_152 V148_153 E148_154 E148_155 F148_156 F148_157 V148_158 E148_159 E148_160 F148_161 F148_162 V148_163 E148_164 F148_165 F148_166 F148_167 E148_168 F148_169 F148_170 F148_171 E148_172 F148_173 F148_174 V148_175 E148_176 E199_200 E199_201 F199_202 F199_203 V199_204 E199_205 E199_206 F199_207 F199_208 V199_209 E199_210 E199_211 F199_212 F199_213 V199_214 E199_215 F199_216 F199_217 F199_218 E199_219 E199_223 F199_224 F199_225 V199_226 E199_227 E199_228 F199_229 F199_230 V199_231 E199_232
  have pre299 : ∀ tg, AT p e below T298 m 84 #[iv p0, iv p1, iv p2, rv b1, rv b76, iv (0 : Int32), un, un, un, un, un] [(.int (f10 (nar .byte ((ch p0 (0 : Int32)).toInt8.toInt32)) (nar .byte ((ch p0 ((0 : Int32) + (8 : Int32))).toInt8.toInt32)) (nar .byte ((ch p0 (16 : Int32)).toInt8.toInt32)) (nar .byte ((ch p0 ((16 : Int32) + (8 : Int32))).toInt8.toInt32)) (nar .byte ((ch p1 (0 : Int32)).toInt8.toInt32)) (nar .byte ((ch p1 ((0 : Int32) + (8 : Int32))).toInt8.toInt32)) (nar .byte ((ch p1 (16 : Int32)).toInt8.toInt32)) (nar .byte ((ch p1 ((16 : Int32) + (8 : Int32))).toInt8.toInt32)) (nar .byte ((ch p2 (0 : Int32)).toInt8.toInt32)) (nar .byte ((ch p2 ((0 : Int32) + (8 : Int32))).toInt8.toInt32)) (nar .byte ((ch p2 (16 : Int32)).toInt8.toInt32)) (nar .byte ((ch p2 ((16 : Int32) + (8 : Int32))).toInt8.toInt32))))] tg → Steps p.tables e below S0 tg := fun tg kg => pre296 tg (by
   refine XS.ifYes X295.here hx rfl (pc0 := 54) (pc' := 75) rfl (hb hby at_54) rfl (XT.i0_eq_t hc297) (by decide) (by decide) ?_
   show AT p e below T295 m 75 #[iv p0, iv p1, iv p2, rv b1, rv b76, un, un, un, un, un, un] [] _
   refine XS.iconst X295.here hx rfl (hb hby at_75) ?_
   refine XS.istore X295.here hx rfl (hb hby at_76) rfl (l' := #[iv p0, iv p1, iv p2, rv b1, rv b76, iv (0 : Int32), un, un, un, un, un]) rfl ?_
   refine XS.aloadN X295.here hx rfl (hb hby at_78) rfl rfl ?_
   refine XS.aload X295.here hx rfl (hb hby at_79) rfl rfl ?_
   show AT p e below T295 m 81 #[iv p0, iv p1, iv p2, rv b1, rv b76, iv (0 : Int32), un, un, un, un, un] [(.ref b76), (.ref b1)] _
   refine st298.trans ?_
   exact kg)
  have hw300 : (f10 (nar .byte ((ch p0 (0 : Int32)).toInt8.toInt32)) (nar .byte ((ch p0 ((0 : Int32) + (8 : Int32))).toInt8.toInt32)) (nar .byte ((ch p0 (16 : Int32)).toInt8.toInt32)) (nar .byte ((ch p0 ((16 : Int32) + (8 : Int32))).toInt8.toInt32)) (nar .byte ((ch p1 (0 : Int32)).toInt8.toInt32)) (nar .byte ((ch p1 ((0 : Int32) + (8 : Int32))).toInt8.toInt32)) (nar .byte ((ch p1 (16 : Int32)).toInt8.toInt32)) (nar .byte ((ch p1 ((16 : Int32) + (8 : Int32))).toInt8.toInt32)) (nar .byte ((ch p2 (0 : Int32)).toInt8.toInt32)) (nar .byte ((ch p2 ((0 : Int32) + (8 : Int32))).toInt8.toInt32)) (nar .byte ((ch p2 (16 : Int32)).toInt8.toInt32)) (nar .byte ((ch p2 ((16 : Int32) + (8 : Int32))).toInt8.toInt32))) = (0 : Int32) := by rw [own_ab]; unfold ref3; simp [hc297]
  have pre300 : ∀ tg, AT p e below T298 m 84 #[iv p0, iv p1, iv p2, rv b1, rv b76, iv (0 : Int32), un, un, un, un, un] [(.int (0 : Int32))] tg → Steps p.tables e below S0 tg := by
    have q := pre299
    rw [hw300] at q
    exact q
  obtain ⟨cq301, kq301, q301a, q301b, q301c⟩ := isOf hZ e298 E259_279
  obtain ⟨_, _, ⟨T301, L301, k301, n301⟩, -, X301, ⟨Lc301, hQ301, l301, y301, z301⟩, st301⟩ := X298.virtualBack hx (y := y10) (z := y10) hown (mvT hZ (ow hw 50 rfl)) (mvT hZ (ow hw 51 rfl)) (notFace_of_selects (args := #[]) (mvT hZ (ow hw 53 rfl))) (mvT hZ (ow hw 53 rfl)) (mvT hZ (ow hw 52 rfl)) (by decide) (backOf (W := 0) (rm10 l Z ar hw [] b76 b1 w_CS0 w_SF1 t_106 b_106 kb_106 (nar .byte ((ch p0 (16 : Int32)).toInt8.toInt32)) (nar .byte ((ch p0 ((16 : Int32) + (8 : Int32))).toInt8.toInt32)) t_5 b_5 kb_5 (nar .byte ((ch p0 (0 : Int32)).toInt8.toInt32)) (nar .byte ((ch p0 ((0 : Int32) + (8 : Int32))).toInt8.toInt32)) t_148 b_148 kb_148 (nar .byte ((ch p1 (16 : Int32)).toInt8.toInt32)) (nar .byte ((ch p1 ((16 : Int32) + (8 : Int32))).toInt8.toInt32)) t_14 b_14 kb_14 (nar .byte ((ch p1 (0 : Int32)).toInt8.toInt32)) (nar .byte ((ch p1 ((0 : Int32) + (8 : Int32))).toInt8.toInt32)) t_199 b_199 kb_199 (nar .byte ((ch p2 (16 : Int32)).toInt8.toInt32)) (nar .byte ((ch p2 ((16 : Int32) + (8 : Int32))).toInt8.toInt32)) t_32 b_32 kb_32 (nar .byte ((ch p2 (0 : Int32)).toInt8.toInt32)) (nar .byte ((ch p2 ((0 : Int32) + (8 : Int32))).toInt8.toInt32)) T259.heap n0 O259 HW E259_279 E259_260 u259_1 E259_280 F259_281 F259_282 V259_283 F259_276 E259_261 F259_262 F259_263 V259_264 (Ne.symm ne132) u259_2 E259_285 F259_286 F259_287 V259_288 F259_277 E259_266 F259_267 F259_268 V259_269 (Ne.symm ne181) u259_3 E259_290 F259_291 F259_292 V259_293 F259_278 E259_271 F259_272 F259_273 V259_274 (Ne.symm ne239)) hZ (ow hw 54 rfl) (ow hw 2 rfl) (by decide) (by decide)) q301a q301c (g := (mkF m 89 #[iv p0, iv p1, iv p2, rv b1, rv b76, iv (0 : Int32), iv (0 : Int32), un, un, un, un] [(.ref b1), (.ref b76)])) rfl (by rw [hml]; rfl) (Steps.refl _) (argsL := [(.ref b1)]) (rest := []) (lenOf pd_6 rfl) rfl (by show 2 * 0 + _ ≤ _; exact Nat.le_of_eq rfl) (hb hby at_89) (fun _ _ => ⟨rfl, e298, (by decide : 20 + 0 ≤ _), (by decide : 54 + 0 ≤ _)⟩)
  dsimp only [Pt.U, Pt.locs, Pt.cells, Pt.slots] at X301 l301 y301 z301 st301 hQ301
  subst l301 y301 z301
  obtain ⟨rfl, N301q, e301⟩ := hQ301
  have N301 := Fr.app N298 N301q
  have pre302 : ∀ tg, AT p e below T301 m 92 #[iv p0, iv p1, iv p2, rv b1, rv b76, iv (0 : Int32), iv (0 : Int32), un, un, un, un] [(.int (f10 (nar .byte ((ch p0 (16 : Int32)).toInt8.toInt32)) (nar .byte ((ch p0 ((16 : Int32) + (8 : Int32))).toInt8.toInt32)) (nar .byte ((ch p0 (0 : Int32)).toInt8.toInt32)) (nar .byte ((ch p0 ((0 : Int32) + (8 : Int32))).toInt8.toInt32)) (nar .byte ((ch p1 (16 : Int32)).toInt8.toInt32)) (nar .byte ((ch p1 ((16 : Int32) + (8 : Int32))).toInt8.toInt32)) (nar .byte ((ch p1 (0 : Int32)).toInt8.toInt32)) (nar .byte ((ch p1 ((0 : Int32) + (8 : Int32))).toInt8.toInt32)) (nar .byte ((ch p2 (16 : Int32)).toInt8.toInt32)) (nar .byte ((ch p2 ((16 : Int32) + (8 : Int32))).toInt8.toInt32)) (nar .byte ((ch p2 (0 : Int32)).toInt8.toInt32)) (nar .byte ((ch p2 ((0 : Int32) + (8 : Int32))).toInt8.toInt32))))] tg → Steps p.tables e below S0 tg := fun tg kg => pre300 tg (by
   refine XS.istore X298.here hx rfl (hb hby at_84) rfl (l' := #[iv p0, iv p1, iv p2, rv b1, rv b76, iv (0 : Int32), iv (0 : Int32), un, un, un, un]) rfl ?_
   refine XS.aload X298.here hx rfl (hb hby at_86) rfl rfl ?_
   refine XS.aloadN X298.here hx rfl (hb hby at_88) rfl rfl ?_
   refine st301.trans ?_
   exact kg)
  have hw303 : (f10 (nar .byte ((ch p0 (16 : Int32)).toInt8.toInt32)) (nar .byte ((ch p0 ((16 : Int32) + (8 : Int32))).toInt8.toInt32)) (nar .byte ((ch p0 (0 : Int32)).toInt8.toInt32)) (nar .byte ((ch p0 ((0 : Int32) + (8 : Int32))).toInt8.toInt32)) (nar .byte ((ch p1 (16 : Int32)).toInt8.toInt32)) (nar .byte ((ch p1 ((16 : Int32) + (8 : Int32))).toInt8.toInt32)) (nar .byte ((ch p1 (0 : Int32)).toInt8.toInt32)) (nar .byte ((ch p1 ((0 : Int32) + (8 : Int32))).toInt8.toInt32)) (nar .byte ((ch p2 (16 : Int32)).toInt8.toInt32)) (nar .byte ((ch p2 ((16 : Int32) + (8 : Int32))).toInt8.toInt32)) (nar .byte ((ch p2 (0 : Int32)).toInt8.toInt32)) (nar .byte ((ch p2 ((0 : Int32) + (8 : Int32))).toInt8.toInt32))) = (0 : Int32) := by rw [own_ba]; unfold ref3; simp [hc297]
  have pre303 : ∀ tg, AT p e below T301 m 92 #[iv p0, iv p1, iv p2, rv b1, rv b76, iv (0 : Int32), iv (0 : Int32), un, un, un, un] [(.int (0 : Int32))] tg → Steps p.tables e below S0 tg := by
    have q := pre302
    rw [hw303] at q
    exact q
  obtain ⟨cq304, kq304, q304a, q304b, q304c⟩ := isOf hZ e301 E259_260
  obtain ⟨_, _, ⟨T304, L304, k304, n304⟩, -, X304, ⟨Lc304, hQ304, l304, y304, z304⟩, st304⟩ := X301.virtualBack hx (y := y10) (z := y10) hown (mvT hZ (ow hw 50 rfl)) (mvT hZ (ow hw 51 rfl)) (notFace_of_selects (args := #[]) (mvT hZ (ow hw 53 rfl))) (mvT hZ (ow hw 53 rfl)) (mvT hZ (ow hw 52 rfl)) (by decide) (backOf (W := 0) (rm10s l Z ar hw [] b1 t_5 t_14 t_32 T259.heap n0 O259 E259_260 F259_276 E259_261 F259_277 E259_266 F259_278 E259_271) hZ (ow hw 54 rfl) (ow hw 2 rfl) (by decide) (by decide)) q304a q304c (g := (mkF m 96 #[iv p0, iv p1, iv p2, rv b1, rv b76, iv (0 : Int32), iv (0 : Int32), iv (0 : Int32), un, un, un] [(.ref b1), (.ref b1)])) rfl (by rw [hml]; rfl) (Steps.refl _) (argsL := [(.ref b1)]) (rest := []) (lenOf pd_6 rfl) rfl (by show 2 * 0 + _ ≤ _; exact Nat.le_of_eq rfl) (hb hby at_96) (fun _ _ => ⟨rfl, e301, (by decide : 20 + 0 ≤ _), (by decide : 54 + 0 ≤ _)⟩)
  dsimp only [Pt.U, Pt.locs, Pt.cells, Pt.slots] at X304 l304 y304 z304 st304 hQ304
  subst l304 y304 z304
  obtain ⟨rfl, N304q, e304⟩ := hQ304
  have N304 := Fr.app N301 N304q
  obtain ⟨cq305, kq305, q305a, q305b, q305c⟩ := isOf hZ e304 E259_260
  obtain ⟨_, _, ⟨T305, L305, k305, n305⟩, -, X305, ⟨Lc305, hQ305, l305, y305, z305⟩, st305⟩ := X304.virtualBack hx (y := y10) (z := y10) hown (mvT hZ (ow hw 50 rfl)) (mvT hZ (ow hw 51 rfl)) (notFace_of_selects (args := #[]) (mvT hZ (ow hw 53 rfl))) (mvT hZ (ow hw 53 rfl)) (mvT hZ (ow hw 52 rfl)) (by decide) (backOf (W := 0) (rm10n l Z ar hw [] b1 T259.heap n0 O259 E259_260) hZ (ow hw 54 rfl) (ow hw 2 rfl) (by decide) (by decide)) q305a q305c (g := (mkF m 103 #[iv p0, iv p1, iv p2, rv b1, rv b76, iv (0 : Int32), iv (0 : Int32), iv (0 : Int32), iv (1 : Int32), un, un] [.null, (.ref b1)])) rfl (by rw [hml]; rfl) (Steps.refl _) (argsL := [.null]) (rest := []) (lenOf pd_6 rfl) rfl (by show 2 * 0 + _ ≤ _; exact Nat.le_of_eq rfl) (hb hby at_103) (fun _ _ => ⟨rfl, e304, (by decide : 20 + 0 ≤ _), (by decide : 54 + 0 ≤ _)⟩)
  dsimp only [Pt.U, Pt.locs, Pt.cells, Pt.slots] at X305 l305 y305 z305 st305 hQ305
  subst l305 y305 z305
  obtain ⟨rfl, N305q, e305⟩ := hQ305
  have N305 := Fr.app N304 N305q
  obtain ⟨_, _, ⟨T306, L306, k306, n306⟩, -, X306, ⟨Lc306, hQ306, l306, y306, z306⟩, st306⟩ := Jvm.LawKit.callS X305 hx (y := y1) hown (mvT hZ (ow hw 3 rfl)) (mvT hZ (ow hw 4 rfl)) (mvT hZ (ow hw 5 rfl)) (mvT hZ (ow hw 6 rfl)) (by decide) (backOf (W := 1) (rm1 l Z ar hw [] p0 (0 : Int32) w_CS0 w_SF1 T259.heap n0 O259 HW) hZ (ow hw 6 rfl) (ow hw 5 rfl) (by decide) (by decide)) (g := (mkF m 111 #[iv p0, iv p1, iv p2, rv b1, rv b76, iv (0 : Int32), iv (0 : Int32), iv (0 : Int32), iv (1 : Int32), iv (0 : Int32), un] [(.int (0 : Int32)), (.int p0), (.ref b1)])) rfl (by rw [hml]; rfl) (argsL := [(.int p0), (.int (0 : Int32))]) (rest := [(.ref b1)]) (lenOf pd_7 rfl) rfl (by show 2 * 0 + _ ≤ _; exact Nat.le_of_eq rfl) (hb hby at_111) (fun _ _ => ⟨rfl, e305, (by decide : 20 + 3 ≤ _), (by decide : 54 + 8 ≤ _)⟩)
  dsimp only [Pt.U, Pt.locs, Pt.cells, Pt.slots] at X306 l306 y306 z306 st306 hQ306
  subst l306 y306 z306
  obtain ⟨t_306, b_306, kb_306, rfl, N306q, Kq306, u306_0, u306_1, u306_2, u306_3, u306_4, u306_5, u306_6, u306_7⟩ := hQ306
  have N306 := Fr.app N305 N306q
  have E306_307 := E259_260.keep Kq306
  have E306_308 := E259_261.keep Kq306
  have F306_309 := F259_262.keep Kq306 nin0
  have F306_310 := F259_263.keep Kq306 nin0
  have V306_311 := V259_264.keep Kq306 nin0
  have E306_312 := E259_265.keep Kq306
  have E306_313 := E259_266.keep Kq306
  have F306_314 := F259_267.keep Kq306 nin0
  have F306_315 := F259_268.keep Kq306 nin0
  have V306_316 := V259_269.keep Kq306 nin0
  have E306_317 := E259_270.keep Kq306
  have E306_318 := E259_271.keep Kq306
  have F306_319 := F259_272.keep Kq306 nin0
  have F306_320 := F259_273.keep Kq306 nin0
  have V306_321 := V259_274.keep Kq306 nin0
  have E306_322 := E259_275.keep Kq306
  have F306_323 := F259_276.keep Kq306 nin0
  have F306_324 := F259_277.keep Kq306 nin0
  have F306_325 := F259_278.keep Kq306 nin0
  have E306_326 := E259_279.keep Kq306
  have E306_327 := E259_280.keep Kq306
  have F306_328 := F259_281.keep Kq306 nin0
  have F306_329 := F259_282.keep Kq306 nin0
  have V306_330 := V259_283.keep Kq306 nin0
  have E306_331 := E259_284.keep Kq306
  have E306_332 := E259_285.keep Kq306
  have F306_333 := F259_286.keep Kq306 nin0
  have F306_334 := F259_287.keep Kq306 nin0
  have V306_335 := V259_288.keep Kq306 nin0
  have E306_336 := E259_289.keep Kq306
  have E306_337 := E259_290.keep Kq306
  have F306_338 := F259_291.keep Kq306 nin0
  have F306_339 := F259_292.keep Kq306 nin0
  have V306_340 := V259_293.keep Kq306 nin0
  have E306_341 := E259_294.keep Kq306
  have F306_342 := u259_1.keep Kq306 nin0
  have F306_343 := u259_2.keep Kq306 nin0
  have F306_344 := u259_3.keep Kq306 nin0
  have K306 := K259.trans Kq306 all0
  have O306 := O259.keep Kq306 all0
  have sz345 : h0.size ≤ t_306 := Nat.le_trans K259.1 u306_5
  have gn345 : n0 ≤ t_306 := Nat.le_trans (Nat.le_trans (Nat.le_of_eq O259.1.symm) O259.2.1) u306_5
  have ne346 : b1 ≠ t_306 := Nat.ne_of_lt (Nat.lt_of_lt_of_le (E259_260).lt u306_5)
  have ne347 : t_5 ≠ t_306 := Nat.ne_of_lt (Nat.lt_of_lt_of_le (E259_261).lt u306_5)
  have ne348 : b_5 ≠ t_306 := Nat.ne_of_lt (Nat.lt_of_lt_of_le (V259_264).lt u306_5)
  have ne349 : t_14 ≠ t_306 := Nat.ne_of_lt (Nat.lt_of_lt_of_le (E259_266).lt u306_5)
  have ne350 : b_14 ≠ t_306 := Nat.ne_of_lt (Nat.lt_of_lt_of_le (V259_269).lt u306_5)
  have ne351 : t_32 ≠ t_306 := Nat.ne_of_lt (Nat.lt_of_lt_of_le (E259_271).lt u306_5)
  have ne352 : b_32 ≠ t_306 := Nat.ne_of_lt (Nat.lt_of_lt_of_le (V259_274).lt u306_5)
  have ne353 : b76 ≠ t_306 := Nat.ne_of_lt (Nat.lt_of_lt_of_le (E259_279).lt u306_5)
  have ne354 : t_106 ≠ t_306 := Nat.ne_of_lt (Nat.lt_of_lt_of_le (E259_280).lt u306_5)
  have ne355 : b_106 ≠ t_306 := Nat.ne_of_lt (Nat.lt_of_lt_of_le (V259_283).lt u306_5)
  have ne356 : t_148 ≠ t_306 := Nat.ne_of_lt (Nat.lt_of_lt_of_le (E259_285).lt u306_5)
  have ne357 : b_148 ≠ t_306 := Nat.ne_of_lt (Nat.lt_of_lt_of_le (V259_288).lt u306_5)
  have ne358 : t_199 ≠ t_306 := Nat.ne_of_lt (Nat.lt_of_lt_of_le (E259_290).lt u306_5)
  have ne359 : b_199 ≠ t_306 := Nat.ne_of_lt (Nat.lt_of_lt_of_le (V259_293).lt u306_5)
  have sz360 : h0.size ≤ b_306 := Nat.le_trans K259.1 u306_6
  have gn360 : n0 ≤ b_306 := Nat.le_trans (Nat.le_trans (Nat.le_of_eq O259.1.symm) O259.2.1) u306_6
  have ne361 : b1 ≠ b_306 := Nat.ne_of_lt (Nat.lt_of_lt_of_le (E259_260).lt u306_6)
  have ne362 : t_5 ≠ b_306 := Nat.ne_of_lt (Nat.lt_of_lt_of_le (E259_261).lt u306_6)
  have ne363 : b_5 ≠ b_306 := Nat.ne_of_lt (Nat.lt_of_lt_of_le (V259_264).lt u306_6)
  have ne364 : t_14 ≠ b_306 := Nat.ne_of_lt (Nat.lt_of_lt_of_le (E259_266).lt u306_6)
  have ne365 : b_14 ≠ b_306 := Nat.ne_of_lt (Nat.lt_of_lt_of_le (V259_269).lt u306_6)
  have ne366 : t_32 ≠ b_306 := Nat.ne_of_lt (Nat.lt_of_lt_of_le (E259_271).lt u306_6)
  have ne367 : b_32 ≠ b_306 := Nat.ne_of_lt (Nat.lt_of_lt_of_le (V259_274).lt u306_6)
  have ne368 : b76 ≠ b_306 := Nat.ne_of_lt (Nat.lt_of_lt_of_le (E259_279).lt u306_6)
  have ne369 : t_106 ≠ b_306 := Nat.ne_of_lt (Nat.lt_of_lt_of_le (E259_280).lt u306_6)
  have ne370 : b_106 ≠ b_306 := Nat.ne_of_lt (Nat.lt_of_lt_of_le (V259_283).lt u306_6)
  have ne371 : t_148 ≠ b_306 := Nat.ne_of_lt (Nat.lt_of_lt_of_le (E259_285).lt u306_6)
  have ne372 : b_148 ≠ b_306 := Nat.ne_of_lt (Nat.lt_of_lt_of_le (V259_288).lt u306_6)
  have ne373 : t_199 ≠ b_306 := Nat.ne_of_lt (Nat.lt_of_lt_of_le (E259_290).lt u306_6)
  have ne374 : b_199 ≠ b_306 := Nat.ne_of_lt (Nat.lt_of_lt_of_le (V259_293).lt u306_6)
  obtain ⟨cq375, kq375, q375a, q375b, q375c⟩ := isOf hZ rfl E306_307
  obtain ⟨_, _, ⟨T375, L375, k375, n375⟩, -, X375, ⟨Lc375, hQ375, l375, y375, z375⟩, st375⟩ := X306.virtualBack hx (y := y10) (z := y10) hown (mvT hZ (ow hw 50 rfl)) (mvT hZ (ow hw 51 rfl)) (notFace_of_selects (args := #[]) (mvT hZ (ow hw 53 rfl))) (mvT hZ (ow hw 53 rfl)) (mvT hZ (ow hw 52 rfl)) (by decide) (backOf (W := 0) (rm10t l Z ar hw [] b1 t_306 T306.heap n0 O306 E306_307 u306_0) hZ (ow hw 54 rfl) (ow hw 2 rfl) (by decide) (by decide)) q375a q375c (g := (mkF m 114 #[iv p0, iv p1, iv p2, rv b1, rv b76, iv (0 : Int32), iv (0 : Int32), iv (0 : Int32), iv (1 : Int32), iv (0 : Int32), un] [(.ref t_306), (.ref b1)])) rfl (by rw [hml]; rfl) (Steps.refl _) (argsL := [(.ref t_306)]) (rest := []) (lenOf pd_6 rfl) rfl (by show 2 * 0 + _ ≤ _; exact Nat.le_of_eq rfl) (hb hby at_114) (fun _ _ => ⟨rfl, rfl, (by decide : 23 + 0 ≤ _), (by decide : 62 + 0 ≤ _)⟩)
  dsimp only [Pt.U, Pt.locs, Pt.cells, Pt.slots] at X375 l375 y375 z375 st375 hQ375
  subst l375 y375 z375
  obtain ⟨rfl, N375q, e375⟩ := hQ375
  have N375 := Fr.app N306 N375q
  clear E259_260 E259_261 F259_262 F259_263 V259_264 E259_265 E259_266 F259_267 F259_268 V259_269 E259_270 E259_271 F259_272 F259_273 V259_274 E259_275 F259_276 F259_277 F259_278 E259_279 E259_280 F259_281 F259_282 V259_283 E259_284 E259_285 F259_286 F259_287 V259_288 E259_289 E259_290 F259_291 F259_292 V259_293 E259_294
  obtain ⟨fs, hr, hrun, hended, hW, hsame⟩ := X375.leave (v := some (.int (1 : Int32))) (fun h => by rw [Bd.returns] at h; cases h) hlk
  subst hS0
  refine ⟨_, _, pre303 _ ?_, hrun, hended, _, _, rfl, ?_, ⟨_, rfl⟩, hW, hsame.mono (by decide) (by decide)⟩
  ·
   refine XS.istore X301.here hx rfl (hb hby at_92) rfl (l' := #[iv p0, iv p1, iv p2, rv b1, rv b76, iv (0 : Int32), iv (0 : Int32), iv (0 : Int32), un, un, un]) rfl ?_
   refine XS.aloadN X301.here hx rfl (hb hby at_94) rfl rfl ?_
   refine XS.aloadN X301.here hx rfl (hb hby at_95) rfl rfl ?_
   refine st304.trans ?_
   show AT p e below T304 m 99 #[iv p0, iv p1, iv p2, rv b1, rv b76, iv (0 : Int32), iv (0 : Int32), iv (0 : Int32), un, un, un] [(.int (1 : Int32))] _
   refine XS.istore X304.here hx rfl (hb hby at_99) rfl (l' := #[iv p0, iv p1, iv p2, rv b1, rv b76, iv (0 : Int32), iv (0 : Int32), iv (0 : Int32), iv (1 : Int32), un, un]) rfl ?_
   refine XS.aloadN X304.here hx rfl (hb hby at_101) rfl rfl ?_
   refine XS.aconstNull X304.here hx rfl (hb hby at_102) ?_
   refine st305.trans ?_
   show AT p e below T305 m 106 #[iv p0, iv p1, iv p2, rv b1, rv b76, iv (0 : Int32), iv (0 : Int32), iv (0 : Int32), iv (1 : Int32), un, un] [(.int (0 : Int32))] _
   refine XS.istore X305.here hx rfl (hb hby at_106) rfl (l' := #[iv p0, iv p1, iv p2, rv b1, rv b76, iv (0 : Int32), iv (0 : Int32), iv (0 : Int32), iv (1 : Int32), iv (0 : Int32), un]) rfl ?_
   refine XS.aloadN X305.here hx rfl (hb hby at_108) rfl rfl ?_
   refine XS.iloadN X305.here hx rfl (hb hby at_109) rfl ?_
   refine XS.iconst X305.here hx rfl (hb hby at_110) ?_
   show AT p e below T305 m 111 #[iv p0, iv p1, iv p2, rv b1, rv b76, iv (0 : Int32), iv (0 : Int32), iv (0 : Int32), iv (1 : Int32), iv (0 : Int32), un] [(.int (0 : Int32)), (.int p0), (.ref b1)] _
   refine st306 _ ?_
   refine st375.trans ?_
   refine XS.istore X375.here hx rfl (hb hby at_117) rfl (l' := #[iv p0, iv p1, iv p2, rv b1, rv b76, iv (0 : Int32), iv (0 : Int32), iv (0 : Int32), iv (1 : Int32), iv (0 : Int32), iv (0 : Int32)]) rfl ?_
   refine XS.iload X375.here hx rfl (hb hby at_119) rfl ?_
   show AT p e below T375 m 121 #[iv p0, iv p1, iv p2, rv b1, rv b76, iv (0 : Int32), iv (0 : Int32), iv (0 : Int32), iv (1 : Int32), iv (0 : Int32), iv (0 : Int32)] [(.int (0 : Int32))] _
   refine XS.iload X375.here hx rfl (hb hby at_121) rfl ?_
   show AT p e below T375 m 123 #[iv p0, iv p1, iv p2, rv b1, rv b76, iv (0 : Int32), iv (0 : Int32), iv (0 : Int32), iv (1 : Int32), iv (0 : Int32), iv (0 : Int32)] [(.int (0 : Int32)), (.int (0 : Int32))] _
   refine XS.icmpNo X375.here hx rfl (hb hby at_123) rfl (XT.ii_ne_f ((by decide) : (0 : Int32) = (0 : Int32))) ?_
   refine XS.iload X375.here hx rfl (hb hby at_126) rfl ?_
   refine XS.iload X375.here hx rfl (hb hby at_128) rfl ?_
   show AT p e below T375 m 130 #[iv p0, iv p1, iv p2, rv b1, rv b76, iv (0 : Int32), iv (0 : Int32), iv (0 : Int32), iv (1 : Int32), iv (0 : Int32), iv (0 : Int32)] [(.int (0 : Int32)), (.int (0 : Int32))] _
   refine XS.icmpNo X375.here hx rfl (hb hby at_130) rfl (XT.ii_ne_f ((by decide) : (0 : Int32) = (0 : Int32))) ?_
   refine XS.iload X375.here hx rfl (hb hby at_133) rfl ?_
   show AT p e below T375 m 135 #[iv p0, iv p1, iv p2, rv b1, rv b76, iv (0 : Int32), iv (0 : Int32), iv (0 : Int32), iv (1 : Int32), iv (0 : Int32), iv (0 : Int32)] [(.int (1 : Int32))] _
   refine XS.ifNo X375.here hx rfl (hb hby at_135) rfl (XT.i0_eq_f ((by decide) : ¬ ((1 : Int32) = (0 : Int32)))) ?_
   show AT p e below T375 m 138 #[iv p0, iv p1, iv p2, rv b1, rv b76, iv (0 : Int32), iv (0 : Int32), iv (0 : Int32), iv (1 : Int32), iv (0 : Int32), iv (0 : Int32)] [] _
   refine XS.iload X375.here hx rfl (hb hby at_138) rfl ?_
   show AT p e below T375 m 140 #[iv p0, iv p1, iv p2, rv b1, rv b76, iv (0 : Int32), iv (0 : Int32), iv (0 : Int32), iv (1 : Int32), iv (0 : Int32), iv (0 : Int32)] [(.int (0 : Int32))] _
   refine XS.ifNo X375.here hx rfl (hb hby at_140) rfl (XT.i0_ne_f ((by decide) : (0 : Int32) = (0 : Int32))) ?_
   refine XS.iload X375.here hx rfl (hb hby at_143) rfl ?_
   show AT p e below T375 m 145 #[iv p0, iv p1, iv p2, rv b1, rv b76, iv (0 : Int32), iv (0 : Int32), iv (0 : Int32), iv (1 : Int32), iv (0 : Int32), iv (0 : Int32)] [(.int (0 : Int32))] _
   refine XS.ifNo X375.here hx rfl (hb hby at_145) rfl (XT.i0_ne_f ((by decide) : (0 : Int32) = (0 : Int32))) ?_
   refine XS.iconst X375.here hx rfl (hb hby at_148) ?_
   refine XS.goto X375.here hx rfl (pc0 := 149) (pc' := 153) rfl (hb hby at_149) (by decide) (by decide) ?_
   show AT p e below T375 m 153 #[iv p0, iv p1, iv p2, rv b1, rv b76, iv (0 : Int32), iv (0 : Int32), iv (0 : Int32), iv (1 : Int32), iv (0 : Int32), iv (0 : Int32)] [(.int (1 : Int32))] _
   exact retN X375 hx (t := .boolean) Bd.returns (by simp) (hb hby at_153) hr
  ·
   show Q0 Z p0 p1 p2 w_CS0 w_SF1 h0 n0 _ T375.heap _
   rw [e375]
   exact ⟨rfl, N375⟩
 ·
  obtain ⟨_, _, ⟨T376, L376, k376, n376⟩, -, X376, ⟨Lc376, hQ376, l376, y376, z376⟩, st376⟩ := Jvm.LawKit.callS X295 hx (y := y9) hown (mvT hZ (ow hw 47 rfl)) (mvT hZ (ow hw 48 rfl)) (mvT hZ (ow hw 5 rfl)) (mvT hZ (ow hw 49 rfl)) (by decide) (backOf (W := 0) (rm9 l Z ar hw [] p1 T259.heap n0 O259) hZ (ow hw 49 rfl) (ow hw 5 rfl) (by decide) (by decide)) (g := (mkF m 58 #[iv p0, iv p1, iv p2, rv b1, rv b76, un, un, un, un, un, un] [(.int p1)])) rfl (by rw [hml]; rfl) (argsL := [(.int p1)]) (rest := []) (lenOf pd_9 rfl) rfl (by show 2 * 0 + _ ≤ _; exact Nat.le_of_eq rfl) (hb hby at_58) (fun _ _ => ⟨rfl, e295, (by decide : 20 + 0 ≤ _), (by decide : 54 + 0 ≤ _)⟩)
  dsimp only [Pt.U, Pt.locs, Pt.cells, Pt.slots] at X376 l376 y376 z376 st376 hQ376
  subst l376 y376 z376
  obtain ⟨rfl, N376q, e376⟩ := hQ376
  have N376 := Fr.app N295 N376q
  have pre377 : ∀ tg, AT p e below T376 m 61 #[iv p0, iv p1, iv p2, rv b1, rv b76, un, un, un, un, un, un] [(.int (f9 p1))] tg → Steps p.tables e below S0 tg := fun tg kg => pre296 tg (by
   refine XS.ifNo X295.here hx rfl (hb hby at_54) rfl (XT.i0_eq_f hc297) ?_
   show AT p e below T295 m 57 #[iv p0, iv p1, iv p2, rv b1, rv b76, un, un, un, un, un, un] [] _
   refine XS.iloadN X295.here hx rfl (hb hby at_57) rfl ?_
   refine st376 _ ?_
   exact kg)
  rcases Decidable.em ((f9 p1) = (0 : Int32)) with hc378 | hc378
  ·
   obtain ⟨cq379, kq379, q379a, q379b, q379c⟩ := isOf hZ e376 E259_260
   obtain ⟨_, _, ⟨T379, L379, k379, n379⟩, -, X379, ⟨Lc379, hQ379, l379, y379, z379⟩, st379⟩ := X376.virtualBack hx (y := y10) (z := y10) hown (mvT hZ (ow hw 50 rfl)) (mvT hZ (ow hw 51 rfl)) (notFace_of_selects (args := #[]) (mvT hZ (ow hw 53 rfl))) (mvT hZ (ow hw 53 rfl)) (mvT hZ (ow hw 52 rfl)) (by decide) (backOf (W := 0) (rm10 l Z ar hw [] b1 b76 w_CS0 w_SF1 t_5 b_5 kb_5 (nar .byte ((ch p0 (0 : Int32)).toInt8.toInt32)) (nar .byte ((ch p0 ((0 : Int32) + (8 : Int32))).toInt8.toInt32)) t_106 b_106 kb_106 (nar .byte ((ch p0 (16 : Int32)).toInt8.toInt32)) (nar .byte ((ch p0 ((16 : Int32) + (8 : Int32))).toInt8.toInt32)) t_14 b_14 kb_14 (nar .byte ((ch p1 (0 : Int32)).toInt8.toInt32)) (nar .byte ((ch p1 ((0 : Int32) + (8 : Int32))).toInt8.toInt32)) t_148 b_148 kb_148 (nar .byte ((ch p1 (16 : Int32)).toInt8.toInt32)) (nar .byte ((ch p1 ((16 : Int32) + (8 : Int32))).toInt8.toInt32)) t_32 b_32 kb_32 (nar .byte ((ch p2 (0 : Int32)).toInt8.toInt32)) (nar .byte ((ch p2 ((0 : Int32) + (8 : Int32))).toInt8.toInt32)) t_199 b_199 kb_199 (nar .byte ((ch p2 (16 : Int32)).toInt8.toInt32)) (nar .byte ((ch p2 ((16 : Int32) + (8 : Int32))).toInt8.toInt32)) T259.heap n0 O259 HW E259_260 E259_279 F259_276 E259_261 F259_262 F259_263 V259_264 u259_1 E259_280 F259_281 F259_282 V259_283 ne132 F259_277 E259_266 F259_267 F259_268 V259_269 u259_2 E259_285 F259_286 F259_287 V259_288 ne181 F259_278 E259_271 F259_272 F259_273 V259_274 u259_3 E259_290 F259_291 F259_292 V259_293 ne239) hZ (ow hw 54 rfl) (ow hw 2 rfl) (by decide) (by decide)) q379a q379c (g := (mkF m 81 #[iv p0, iv p1, iv p2, rv b1, rv b76, iv (0 : Int32), un, un, un, un, un] [(.ref b76), (.ref b1)])) rfl (by rw [hml]; rfl) (Steps.refl _) (argsL := [(.ref b76)]) (rest := []) (lenOf pd_6 rfl) rfl (by show 2 * 0 + _ ≤ _; exact Nat.le_of_eq rfl) (hb hby at_81) (fun _ _ => ⟨rfl, e376, (by decide : 20 + 0 ≤ _), (by decide : 54 + 0 ≤ _)⟩)
   dsimp only [Pt.U, Pt.locs, Pt.cells, Pt.slots] at X379 l379 y379 z379 st379 hQ379
   subst l379 y379 z379
   obtain ⟨rfl, N379q, e379⟩ := hQ379
   have N379 := Fr.app N376 N379q
   clear F1_2 F1_3 F1_4 E5_6 F5_7 F5_8 F5_9 E14_15 F14_16 F14_17 F14_18 E14_19 F14_20 F14_21 V14_22 E14_23 E32_33 E32_37 F32_38 F32_39 V32_40 E32_41 E32_42 F32_43 F32_44 V32_45 E32_46 E59_60 E59_61 F59_62 F59_63 V59_64 E59_65 E59_66 F59_67 F59_68 V59_69 E59_70 E59_71 F59_72 F59_73 V59_74 E59_75 E76_84 E76_85 F76_86 F76_87 V76_88 E76_89 E76_90 F76_91 F76_92 V76_93 E76_94 E76_95 F76_96 F76_97 V76_98 E76_99 F76_100 F76_101 F76_102 F76_103 F76_104 F76_105 E106_107 E106_108 F106_109 F106_110 V106_111 E106_112 E106_113 F106_114 F106_115 V106_116 E106_117 E106_118 F106_119 F106_120 V106_121 E106_122 F106_123 F106_124 F106_125 E106_126 F106_127 F106_128 F106_129 E148_149 E148_150 F148_151 F148_152 V148_153 E148_154 E148_155 F148_156 F148_157 V148_158 E148_159 E148_160 F148_161 F148_162 V148_163 E148_164 F148_165 F148_166 F148_167 E148_168 F148_169 F148_170 F148_171 E148_172 F148_173 F148_174 V148_175 E148_176 E199_200 E199_201 F199_202 F199_203 V199_204 E199_205 E199_206 F199_207 F199_208 V199_209 E199_210 E199_211 F199_212 F199_213 V199_214 E199_215 F199_216 F199_217 F199_218 E199_219 E199_223 F199_224 F199_225 V199_226 E199_227 E199_228 F199_229 F199_230 V199_231 E199_232
   have pre380 : ∀ tg, AT p e below T379 m 84 #[iv p0, iv p1, iv p2, rv b1, rv b76, iv (0 : Int32), un, un, un, un, un] [(.int (f10 (nar .byte ((ch p0 (0 : Int32)).toInt8.toInt32)) (nar .byte ((ch p0 ((0 : Int32) + (8 : Int32))).toInt8.toInt32)) (nar .byte ((ch p0 (16 : Int32)).toInt8.toInt32)) (nar .byte ((ch p0 ((16 : Int32) + (8 : Int32))).toInt8.toInt32)) (nar .byte ((ch p1 (0 : Int32)).toInt8.toInt32)) (nar .byte ((ch p1 ((0 : Int32) + (8 : Int32))).toInt8.toInt32)) (nar .byte ((ch p1 (16 : Int32)).toInt8.toInt32)) (nar .byte ((ch p1 ((16 : Int32) + (8 : Int32))).toInt8.toInt32)) (nar .byte ((ch p2 (0 : Int32)).toInt8.toInt32)) (nar .byte ((ch p2 ((0 : Int32) + (8 : Int32))).toInt8.toInt32)) (nar .byte ((ch p2 (16 : Int32)).toInt8.toInt32)) (nar .byte ((ch p2 ((16 : Int32) + (8 : Int32))).toInt8.toInt32))))] tg → Steps p.tables e below S0 tg := fun tg kg => pre377 tg (by
    refine XS.ifYes X376.here hx rfl (pc0 := 61) (pc' := 75) rfl (hb hby at_61) rfl (XT.i0_eq_t hc378) (by decide) (by decide) ?_
    refine XS.iconst X376.here hx rfl (hb hby at_75) ?_
    refine XS.istore X376.here hx rfl (hb hby at_76) rfl (l' := #[iv p0, iv p1, iv p2, rv b1, rv b76, iv (0 : Int32), un, un, un, un, un]) rfl ?_
    show AT p e below T376 m 78 #[iv p0, iv p1, iv p2, rv b1, rv b76, iv (0 : Int32), un, un, un, un, un] [] _
    refine XS.aloadN X376.here hx rfl (hb hby at_78) rfl rfl ?_
    refine XS.aload X376.here hx rfl (hb hby at_79) rfl rfl ?_
    refine st379.trans ?_
    exact kg)
   have hw381 : (f10 (nar .byte ((ch p0 (0 : Int32)).toInt8.toInt32)) (nar .byte ((ch p0 ((0 : Int32) + (8 : Int32))).toInt8.toInt32)) (nar .byte ((ch p0 (16 : Int32)).toInt8.toInt32)) (nar .byte ((ch p0 ((16 : Int32) + (8 : Int32))).toInt8.toInt32)) (nar .byte ((ch p1 (0 : Int32)).toInt8.toInt32)) (nar .byte ((ch p1 ((0 : Int32) + (8 : Int32))).toInt8.toInt32)) (nar .byte ((ch p1 (16 : Int32)).toInt8.toInt32)) (nar .byte ((ch p1 ((16 : Int32) + (8 : Int32))).toInt8.toInt32)) (nar .byte ((ch p2 (0 : Int32)).toInt8.toInt32)) (nar .byte ((ch p2 ((0 : Int32) + (8 : Int32))).toInt8.toInt32)) (nar .byte ((ch p2 (16 : Int32)).toInt8.toInt32)) (nar .byte ((ch p2 ((16 : Int32) + (8 : Int32))).toInt8.toInt32))) = (0 : Int32) := by rw [own_ab]; unfold ref3; simp [hc297, hc378]
   have pre381 : ∀ tg, AT p e below T379 m 84 #[iv p0, iv p1, iv p2, rv b1, rv b76, iv (0 : Int32), un, un, un, un, un] [(.int (0 : Int32))] tg → Steps p.tables e below S0 tg := by
     have q := pre380
     rw [hw381] at q
     exact q
   obtain ⟨cq382, kq382, q382a, q382b, q382c⟩ := isOf hZ e379 E259_279
   obtain ⟨_, _, ⟨T382, L382, k382, n382⟩, -, X382, ⟨Lc382, hQ382, l382, y382, z382⟩, st382⟩ := X379.virtualBack hx (y := y10) (z := y10) hown (mvT hZ (ow hw 50 rfl)) (mvT hZ (ow hw 51 rfl)) (notFace_of_selects (args := #[]) (mvT hZ (ow hw 53 rfl))) (mvT hZ (ow hw 53 rfl)) (mvT hZ (ow hw 52 rfl)) (by decide) (backOf (W := 0) (rm10 l Z ar hw [] b76 b1 w_CS0 w_SF1 t_106 b_106 kb_106 (nar .byte ((ch p0 (16 : Int32)).toInt8.toInt32)) (nar .byte ((ch p0 ((16 : Int32) + (8 : Int32))).toInt8.toInt32)) t_5 b_5 kb_5 (nar .byte ((ch p0 (0 : Int32)).toInt8.toInt32)) (nar .byte ((ch p0 ((0 : Int32) + (8 : Int32))).toInt8.toInt32)) t_148 b_148 kb_148 (nar .byte ((ch p1 (16 : Int32)).toInt8.toInt32)) (nar .byte ((ch p1 ((16 : Int32) + (8 : Int32))).toInt8.toInt32)) t_14 b_14 kb_14 (nar .byte ((ch p1 (0 : Int32)).toInt8.toInt32)) (nar .byte ((ch p1 ((0 : Int32) + (8 : Int32))).toInt8.toInt32)) t_199 b_199 kb_199 (nar .byte ((ch p2 (16 : Int32)).toInt8.toInt32)) (nar .byte ((ch p2 ((16 : Int32) + (8 : Int32))).toInt8.toInt32)) t_32 b_32 kb_32 (nar .byte ((ch p2 (0 : Int32)).toInt8.toInt32)) (nar .byte ((ch p2 ((0 : Int32) + (8 : Int32))).toInt8.toInt32)) T259.heap n0 O259 HW E259_279 E259_260 u259_1 E259_280 F259_281 F259_282 V259_283 F259_276 E259_261 F259_262 F259_263 V259_264 (Ne.symm ne132) u259_2 E259_285 F259_286 F259_287 V259_288 F259_277 E259_266 F259_267 F259_268 V259_269 (Ne.symm ne181) u259_3 E259_290 F259_291 F259_292 V259_293 F259_278 E259_271 F259_272 F259_273 V259_274 (Ne.symm ne239)) hZ (ow hw 54 rfl) (ow hw 2 rfl) (by decide) (by decide)) q382a q382c (g := (mkF m 89 #[iv p0, iv p1, iv p2, rv b1, rv b76, iv (0 : Int32), iv (0 : Int32), un, un, un, un] [(.ref b1), (.ref b76)])) rfl (by rw [hml]; rfl) (Steps.refl _) (argsL := [(.ref b1)]) (rest := []) (lenOf pd_6 rfl) rfl (by show 2 * 0 + _ ≤ _; exact Nat.le_of_eq rfl) (hb hby at_89) (fun _ _ => ⟨rfl, e379, (by decide : 20 + 0 ≤ _), (by decide : 54 + 0 ≤ _)⟩)
   dsimp only [Pt.U, Pt.locs, Pt.cells, Pt.slots] at X382 l382 y382 z382 st382 hQ382
   subst l382 y382 z382
   obtain ⟨rfl, N382q, e382⟩ := hQ382
   have N382 := Fr.app N379 N382q
   have pre383 : ∀ tg, AT p e below T382 m 92 #[iv p0, iv p1, iv p2, rv b1, rv b76, iv (0 : Int32), iv (0 : Int32), un, un, un, un] [(.int (f10 (nar .byte ((ch p0 (16 : Int32)).toInt8.toInt32)) (nar .byte ((ch p0 ((16 : Int32) + (8 : Int32))).toInt8.toInt32)) (nar .byte ((ch p0 (0 : Int32)).toInt8.toInt32)) (nar .byte ((ch p0 ((0 : Int32) + (8 : Int32))).toInt8.toInt32)) (nar .byte ((ch p1 (16 : Int32)).toInt8.toInt32)) (nar .byte ((ch p1 ((16 : Int32) + (8 : Int32))).toInt8.toInt32)) (nar .byte ((ch p1 (0 : Int32)).toInt8.toInt32)) (nar .byte ((ch p1 ((0 : Int32) + (8 : Int32))).toInt8.toInt32)) (nar .byte ((ch p2 (16 : Int32)).toInt8.toInt32)) (nar .byte ((ch p2 ((16 : Int32) + (8 : Int32))).toInt8.toInt32)) (nar .byte ((ch p2 (0 : Int32)).toInt8.toInt32)) (nar .byte ((ch p2 ((0 : Int32) + (8 : Int32))).toInt8.toInt32))))] tg → Steps p.tables e below S0 tg := fun tg kg => pre381 tg (by
    refine XS.istore X379.here hx rfl (hb hby at_84) rfl (l' := #[iv p0, iv p1, iv p2, rv b1, rv b76, iv (0 : Int32), iv (0 : Int32), un, un, un, un]) rfl ?_
    refine XS.aload X379.here hx rfl (hb hby at_86) rfl rfl ?_
    refine XS.aloadN X379.here hx rfl (hb hby at_88) rfl rfl ?_
    refine st382.trans ?_
    exact kg)
   have hw384 : (f10 (nar .byte ((ch p0 (16 : Int32)).toInt8.toInt32)) (nar .byte ((ch p0 ((16 : Int32) + (8 : Int32))).toInt8.toInt32)) (nar .byte ((ch p0 (0 : Int32)).toInt8.toInt32)) (nar .byte ((ch p0 ((0 : Int32) + (8 : Int32))).toInt8.toInt32)) (nar .byte ((ch p1 (16 : Int32)).toInt8.toInt32)) (nar .byte ((ch p1 ((16 : Int32) + (8 : Int32))).toInt8.toInt32)) (nar .byte ((ch p1 (0 : Int32)).toInt8.toInt32)) (nar .byte ((ch p1 ((0 : Int32) + (8 : Int32))).toInt8.toInt32)) (nar .byte ((ch p2 (16 : Int32)).toInt8.toInt32)) (nar .byte ((ch p2 ((16 : Int32) + (8 : Int32))).toInt8.toInt32)) (nar .byte ((ch p2 (0 : Int32)).toInt8.toInt32)) (nar .byte ((ch p2 ((0 : Int32) + (8 : Int32))).toInt8.toInt32))) = (0 : Int32) := by rw [own_ba]; unfold ref3; simp [hc297, hc378]
   have pre384 : ∀ tg, AT p e below T382 m 92 #[iv p0, iv p1, iv p2, rv b1, rv b76, iv (0 : Int32), iv (0 : Int32), un, un, un, un] [(.int (0 : Int32))] tg → Steps p.tables e below S0 tg := by
     have q := pre383
     rw [hw384] at q
     exact q
   obtain ⟨cq385, kq385, q385a, q385b, q385c⟩ := isOf hZ e382 E259_260
   obtain ⟨_, _, ⟨T385, L385, k385, n385⟩, -, X385, ⟨Lc385, hQ385, l385, y385, z385⟩, st385⟩ := X382.virtualBack hx (y := y10) (z := y10) hown (mvT hZ (ow hw 50 rfl)) (mvT hZ (ow hw 51 rfl)) (notFace_of_selects (args := #[]) (mvT hZ (ow hw 53 rfl))) (mvT hZ (ow hw 53 rfl)) (mvT hZ (ow hw 52 rfl)) (by decide) (backOf (W := 0) (rm10s l Z ar hw [] b1 t_5 t_14 t_32 T259.heap n0 O259 E259_260 F259_276 E259_261 F259_277 E259_266 F259_278 E259_271) hZ (ow hw 54 rfl) (ow hw 2 rfl) (by decide) (by decide)) q385a q385c (g := (mkF m 96 #[iv p0, iv p1, iv p2, rv b1, rv b76, iv (0 : Int32), iv (0 : Int32), iv (0 : Int32), un, un, un] [(.ref b1), (.ref b1)])) rfl (by rw [hml]; rfl) (Steps.refl _) (argsL := [(.ref b1)]) (rest := []) (lenOf pd_6 rfl) rfl (by show 2 * 0 + _ ≤ _; exact Nat.le_of_eq rfl) (hb hby at_96) (fun _ _ => ⟨rfl, e382, (by decide : 20 + 0 ≤ _), (by decide : 54 + 0 ≤ _)⟩)
   dsimp only [Pt.U, Pt.locs, Pt.cells, Pt.slots] at X385 l385 y385 z385 st385 hQ385
   subst l385 y385 z385
   obtain ⟨rfl, N385q, e385⟩ := hQ385
   have N385 := Fr.app N382 N385q
   obtain ⟨cq386, kq386, q386a, q386b, q386c⟩ := isOf hZ e385 E259_260
   obtain ⟨_, _, ⟨T386, L386, k386, n386⟩, -, X386, ⟨Lc386, hQ386, l386, y386, z386⟩, st386⟩ := X385.virtualBack hx (y := y10) (z := y10) hown (mvT hZ (ow hw 50 rfl)) (mvT hZ (ow hw 51 rfl)) (notFace_of_selects (args := #[]) (mvT hZ (ow hw 53 rfl))) (mvT hZ (ow hw 53 rfl)) (mvT hZ (ow hw 52 rfl)) (by decide) (backOf (W := 0) (rm10n l Z ar hw [] b1 T259.heap n0 O259 E259_260) hZ (ow hw 54 rfl) (ow hw 2 rfl) (by decide) (by decide)) q386a q386c (g := (mkF m 103 #[iv p0, iv p1, iv p2, rv b1, rv b76, iv (0 : Int32), iv (0 : Int32), iv (0 : Int32), iv (1 : Int32), un, un] [.null, (.ref b1)])) rfl (by rw [hml]; rfl) (Steps.refl _) (argsL := [.null]) (rest := []) (lenOf pd_6 rfl) rfl (by show 2 * 0 + _ ≤ _; exact Nat.le_of_eq rfl) (hb hby at_103) (fun _ _ => ⟨rfl, e385, (by decide : 20 + 0 ≤ _), (by decide : 54 + 0 ≤ _)⟩)
   dsimp only [Pt.U, Pt.locs, Pt.cells, Pt.slots] at X386 l386 y386 z386 st386 hQ386
   subst l386 y386 z386
   obtain ⟨rfl, N386q, e386⟩ := hQ386
   have N386 := Fr.app N385 N386q
   obtain ⟨_, _, ⟨T387, L387, k387, n387⟩, -, X387, ⟨Lc387, hQ387, l387, y387, z387⟩, st387⟩ := Jvm.LawKit.callS X386 hx (y := y1) hown (mvT hZ (ow hw 3 rfl)) (mvT hZ (ow hw 4 rfl)) (mvT hZ (ow hw 5 rfl)) (mvT hZ (ow hw 6 rfl)) (by decide) (backOf (W := 1) (rm1 l Z ar hw [] p0 (0 : Int32) w_CS0 w_SF1 T259.heap n0 O259 HW) hZ (ow hw 6 rfl) (ow hw 5 rfl) (by decide) (by decide)) (g := (mkF m 111 #[iv p0, iv p1, iv p2, rv b1, rv b76, iv (0 : Int32), iv (0 : Int32), iv (0 : Int32), iv (1 : Int32), iv (0 : Int32), un] [(.int (0 : Int32)), (.int p0), (.ref b1)])) rfl (by rw [hml]; rfl) (argsL := [(.int p0), (.int (0 : Int32))]) (rest := [(.ref b1)]) (lenOf pd_7 rfl) rfl (by show 2 * 0 + _ ≤ _; exact Nat.le_of_eq rfl) (hb hby at_111) (fun _ _ => ⟨rfl, e386, (by decide : 20 + 3 ≤ _), (by decide : 54 + 8 ≤ _)⟩)
   dsimp only [Pt.U, Pt.locs, Pt.cells, Pt.slots] at X387 l387 y387 z387 st387 hQ387
   subst l387 y387 z387
   obtain ⟨t_387, b_387, kb_387, rfl, N387q, Kq387, u387_0, u387_1, u387_2, u387_3, u387_4, u387_5, u387_6, u387_7⟩ := hQ387
   have N387 := Fr.app N386 N387q
   have E387_388 := E259_260.keep Kq387
   have E387_389 := E259_261.keep Kq387
   have F387_390 := F259_262.keep Kq387 nin0
   have F387_391 := F259_263.keep Kq387 nin0
   have V387_392 := V259_264.keep Kq387 nin0
   have E387_393 := E259_265.keep Kq387
   have E387_394 := E259_266.keep Kq387
   have F387_395 := F259_267.keep Kq387 nin0
   have F387_396 := F259_268.keep Kq387 nin0
   have V387_397 := V259_269.keep Kq387 nin0
   have E387_398 := E259_270.keep Kq387
   have E387_399 := E259_271.keep Kq387
   have F387_400 := F259_272.keep Kq387 nin0
   have F387_401 := F259_273.keep Kq387 nin0
   have V387_402 := V259_274.keep Kq387 nin0
   have E387_403 := E259_275.keep Kq387
   have F387_404 := F259_276.keep Kq387 nin0
   have F387_405 := F259_277.keep Kq387 nin0
   have F387_406 := F259_278.keep Kq387 nin0
   have E387_407 := E259_279.keep Kq387
   have E387_408 := E259_280.keep Kq387
   have F387_409 := F259_281.keep Kq387 nin0
   have F387_410 := F259_282.keep Kq387 nin0
   have V387_411 := V259_283.keep Kq387 nin0
   have E387_412 := E259_284.keep Kq387
   have E387_413 := E259_285.keep Kq387
   have F387_414 := F259_286.keep Kq387 nin0
   have F387_415 := F259_287.keep Kq387 nin0
   have V387_416 := V259_288.keep Kq387 nin0
   have E387_417 := E259_289.keep Kq387
   have E387_418 := E259_290.keep Kq387
   have F387_419 := F259_291.keep Kq387 nin0
   have F387_420 := F259_292.keep Kq387 nin0
   have V387_421 := V259_293.keep Kq387 nin0
   have E387_422 := E259_294.keep Kq387
   have F387_423 := u259_1.keep Kq387 nin0
   have F387_424 := u259_2.keep Kq387 nin0
   have F387_425 := u259_3.keep Kq387 nin0
   have K387 := K259.trans Kq387 all0
   have O387 := O259.keep Kq387 all0
   have sz426 : h0.size ≤ t_387 := Nat.le_trans K259.1 u387_5
   have gn426 : n0 ≤ t_387 := Nat.le_trans (Nat.le_trans (Nat.le_of_eq O259.1.symm) O259.2.1) u387_5
   have ne427 : b1 ≠ t_387 := Nat.ne_of_lt (Nat.lt_of_lt_of_le (E259_260).lt u387_5)
   have ne428 : t_5 ≠ t_387 := Nat.ne_of_lt (Nat.lt_of_lt_of_le (E259_261).lt u387_5)
   have ne429 : b_5 ≠ t_387 := Nat.ne_of_lt (Nat.lt_of_lt_of_le (V259_264).lt u387_5)
   have ne430 : t_14 ≠ t_387 := Nat.ne_of_lt (Nat.lt_of_lt_of_le (E259_266).lt u387_5)
   have ne431 : b_14 ≠ t_387 := Nat.ne_of_lt (Nat.lt_of_lt_of_le (V259_269).lt u387_5)
   have ne432 : t_32 ≠ t_387 := Nat.ne_of_lt (Nat.lt_of_lt_of_le (E259_271).lt u387_5)
   have ne433 : b_32 ≠ t_387 := Nat.ne_of_lt (Nat.lt_of_lt_of_le (V259_274).lt u387_5)
   have ne434 : b76 ≠ t_387 := Nat.ne_of_lt (Nat.lt_of_lt_of_le (E259_279).lt u387_5)
   have ne435 : t_106 ≠ t_387 := Nat.ne_of_lt (Nat.lt_of_lt_of_le (E259_280).lt u387_5)
   have ne436 : b_106 ≠ t_387 := Nat.ne_of_lt (Nat.lt_of_lt_of_le (V259_283).lt u387_5)
   have ne437 : t_148 ≠ t_387 := Nat.ne_of_lt (Nat.lt_of_lt_of_le (E259_285).lt u387_5)
   have ne438 : b_148 ≠ t_387 := Nat.ne_of_lt (Nat.lt_of_lt_of_le (V259_288).lt u387_5)
   have ne439 : t_199 ≠ t_387 := Nat.ne_of_lt (Nat.lt_of_lt_of_le (E259_290).lt u387_5)
   have ne440 : b_199 ≠ t_387 := Nat.ne_of_lt (Nat.lt_of_lt_of_le (V259_293).lt u387_5)
   have sz441 : h0.size ≤ b_387 := Nat.le_trans K259.1 u387_6
   have gn441 : n0 ≤ b_387 := Nat.le_trans (Nat.le_trans (Nat.le_of_eq O259.1.symm) O259.2.1) u387_6
   have ne442 : b1 ≠ b_387 := Nat.ne_of_lt (Nat.lt_of_lt_of_le (E259_260).lt u387_6)
   have ne443 : t_5 ≠ b_387 := Nat.ne_of_lt (Nat.lt_of_lt_of_le (E259_261).lt u387_6)
   have ne444 : b_5 ≠ b_387 := Nat.ne_of_lt (Nat.lt_of_lt_of_le (V259_264).lt u387_6)
   have ne445 : t_14 ≠ b_387 := Nat.ne_of_lt (Nat.lt_of_lt_of_le (E259_266).lt u387_6)
   have ne446 : b_14 ≠ b_387 := Nat.ne_of_lt (Nat.lt_of_lt_of_le (V259_269).lt u387_6)
   have ne447 : t_32 ≠ b_387 := Nat.ne_of_lt (Nat.lt_of_lt_of_le (E259_271).lt u387_6)
   have ne448 : b_32 ≠ b_387 := Nat.ne_of_lt (Nat.lt_of_lt_of_le (V259_274).lt u387_6)
   have ne449 : b76 ≠ b_387 := Nat.ne_of_lt (Nat.lt_of_lt_of_le (E259_279).lt u387_6)
   have ne450 : t_106 ≠ b_387 := Nat.ne_of_lt (Nat.lt_of_lt_of_le (E259_280).lt u387_6)
   have ne451 : b_106 ≠ b_387 := Nat.ne_of_lt (Nat.lt_of_lt_of_le (V259_283).lt u387_6)
   have ne452 : t_148 ≠ b_387 := Nat.ne_of_lt (Nat.lt_of_lt_of_le (E259_285).lt u387_6)
   have ne453 : b_148 ≠ b_387 := Nat.ne_of_lt (Nat.lt_of_lt_of_le (V259_288).lt u387_6)
   have ne454 : t_199 ≠ b_387 := Nat.ne_of_lt (Nat.lt_of_lt_of_le (E259_290).lt u387_6)
   have ne455 : b_199 ≠ b_387 := Nat.ne_of_lt (Nat.lt_of_lt_of_le (V259_293).lt u387_6)
   obtain ⟨cq456, kq456, q456a, q456b, q456c⟩ := isOf hZ rfl E387_388
   obtain ⟨_, _, ⟨T456, L456, k456, n456⟩, -, X456, ⟨Lc456, hQ456, l456, y456, z456⟩, st456⟩ := X387.virtualBack hx (y := y10) (z := y10) hown (mvT hZ (ow hw 50 rfl)) (mvT hZ (ow hw 51 rfl)) (notFace_of_selects (args := #[]) (mvT hZ (ow hw 53 rfl))) (mvT hZ (ow hw 53 rfl)) (mvT hZ (ow hw 52 rfl)) (by decide) (backOf (W := 0) (rm10t l Z ar hw [] b1 t_387 T387.heap n0 O387 E387_388 u387_0) hZ (ow hw 54 rfl) (ow hw 2 rfl) (by decide) (by decide)) q456a q456c (g := (mkF m 114 #[iv p0, iv p1, iv p2, rv b1, rv b76, iv (0 : Int32), iv (0 : Int32), iv (0 : Int32), iv (1 : Int32), iv (0 : Int32), un] [(.ref t_387), (.ref b1)])) rfl (by rw [hml]; rfl) (Steps.refl _) (argsL := [(.ref t_387)]) (rest := []) (lenOf pd_6 rfl) rfl (by show 2 * 0 + _ ≤ _; exact Nat.le_of_eq rfl) (hb hby at_114) (fun _ _ => ⟨rfl, rfl, (by decide : 23 + 0 ≤ _), (by decide : 62 + 0 ≤ _)⟩)
   dsimp only [Pt.U, Pt.locs, Pt.cells, Pt.slots] at X456 l456 y456 z456 st456 hQ456
   subst l456 y456 z456
   obtain ⟨rfl, N456q, e456⟩ := hQ456
   have N456 := Fr.app N387 N456q
   clear E259_260 E259_261 F259_262 F259_263 V259_264 E259_265 E259_266 F259_267 F259_268 V259_269 E259_270 E259_271 F259_272 F259_273 V259_274 E259_275 F259_276 F259_277 F259_278 E259_279 E259_280 F259_281 F259_282 V259_283 E259_284 E259_285 F259_286 F259_287 V259_288 E259_289 E259_290 F259_291 F259_292 V259_293 E259_294
   obtain ⟨fs, hr, hrun, hended, hW, hsame⟩ := X456.leave (v := some (.int (1 : Int32))) (fun h => by rw [Bd.returns] at h; cases h) hlk
   subst hS0
   refine ⟨_, _, pre384 _ ?_, hrun, hended, _, _, rfl, ?_, ⟨_, rfl⟩, hW, hsame.mono (by decide) (by decide)⟩
   ·
    refine XS.istore X382.here hx rfl (hb hby at_92) rfl (l' := #[iv p0, iv p1, iv p2, rv b1, rv b76, iv (0 : Int32), iv (0 : Int32), iv (0 : Int32), un, un, un]) rfl ?_
    refine XS.aloadN X382.here hx rfl (hb hby at_94) rfl rfl ?_
    refine XS.aloadN X382.here hx rfl (hb hby at_95) rfl rfl ?_
    refine st385.trans ?_
    show AT p e below T385 m 99 #[iv p0, iv p1, iv p2, rv b1, rv b76, iv (0 : Int32), iv (0 : Int32), iv (0 : Int32), un, un, un] [(.int (1 : Int32))] _
    refine XS.istore X385.here hx rfl (hb hby at_99) rfl (l' := #[iv p0, iv p1, iv p2, rv b1, rv b76, iv (0 : Int32), iv (0 : Int32), iv (0 : Int32), iv (1 : Int32), un, un]) rfl ?_
    refine XS.aloadN X385.here hx rfl (hb hby at_101) rfl rfl ?_
    refine XS.aconstNull X385.here hx rfl (hb hby at_102) ?_
    refine st386.trans ?_
    show AT p e below T386 m 106 #[iv p0, iv p1, iv p2, rv b1, rv b76, iv (0 : Int32), iv (0 : Int32), iv (0 : Int32), iv (1 : Int32), un, un] [(.int (0 : Int32))] _
    refine XS.istore X386.here hx rfl (hb hby at_106) rfl (l' := #[iv p0, iv p1, iv p2, rv b1, rv b76, iv (0 : Int32), iv (0 : Int32), iv (0 : Int32), iv (1 : Int32), iv (0 : Int32), un]) rfl ?_
    refine XS.aloadN X386.here hx rfl (hb hby at_108) rfl rfl ?_
    refine XS.iloadN X386.here hx rfl (hb hby at_109) rfl ?_
    refine XS.iconst X386.here hx rfl (hb hby at_110) ?_
    show AT p e below T386 m 111 #[iv p0, iv p1, iv p2, rv b1, rv b76, iv (0 : Int32), iv (0 : Int32), iv (0 : Int32), iv (1 : Int32), iv (0 : Int32), un] [(.int (0 : Int32)), (.int p0), (.ref b1)] _
    refine st387 _ ?_
    refine st456.trans ?_
    refine XS.istore X456.here hx rfl (hb hby at_117) rfl (l' := #[iv p0, iv p1, iv p2, rv b1, rv b76, iv (0 : Int32), iv (0 : Int32), iv (0 : Int32), iv (1 : Int32), iv (0 : Int32), iv (0 : Int32)]) rfl ?_
    refine XS.iload X456.here hx rfl (hb hby at_119) rfl ?_
    show AT p e below T456 m 121 #[iv p0, iv p1, iv p2, rv b1, rv b76, iv (0 : Int32), iv (0 : Int32), iv (0 : Int32), iv (1 : Int32), iv (0 : Int32), iv (0 : Int32)] [(.int (0 : Int32))] _
    refine XS.iload X456.here hx rfl (hb hby at_121) rfl ?_
    show AT p e below T456 m 123 #[iv p0, iv p1, iv p2, rv b1, rv b76, iv (0 : Int32), iv (0 : Int32), iv (0 : Int32), iv (1 : Int32), iv (0 : Int32), iv (0 : Int32)] [(.int (0 : Int32)), (.int (0 : Int32))] _
    refine XS.icmpNo X456.here hx rfl (hb hby at_123) rfl (XT.ii_ne_f ((by decide) : (0 : Int32) = (0 : Int32))) ?_
    refine XS.iload X456.here hx rfl (hb hby at_126) rfl ?_
    refine XS.iload X456.here hx rfl (hb hby at_128) rfl ?_
    show AT p e below T456 m 130 #[iv p0, iv p1, iv p2, rv b1, rv b76, iv (0 : Int32), iv (0 : Int32), iv (0 : Int32), iv (1 : Int32), iv (0 : Int32), iv (0 : Int32)] [(.int (0 : Int32)), (.int (0 : Int32))] _
    refine XS.icmpNo X456.here hx rfl (hb hby at_130) rfl (XT.ii_ne_f ((by decide) : (0 : Int32) = (0 : Int32))) ?_
    refine XS.iload X456.here hx rfl (hb hby at_133) rfl ?_
    show AT p e below T456 m 135 #[iv p0, iv p1, iv p2, rv b1, rv b76, iv (0 : Int32), iv (0 : Int32), iv (0 : Int32), iv (1 : Int32), iv (0 : Int32), iv (0 : Int32)] [(.int (1 : Int32))] _
    refine XS.ifNo X456.here hx rfl (hb hby at_135) rfl (XT.i0_eq_f ((by decide) : ¬ ((1 : Int32) = (0 : Int32)))) ?_
    show AT p e below T456 m 138 #[iv p0, iv p1, iv p2, rv b1, rv b76, iv (0 : Int32), iv (0 : Int32), iv (0 : Int32), iv (1 : Int32), iv (0 : Int32), iv (0 : Int32)] [] _
    refine XS.iload X456.here hx rfl (hb hby at_138) rfl ?_
    show AT p e below T456 m 140 #[iv p0, iv p1, iv p2, rv b1, rv b76, iv (0 : Int32), iv (0 : Int32), iv (0 : Int32), iv (1 : Int32), iv (0 : Int32), iv (0 : Int32)] [(.int (0 : Int32))] _
    refine XS.ifNo X456.here hx rfl (hb hby at_140) rfl (XT.i0_ne_f ((by decide) : (0 : Int32) = (0 : Int32))) ?_
    refine XS.iload X456.here hx rfl (hb hby at_143) rfl ?_
    show AT p e below T456 m 145 #[iv p0, iv p1, iv p2, rv b1, rv b76, iv (0 : Int32), iv (0 : Int32), iv (0 : Int32), iv (1 : Int32), iv (0 : Int32), iv (0 : Int32)] [(.int (0 : Int32))] _
    refine XS.ifNo X456.here hx rfl (hb hby at_145) rfl (XT.i0_ne_f ((by decide) : (0 : Int32) = (0 : Int32))) ?_
    refine XS.iconst X456.here hx rfl (hb hby at_148) ?_
    refine XS.goto X456.here hx rfl (pc0 := 149) (pc' := 153) rfl (hb hby at_149) (by decide) (by decide) ?_
    show AT p e below T456 m 153 #[iv p0, iv p1, iv p2, rv b1, rv b76, iv (0 : Int32), iv (0 : Int32), iv (0 : Int32), iv (1 : Int32), iv (0 : Int32), iv (0 : Int32)] [(.int (1 : Int32))] _
    exact retN X456 hx (t := .boolean) Bd.returns (by simp) (hb hby at_153) hr
   ·
    show Q0 Z p0 p1 p2 w_CS0 w_SF1 h0 n0 _ T456.heap _
    rw [e456]
    exact ⟨rfl, N456⟩
  ·
   obtain ⟨_, _, ⟨T457, L457, k457, n457⟩, -, X457, ⟨Lc457, hQ457, l457, y457, z457⟩, st457⟩ := Jvm.LawKit.callS X376 hx (y := y9) hown (mvT hZ (ow hw 47 rfl)) (mvT hZ (ow hw 48 rfl)) (mvT hZ (ow hw 5 rfl)) (mvT hZ (ow hw 49 rfl)) (by decide) (backOf (W := 0) (rm9 l Z ar hw [] p2 T259.heap n0 O259) hZ (ow hw 49 rfl) (ow hw 5 rfl) (by decide) (by decide)) (g := (mkF m 65 #[iv p0, iv p1, iv p2, rv b1, rv b76, un, un, un, un, un, un] [(.int p2)])) rfl (by rw [hml]; rfl) (argsL := [(.int p2)]) (rest := []) (lenOf pd_9 rfl) rfl (by show 2 * 0 + _ ≤ _; exact Nat.le_of_eq rfl) (hb hby at_65) (fun _ _ => ⟨rfl, e376, (by decide : 20 + 0 ≤ _), (by decide : 54 + 0 ≤ _)⟩)
   dsimp only [Pt.U, Pt.locs, Pt.cells, Pt.slots] at X457 l457 y457 z457 st457 hQ457
   subst l457 y457 z457
   obtain ⟨rfl, N457q, e457⟩ := hQ457
   have N457 := Fr.app N376 N457q
   have pre458 : ∀ tg, AT p e below T457 m 68 #[iv p0, iv p1, iv p2, rv b1, rv b76, un, un, un, un, un, un] [(.int (f9 p2))] tg → Steps p.tables e below S0 tg := fun tg kg => pre377 tg (by
    refine XS.ifNo X376.here hx rfl (hb hby at_61) rfl (XT.i0_eq_f hc378) ?_
    refine XS.iloadN X376.here hx rfl (hb hby at_64) rfl ?_
    refine st457 _ ?_
    exact kg)
   rcases Decidable.em ((f9 p2) = (0 : Int32)) with hc459 | hc459
   ·
    obtain ⟨cq460, kq460, q460a, q460b, q460c⟩ := isOf hZ e457 E259_260
    obtain ⟨_, _, ⟨T460, L460, k460, n460⟩, -, X460, ⟨Lc460, hQ460, l460, y460, z460⟩, st460⟩ := X457.virtualBack hx (y := y10) (z := y10) hown (mvT hZ (ow hw 50 rfl)) (mvT hZ (ow hw 51 rfl)) (notFace_of_selects (args := #[]) (mvT hZ (ow hw 53 rfl))) (mvT hZ (ow hw 53 rfl)) (mvT hZ (ow hw 52 rfl)) (by decide) (backOf (W := 0) (rm10 l Z ar hw [] b1 b76 w_CS0 w_SF1 t_5 b_5 kb_5 (nar .byte ((ch p0 (0 : Int32)).toInt8.toInt32)) (nar .byte ((ch p0 ((0 : Int32) + (8 : Int32))).toInt8.toInt32)) t_106 b_106 kb_106 (nar .byte ((ch p0 (16 : Int32)).toInt8.toInt32)) (nar .byte ((ch p0 ((16 : Int32) + (8 : Int32))).toInt8.toInt32)) t_14 b_14 kb_14 (nar .byte ((ch p1 (0 : Int32)).toInt8.toInt32)) (nar .byte ((ch p1 ((0 : Int32) + (8 : Int32))).toInt8.toInt32)) t_148 b_148 kb_148 (nar .byte ((ch p1 (16 : Int32)).toInt8.toInt32)) (nar .byte ((ch p1 ((16 : Int32) + (8 : Int32))).toInt8.toInt32)) t_32 b_32 kb_32 (nar .byte ((ch p2 (0 : Int32)).toInt8.toInt32)) (nar .byte ((ch p2 ((0 : Int32) + (8 : Int32))).toInt8.toInt32)) t_199 b_199 kb_199 (nar .byte ((ch p2 (16 : Int32)).toInt8.toInt32)) (nar .byte ((ch p2 ((16 : Int32) + (8 : Int32))).toInt8.toInt32)) T259.heap n0 O259 HW E259_260 E259_279 F259_276 E259_261 F259_262 F259_263 V259_264 u259_1 E259_280 F259_281 F259_282 V259_283 ne132 F259_277 E259_266 F259_267 F259_268 V259_269 u259_2 E259_285 F259_286 F259_287 V259_288 ne181 F259_278 E259_271 F259_272 F259_273 V259_274 u259_3 E259_290 F259_291 F259_292 V259_293 ne239) hZ (ow hw 54 rfl) (ow hw 2 rfl) (by decide) (by decide)) q460a q460c (g := (mkF m 81 #[iv p0, iv p1, iv p2, rv b1, rv b76, iv (0 : Int32), un, un, un, un, un] [(.ref b76), (.ref b1)])) rfl (by rw [hml]; rfl) (Steps.refl _) (argsL := [(.ref b76)]) (rest := []) (lenOf pd_6 rfl) rfl (by show 2 * 0 + _ ≤ _; exact Nat.le_of_eq rfl) (hb hby at_81) (fun _ _ => ⟨rfl, e457, (by decide : 20 + 0 ≤ _), (by decide : 54 + 0 ≤ _)⟩)
    dsimp only [Pt.U, Pt.locs, Pt.cells, Pt.slots] at X460 l460 y460 z460 st460 hQ460
    subst l460 y460 z460
    obtain ⟨rfl, N460q, e460⟩ := hQ460
    have N460 := Fr.app N457 N460q
    clear F1_2 F1_3 F1_4 E5_6 F5_7 F5_8 F5_9 E14_15 F14_16 F14_17 F14_18 E14_19 F14_20 F14_21 V14_22 E14_23 E32_33 E32_37 F32_38 F32_39 V32_40 E32_41 E32_42 F32_43 F32_44 V32_45 E32_46 E59_60 E59_61 F59_62 F59_63 V59_64 E59_65 E59_66 F59_67 F59_68 V59_69 E59_70 E59_71 F59_72 F59_73 V59_74 E59_75 E76_84 E76_85 F76_86 F76_87 V76_88 E76_89 E76_90 F76_91 F76_92 V76_93 E76_94 E76_95 F76_96 F76_97 V76_98 E76_99 F76_100 F76_101 F76_102 F76_103 F76_104 F76_105 E106_107 E106_108 F106_109 F106_110 V106_111 E106_112 E106_113 F106_114 F106_115 V106_116 E106_117 E106_118 F106_119 F106_120 V106_121 E106_122 F106_123 F106_124 F106_125 E106_126 F106_127 F106_128 F106_129 E148_149 E148_150 F148_151 F148_152 V148_153 E148_154 E148_155 F148_156 F148_157 V148_158 E148_159 E148_160 F148_161 F148_162 V148_163 E148_164 F148_165 F148_166 F148_167 E148_168 F148_169 F148_170 F148_171 E148_172 F148_173 F148_174 V148_175 E148_176 E199_200 E199_201 F199_202 F199_203 V199_204 E199_205 E199_206 F199_207 F199_208 V199_209 E199_210 E199_211 F199_212 F199_213 V199_214 E199_215 F199_216 F199_217 F199_218 E199_219 E199_223 F199_224 F199_225 V199_226 E199_227 E199_228 F199_229 F199_230 V199_231 E199_232
    have pre461 : ∀ tg, AT p e below T460 m 84 #[iv p0, iv p1, iv p2, rv b1, rv b76, iv (0 : Int32), un, un, un, un, un] [(.int (f10 (nar .byte ((ch p0 (0 : Int32)).toInt8.toInt32)) (nar .byte ((ch p0 ((0 : Int32) + (8 : Int32))).toInt8.toInt32)) (nar .byte ((ch p0 (16 : Int32)).toInt8.toInt32)) (nar .byte ((ch p0 ((16 : Int32) + (8 : Int32))).toInt8.toInt32)) (nar .byte ((ch p1 (0 : Int32)).toInt8.toInt32)) (nar .byte ((ch p1 ((0 : Int32) + (8 : Int32))).toInt8.toInt32)) (nar .byte ((ch p1 (16 : Int32)).toInt8.toInt32)) (nar .byte ((ch p1 ((16 : Int32) + (8 : Int32))).toInt8.toInt32)) (nar .byte ((ch p2 (0 : Int32)).toInt8.toInt32)) (nar .byte ((ch p2 ((0 : Int32) + (8 : Int32))).toInt8.toInt32)) (nar .byte ((ch p2 (16 : Int32)).toInt8.toInt32)) (nar .byte ((ch p2 ((16 : Int32) + (8 : Int32))).toInt8.toInt32))))] tg → Steps p.tables e below S0 tg := fun tg kg => pre458 tg (by
     refine XS.ifYes X457.here hx rfl (pc0 := 68) (pc' := 75) rfl (hb hby at_68) rfl (XT.i0_eq_t hc459) (by decide) (by decide) ?_
     show AT p e below T457 m 75 #[iv p0, iv p1, iv p2, rv b1, rv b76, un, un, un, un, un, un] [] _
     refine XS.iconst X457.here hx rfl (hb hby at_75) ?_
     refine XS.istore X457.here hx rfl (hb hby at_76) rfl (l' := #[iv p0, iv p1, iv p2, rv b1, rv b76, iv (0 : Int32), un, un, un, un, un]) rfl ?_
     refine XS.aloadN X457.here hx rfl (hb hby at_78) rfl rfl ?_
     refine XS.aload X457.here hx rfl (hb hby at_79) rfl rfl ?_
     show AT p e below T457 m 81 #[iv p0, iv p1, iv p2, rv b1, rv b76, iv (0 : Int32), un, un, un, un, un] [(.ref b76), (.ref b1)] _
     refine st460.trans ?_
     exact kg)
    have hw462 : (f10 (nar .byte ((ch p0 (0 : Int32)).toInt8.toInt32)) (nar .byte ((ch p0 ((0 : Int32) + (8 : Int32))).toInt8.toInt32)) (nar .byte ((ch p0 (16 : Int32)).toInt8.toInt32)) (nar .byte ((ch p0 ((16 : Int32) + (8 : Int32))).toInt8.toInt32)) (nar .byte ((ch p1 (0 : Int32)).toInt8.toInt32)) (nar .byte ((ch p1 ((0 : Int32) + (8 : Int32))).toInt8.toInt32)) (nar .byte ((ch p1 (16 : Int32)).toInt8.toInt32)) (nar .byte ((ch p1 ((16 : Int32) + (8 : Int32))).toInt8.toInt32)) (nar .byte ((ch p2 (0 : Int32)).toInt8.toInt32)) (nar .byte ((ch p2 ((0 : Int32) + (8 : Int32))).toInt8.toInt32)) (nar .byte ((ch p2 (16 : Int32)).toInt8.toInt32)) (nar .byte ((ch p2 ((16 : Int32) + (8 : Int32))).toInt8.toInt32))) = (0 : Int32) := by rw [own_ab]; unfold ref3; simp [hc297, hc378, hc459]
    have pre462 : ∀ tg, AT p e below T460 m 84 #[iv p0, iv p1, iv p2, rv b1, rv b76, iv (0 : Int32), un, un, un, un, un] [(.int (0 : Int32))] tg → Steps p.tables e below S0 tg := by
      have q := pre461
      rw [hw462] at q
      exact q
    obtain ⟨cq463, kq463, q463a, q463b, q463c⟩ := isOf hZ e460 E259_279
    obtain ⟨_, _, ⟨T463, L463, k463, n463⟩, -, X463, ⟨Lc463, hQ463, l463, y463, z463⟩, st463⟩ := X460.virtualBack hx (y := y10) (z := y10) hown (mvT hZ (ow hw 50 rfl)) (mvT hZ (ow hw 51 rfl)) (notFace_of_selects (args := #[]) (mvT hZ (ow hw 53 rfl))) (mvT hZ (ow hw 53 rfl)) (mvT hZ (ow hw 52 rfl)) (by decide) (backOf (W := 0) (rm10 l Z ar hw [] b76 b1 w_CS0 w_SF1 t_106 b_106 kb_106 (nar .byte ((ch p0 (16 : Int32)).toInt8.toInt32)) (nar .byte ((ch p0 ((16 : Int32) + (8 : Int32))).toInt8.toInt32)) t_5 b_5 kb_5 (nar .byte ((ch p0 (0 : Int32)).toInt8.toInt32)) (nar .byte ((ch p0 ((0 : Int32) + (8 : Int32))).toInt8.toInt32)) t_148 b_148 kb_148 (nar .byte ((ch p1 (16 : Int32)).toInt8.toInt32)) (nar .byte ((ch p1 ((16 : Int32) + (8 : Int32))).toInt8.toInt32)) t_14 b_14 kb_14 (nar .byte ((ch p1 (0 : Int32)).toInt8.toInt32)) (nar .byte ((ch p1 ((0 : Int32) + (8 : Int32))).toInt8.toInt32)) t_199 b_199 kb_199 (nar .byte ((ch p2 (16 : Int32)).toInt8.toInt32)) (nar .byte ((ch p2 ((16 : Int32) + (8 : Int32))).toInt8.toInt32)) t_32 b_32 kb_32 (nar .byte ((ch p2 (0 : Int32)).toInt8.toInt32)) (nar .byte ((ch p2 ((0 : Int32) + (8 : Int32))).toInt8.toInt32)) T259.heap n0 O259 HW E259_279 E259_260 u259_1 E259_280 F259_281 F259_282 V259_283 F259_276 E259_261 F259_262 F259_263 V259_264 (Ne.symm ne132) u259_2 E259_285 F259_286 F259_287 V259_288 F259_277 E259_266 F259_267 F259_268 V259_269 (Ne.symm ne181) u259_3 E259_290 F259_291 F259_292 V259_293 F259_278 E259_271 F259_272 F259_273 V259_274 (Ne.symm ne239)) hZ (ow hw 54 rfl) (ow hw 2 rfl) (by decide) (by decide)) q463a q463c (g := (mkF m 89 #[iv p0, iv p1, iv p2, rv b1, rv b76, iv (0 : Int32), iv (0 : Int32), un, un, un, un] [(.ref b1), (.ref b76)])) rfl (by rw [hml]; rfl) (Steps.refl _) (argsL := [(.ref b1)]) (rest := []) (lenOf pd_6 rfl) rfl (by show 2 * 0 + _ ≤ _; exact Nat.le_of_eq rfl) (hb hby at_89) (fun _ _ => ⟨rfl, e460, (by decide : 20 + 0 ≤ _), (by decide : 54 + 0 ≤ _)⟩)
    dsimp only [Pt.U, Pt.locs, Pt.cells, Pt.slots] at X463 l463 y463 z463 st463 hQ463
    subst l463 y463 z463
    obtain ⟨rfl, N463q, e463⟩ := hQ463
    have N463 := Fr.app N460 N463q
    have pre464 : ∀ tg, AT p e below T463 m 92 #[iv p0, iv p1, iv p2, rv b1, rv b76, iv (0 : Int32), iv (0 : Int32), un, un, un, un] [(.int (f10 (nar .byte ((ch p0 (16 : Int32)).toInt8.toInt32)) (nar .byte ((ch p0 ((16 : Int32) + (8 : Int32))).toInt8.toInt32)) (nar .byte ((ch p0 (0 : Int32)).toInt8.toInt32)) (nar .byte ((ch p0 ((0 : Int32) + (8 : Int32))).toInt8.toInt32)) (nar .byte ((ch p1 (16 : Int32)).toInt8.toInt32)) (nar .byte ((ch p1 ((16 : Int32) + (8 : Int32))).toInt8.toInt32)) (nar .byte ((ch p1 (0 : Int32)).toInt8.toInt32)) (nar .byte ((ch p1 ((0 : Int32) + (8 : Int32))).toInt8.toInt32)) (nar .byte ((ch p2 (16 : Int32)).toInt8.toInt32)) (nar .byte ((ch p2 ((16 : Int32) + (8 : Int32))).toInt8.toInt32)) (nar .byte ((ch p2 (0 : Int32)).toInt8.toInt32)) (nar .byte ((ch p2 ((0 : Int32) + (8 : Int32))).toInt8.toInt32))))] tg → Steps p.tables e below S0 tg := fun tg kg => pre462 tg (by
     refine XS.istore X460.here hx rfl (hb hby at_84) rfl (l' := #[iv p0, iv p1, iv p2, rv b1, rv b76, iv (0 : Int32), iv (0 : Int32), un, un, un, un]) rfl ?_
     refine XS.aload X460.here hx rfl (hb hby at_86) rfl rfl ?_
     refine XS.aloadN X460.here hx rfl (hb hby at_88) rfl rfl ?_
     refine st463.trans ?_
     exact kg)
    have hw465 : (f10 (nar .byte ((ch p0 (16 : Int32)).toInt8.toInt32)) (nar .byte ((ch p0 ((16 : Int32) + (8 : Int32))).toInt8.toInt32)) (nar .byte ((ch p0 (0 : Int32)).toInt8.toInt32)) (nar .byte ((ch p0 ((0 : Int32) + (8 : Int32))).toInt8.toInt32)) (nar .byte ((ch p1 (16 : Int32)).toInt8.toInt32)) (nar .byte ((ch p1 ((16 : Int32) + (8 : Int32))).toInt8.toInt32)) (nar .byte ((ch p1 (0 : Int32)).toInt8.toInt32)) (nar .byte ((ch p1 ((0 : Int32) + (8 : Int32))).toInt8.toInt32)) (nar .byte ((ch p2 (16 : Int32)).toInt8.toInt32)) (nar .byte ((ch p2 ((16 : Int32) + (8 : Int32))).toInt8.toInt32)) (nar .byte ((ch p2 (0 : Int32)).toInt8.toInt32)) (nar .byte ((ch p2 ((0 : Int32) + (8 : Int32))).toInt8.toInt32))) = (0 : Int32) := by rw [own_ba]; unfold ref3; simp [hc297, hc378, hc459]
    have pre465 : ∀ tg, AT p e below T463 m 92 #[iv p0, iv p1, iv p2, rv b1, rv b76, iv (0 : Int32), iv (0 : Int32), un, un, un, un] [(.int (0 : Int32))] tg → Steps p.tables e below S0 tg := by
      have q := pre464
      rw [hw465] at q
      exact q
    obtain ⟨cq466, kq466, q466a, q466b, q466c⟩ := isOf hZ e463 E259_260
    obtain ⟨_, _, ⟨T466, L466, k466, n466⟩, -, X466, ⟨Lc466, hQ466, l466, y466, z466⟩, st466⟩ := X463.virtualBack hx (y := y10) (z := y10) hown (mvT hZ (ow hw 50 rfl)) (mvT hZ (ow hw 51 rfl)) (notFace_of_selects (args := #[]) (mvT hZ (ow hw 53 rfl))) (mvT hZ (ow hw 53 rfl)) (mvT hZ (ow hw 52 rfl)) (by decide) (backOf (W := 0) (rm10s l Z ar hw [] b1 t_5 t_14 t_32 T259.heap n0 O259 E259_260 F259_276 E259_261 F259_277 E259_266 F259_278 E259_271) hZ (ow hw 54 rfl) (ow hw 2 rfl) (by decide) (by decide)) q466a q466c (g := (mkF m 96 #[iv p0, iv p1, iv p2, rv b1, rv b76, iv (0 : Int32), iv (0 : Int32), iv (0 : Int32), un, un, un] [(.ref b1), (.ref b1)])) rfl (by rw [hml]; rfl) (Steps.refl _) (argsL := [(.ref b1)]) (rest := []) (lenOf pd_6 rfl) rfl (by show 2 * 0 + _ ≤ _; exact Nat.le_of_eq rfl) (hb hby at_96) (fun _ _ => ⟨rfl, e463, (by decide : 20 + 0 ≤ _), (by decide : 54 + 0 ≤ _)⟩)
    dsimp only [Pt.U, Pt.locs, Pt.cells, Pt.slots] at X466 l466 y466 z466 st466 hQ466
    subst l466 y466 z466
    obtain ⟨rfl, N466q, e466⟩ := hQ466
    have N466 := Fr.app N463 N466q
    obtain ⟨cq467, kq467, q467a, q467b, q467c⟩ := isOf hZ e466 E259_260
    obtain ⟨_, _, ⟨T467, L467, k467, n467⟩, -, X467, ⟨Lc467, hQ467, l467, y467, z467⟩, st467⟩ := X466.virtualBack hx (y := y10) (z := y10) hown (mvT hZ (ow hw 50 rfl)) (mvT hZ (ow hw 51 rfl)) (notFace_of_selects (args := #[]) (mvT hZ (ow hw 53 rfl))) (mvT hZ (ow hw 53 rfl)) (mvT hZ (ow hw 52 rfl)) (by decide) (backOf (W := 0) (rm10n l Z ar hw [] b1 T259.heap n0 O259 E259_260) hZ (ow hw 54 rfl) (ow hw 2 rfl) (by decide) (by decide)) q467a q467c (g := (mkF m 103 #[iv p0, iv p1, iv p2, rv b1, rv b76, iv (0 : Int32), iv (0 : Int32), iv (0 : Int32), iv (1 : Int32), un, un] [.null, (.ref b1)])) rfl (by rw [hml]; rfl) (Steps.refl _) (argsL := [.null]) (rest := []) (lenOf pd_6 rfl) rfl (by show 2 * 0 + _ ≤ _; exact Nat.le_of_eq rfl) (hb hby at_103) (fun _ _ => ⟨rfl, e466, (by decide : 20 + 0 ≤ _), (by decide : 54 + 0 ≤ _)⟩)
    dsimp only [Pt.U, Pt.locs, Pt.cells, Pt.slots] at X467 l467 y467 z467 st467 hQ467
    subst l467 y467 z467
    obtain ⟨rfl, N467q, e467⟩ := hQ467
    have N467 := Fr.app N466 N467q
    obtain ⟨_, _, ⟨T468, L468, k468, n468⟩, -, X468, ⟨Lc468, hQ468, l468, y468, z468⟩, st468⟩ := Jvm.LawKit.callS X467 hx (y := y1) hown (mvT hZ (ow hw 3 rfl)) (mvT hZ (ow hw 4 rfl)) (mvT hZ (ow hw 5 rfl)) (mvT hZ (ow hw 6 rfl)) (by decide) (backOf (W := 1) (rm1 l Z ar hw [] p0 (0 : Int32) w_CS0 w_SF1 T259.heap n0 O259 HW) hZ (ow hw 6 rfl) (ow hw 5 rfl) (by decide) (by decide)) (g := (mkF m 111 #[iv p0, iv p1, iv p2, rv b1, rv b76, iv (0 : Int32), iv (0 : Int32), iv (0 : Int32), iv (1 : Int32), iv (0 : Int32), un] [(.int (0 : Int32)), (.int p0), (.ref b1)])) rfl (by rw [hml]; rfl) (argsL := [(.int p0), (.int (0 : Int32))]) (rest := [(.ref b1)]) (lenOf pd_7 rfl) rfl (by show 2 * 0 + _ ≤ _; exact Nat.le_of_eq rfl) (hb hby at_111) (fun _ _ => ⟨rfl, e467, (by decide : 20 + 3 ≤ _), (by decide : 54 + 8 ≤ _)⟩)
    dsimp only [Pt.U, Pt.locs, Pt.cells, Pt.slots] at X468 l468 y468 z468 st468 hQ468
    subst l468 y468 z468
    obtain ⟨t_468, b_468, kb_468, rfl, N468q, Kq468, u468_0, u468_1, u468_2, u468_3, u468_4, u468_5, u468_6, u468_7⟩ := hQ468
    have N468 := Fr.app N467 N468q
    have E468_469 := E259_260.keep Kq468
    have E468_470 := E259_261.keep Kq468
    have F468_471 := F259_262.keep Kq468 nin0
    have F468_472 := F259_263.keep Kq468 nin0
    have V468_473 := V259_264.keep Kq468 nin0
    have E468_474 := E259_265.keep Kq468
    have E468_475 := E259_266.keep Kq468
    have F468_476 := F259_267.keep Kq468 nin0
    have F468_477 := F259_268.keep Kq468 nin0
    have V468_478 := V259_269.keep Kq468 nin0
    have E468_479 := E259_270.keep Kq468
    have E468_480 := E259_271.keep Kq468
    have F468_481 := F259_272.keep Kq468 nin0
    have F468_482 := F259_273.keep Kq468 nin0
    have V468_483 := V259_274.keep Kq468 nin0
    have E468_484 := E259_275.keep Kq468
    have F468_485 := F259_276.keep Kq468 nin0
    have F468_486 := F259_277.keep Kq468 nin0
    have F468_487 := F259_278.keep Kq468 nin0
    have E468_488 := E259_279.keep Kq468
    have E468_489 := E259_280.keep Kq468
    have F468_490 := F259_281.keep Kq468 nin0
    have F468_491 := F259_282.keep Kq468 nin0
    have V468_492 := V259_283.keep Kq468 nin0
    have E468_493 := E259_284.keep Kq468
    have E468_494 := E259_285.keep Kq468
    have F468_495 := F259_286.keep Kq468 nin0
    have F468_496 := F259_287.keep Kq468 nin0
    have V468_497 := V259_288.keep Kq468 nin0
    have E468_498 := E259_289.keep Kq468
    have E468_499 := E259_290.keep Kq468
    have F468_500 := F259_291.keep Kq468 nin0
    have F468_501 := F259_292.keep Kq468 nin0
    have V468_502 := V259_293.keep Kq468 nin0
    have E468_503 := E259_294.keep Kq468
    have F468_504 := u259_1.keep Kq468 nin0
    have F468_505 := u259_2.keep Kq468 nin0
    have F468_506 := u259_3.keep Kq468 nin0
    have K468 := K259.trans Kq468 all0
    have O468 := O259.keep Kq468 all0
    have sz507 : h0.size ≤ t_468 := Nat.le_trans K259.1 u468_5
    have gn507 : n0 ≤ t_468 := Nat.le_trans (Nat.le_trans (Nat.le_of_eq O259.1.symm) O259.2.1) u468_5
    have ne508 : b1 ≠ t_468 := Nat.ne_of_lt (Nat.lt_of_lt_of_le (E259_260).lt u468_5)
    have ne509 : t_5 ≠ t_468 := Nat.ne_of_lt (Nat.lt_of_lt_of_le (E259_261).lt u468_5)
    have ne510 : b_5 ≠ t_468 := Nat.ne_of_lt (Nat.lt_of_lt_of_le (V259_264).lt u468_5)
    have ne511 : t_14 ≠ t_468 := Nat.ne_of_lt (Nat.lt_of_lt_of_le (E259_266).lt u468_5)
    have ne512 : b_14 ≠ t_468 := Nat.ne_of_lt (Nat.lt_of_lt_of_le (V259_269).lt u468_5)
    have ne513 : t_32 ≠ t_468 := Nat.ne_of_lt (Nat.lt_of_lt_of_le (E259_271).lt u468_5)
    have ne514 : b_32 ≠ t_468 := Nat.ne_of_lt (Nat.lt_of_lt_of_le (V259_274).lt u468_5)
    have ne515 : b76 ≠ t_468 := Nat.ne_of_lt (Nat.lt_of_lt_of_le (E259_279).lt u468_5)
    have ne516 : t_106 ≠ t_468 := Nat.ne_of_lt (Nat.lt_of_lt_of_le (E259_280).lt u468_5)
    have ne517 : b_106 ≠ t_468 := Nat.ne_of_lt (Nat.lt_of_lt_of_le (V259_283).lt u468_5)
    have ne518 : t_148 ≠ t_468 := Nat.ne_of_lt (Nat.lt_of_lt_of_le (E259_285).lt u468_5)
    have ne519 : b_148 ≠ t_468 := Nat.ne_of_lt (Nat.lt_of_lt_of_le (V259_288).lt u468_5)
    have ne520 : t_199 ≠ t_468 := Nat.ne_of_lt (Nat.lt_of_lt_of_le (E259_290).lt u468_5)
    have ne521 : b_199 ≠ t_468 := Nat.ne_of_lt (Nat.lt_of_lt_of_le (V259_293).lt u468_5)
    have sz522 : h0.size ≤ b_468 := Nat.le_trans K259.1 u468_6
    have gn522 : n0 ≤ b_468 := Nat.le_trans (Nat.le_trans (Nat.le_of_eq O259.1.symm) O259.2.1) u468_6
    have ne523 : b1 ≠ b_468 := Nat.ne_of_lt (Nat.lt_of_lt_of_le (E259_260).lt u468_6)
    have ne524 : t_5 ≠ b_468 := Nat.ne_of_lt (Nat.lt_of_lt_of_le (E259_261).lt u468_6)
    have ne525 : b_5 ≠ b_468 := Nat.ne_of_lt (Nat.lt_of_lt_of_le (V259_264).lt u468_6)
    have ne526 : t_14 ≠ b_468 := Nat.ne_of_lt (Nat.lt_of_lt_of_le (E259_266).lt u468_6)
    have ne527 : b_14 ≠ b_468 := Nat.ne_of_lt (Nat.lt_of_lt_of_le (V259_269).lt u468_6)
    have ne528 : t_32 ≠ b_468 := Nat.ne_of_lt (Nat.lt_of_lt_of_le (E259_271).lt u468_6)
    have ne529 : b_32 ≠ b_468 := Nat.ne_of_lt (Nat.lt_of_lt_of_le (V259_274).lt u468_6)
    have ne530 : b76 ≠ b_468 := Nat.ne_of_lt (Nat.lt_of_lt_of_le (E259_279).lt u468_6)
    have ne531 : t_106 ≠ b_468 := Nat.ne_of_lt (Nat.lt_of_lt_of_le (E259_280).lt u468_6)
    have ne532 : b_106 ≠ b_468 := Nat.ne_of_lt (Nat.lt_of_lt_of_le (V259_283).lt u468_6)
    have ne533 : t_148 ≠ b_468 := Nat.ne_of_lt (Nat.lt_of_lt_of_le (E259_285).lt u468_6)
    have ne534 : b_148 ≠ b_468 := Nat.ne_of_lt (Nat.lt_of_lt_of_le (V259_288).lt u468_6)
    have ne535 : t_199 ≠ b_468 := Nat.ne_of_lt (Nat.lt_of_lt_of_le (E259_290).lt u468_6)
    have ne536 : b_199 ≠ b_468 := Nat.ne_of_lt (Nat.lt_of_lt_of_le (V259_293).lt u468_6)
    obtain ⟨cq537, kq537, q537a, q537b, q537c⟩ := isOf hZ rfl E468_469
    obtain ⟨_, _, ⟨T537, L537, k537, n537⟩, -, X537, ⟨Lc537, hQ537, l537, y537, z537⟩, st537⟩ := X468.virtualBack hx (y := y10) (z := y10) hown (mvT hZ (ow hw 50 rfl)) (mvT hZ (ow hw 51 rfl)) (notFace_of_selects (args := #[]) (mvT hZ (ow hw 53 rfl))) (mvT hZ (ow hw 53 rfl)) (mvT hZ (ow hw 52 rfl)) (by decide) (backOf (W := 0) (rm10t l Z ar hw [] b1 t_468 T468.heap n0 O468 E468_469 u468_0) hZ (ow hw 54 rfl) (ow hw 2 rfl) (by decide) (by decide)) q537a q537c (g := (mkF m 114 #[iv p0, iv p1, iv p2, rv b1, rv b76, iv (0 : Int32), iv (0 : Int32), iv (0 : Int32), iv (1 : Int32), iv (0 : Int32), un] [(.ref t_468), (.ref b1)])) rfl (by rw [hml]; rfl) (Steps.refl _) (argsL := [(.ref t_468)]) (rest := []) (lenOf pd_6 rfl) rfl (by show 2 * 0 + _ ≤ _; exact Nat.le_of_eq rfl) (hb hby at_114) (fun _ _ => ⟨rfl, rfl, (by decide : 23 + 0 ≤ _), (by decide : 62 + 0 ≤ _)⟩)
    dsimp only [Pt.U, Pt.locs, Pt.cells, Pt.slots] at X537 l537 y537 z537 st537 hQ537
    subst l537 y537 z537
    obtain ⟨rfl, N537q, e537⟩ := hQ537
    have N537 := Fr.app N468 N537q
    clear E259_260 E259_261 F259_262 F259_263 V259_264 E259_265 E259_266 F259_267 F259_268 V259_269 E259_270 E259_271 F259_272 F259_273 V259_274 E259_275 F259_276 F259_277 F259_278 E259_279 E259_280 F259_281 F259_282 V259_283 E259_284 E259_285 F259_286 F259_287 V259_288 E259_289 E259_290 F259_291 F259_292 V259_293 E259_294
    obtain ⟨fs, hr, hrun, hended, hW, hsame⟩ := X537.leave (v := some (.int (1 : Int32))) (fun h => by rw [Bd.returns] at h; cases h) hlk
    subst hS0
    refine ⟨_, _, pre465 _ ?_, hrun, hended, _, _, rfl, ?_, ⟨_, rfl⟩, hW, hsame.mono (by decide) (by decide)⟩
    ·
     refine XS.istore X463.here hx rfl (hb hby at_92) rfl (l' := #[iv p0, iv p1, iv p2, rv b1, rv b76, iv (0 : Int32), iv (0 : Int32), iv (0 : Int32), un, un, un]) rfl ?_
     refine XS.aloadN X463.here hx rfl (hb hby at_94) rfl rfl ?_
     refine XS.aloadN X463.here hx rfl (hb hby at_95) rfl rfl ?_
     refine st466.trans ?_
     show AT p e below T466 m 99 #[iv p0, iv p1, iv p2, rv b1, rv b76, iv (0 : Int32), iv (0 : Int32), iv (0 : Int32), un, un, un] [(.int (1 : Int32))] _
     refine XS.istore X466.here hx rfl (hb hby at_99) rfl (l' := #[iv p0, iv p1, iv p2, rv b1, rv b76, iv (0 : Int32), iv (0 : Int32), iv (0 : Int32), iv (1 : Int32), un, un]) rfl ?_
     refine XS.aloadN X466.here hx rfl (hb hby at_101) rfl rfl ?_
     refine XS.aconstNull X466.here hx rfl (hb hby at_102) ?_
     refine st467.trans ?_
     show AT p e below T467 m 106 #[iv p0, iv p1, iv p2, rv b1, rv b76, iv (0 : Int32), iv (0 : Int32), iv (0 : Int32), iv (1 : Int32), un, un] [(.int (0 : Int32))] _
     refine XS.istore X467.here hx rfl (hb hby at_106) rfl (l' := #[iv p0, iv p1, iv p2, rv b1, rv b76, iv (0 : Int32), iv (0 : Int32), iv (0 : Int32), iv (1 : Int32), iv (0 : Int32), un]) rfl ?_
     refine XS.aloadN X467.here hx rfl (hb hby at_108) rfl rfl ?_
     refine XS.iloadN X467.here hx rfl (hb hby at_109) rfl ?_
     refine XS.iconst X467.here hx rfl (hb hby at_110) ?_
     show AT p e below T467 m 111 #[iv p0, iv p1, iv p2, rv b1, rv b76, iv (0 : Int32), iv (0 : Int32), iv (0 : Int32), iv (1 : Int32), iv (0 : Int32), un] [(.int (0 : Int32)), (.int p0), (.ref b1)] _
     refine st468 _ ?_
     refine st537.trans ?_
     refine XS.istore X537.here hx rfl (hb hby at_117) rfl (l' := #[iv p0, iv p1, iv p2, rv b1, rv b76, iv (0 : Int32), iv (0 : Int32), iv (0 : Int32), iv (1 : Int32), iv (0 : Int32), iv (0 : Int32)]) rfl ?_
     refine XS.iload X537.here hx rfl (hb hby at_119) rfl ?_
     show AT p e below T537 m 121 #[iv p0, iv p1, iv p2, rv b1, rv b76, iv (0 : Int32), iv (0 : Int32), iv (0 : Int32), iv (1 : Int32), iv (0 : Int32), iv (0 : Int32)] [(.int (0 : Int32))] _
     refine XS.iload X537.here hx rfl (hb hby at_121) rfl ?_
     show AT p e below T537 m 123 #[iv p0, iv p1, iv p2, rv b1, rv b76, iv (0 : Int32), iv (0 : Int32), iv (0 : Int32), iv (1 : Int32), iv (0 : Int32), iv (0 : Int32)] [(.int (0 : Int32)), (.int (0 : Int32))] _
     refine XS.icmpNo X537.here hx rfl (hb hby at_123) rfl (XT.ii_ne_f ((by decide) : (0 : Int32) = (0 : Int32))) ?_
     refine XS.iload X537.here hx rfl (hb hby at_126) rfl ?_
     refine XS.iload X537.here hx rfl (hb hby at_128) rfl ?_
     show AT p e below T537 m 130 #[iv p0, iv p1, iv p2, rv b1, rv b76, iv (0 : Int32), iv (0 : Int32), iv (0 : Int32), iv (1 : Int32), iv (0 : Int32), iv (0 : Int32)] [(.int (0 : Int32)), (.int (0 : Int32))] _
     refine XS.icmpNo X537.here hx rfl (hb hby at_130) rfl (XT.ii_ne_f ((by decide) : (0 : Int32) = (0 : Int32))) ?_
     refine XS.iload X537.here hx rfl (hb hby at_133) rfl ?_
     show AT p e below T537 m 135 #[iv p0, iv p1, iv p2, rv b1, rv b76, iv (0 : Int32), iv (0 : Int32), iv (0 : Int32), iv (1 : Int32), iv (0 : Int32), iv (0 : Int32)] [(.int (1 : Int32))] _
     refine XS.ifNo X537.here hx rfl (hb hby at_135) rfl (XT.i0_eq_f ((by decide) : ¬ ((1 : Int32) = (0 : Int32)))) ?_
     show AT p e below T537 m 138 #[iv p0, iv p1, iv p2, rv b1, rv b76, iv (0 : Int32), iv (0 : Int32), iv (0 : Int32), iv (1 : Int32), iv (0 : Int32), iv (0 : Int32)] [] _
     refine XS.iload X537.here hx rfl (hb hby at_138) rfl ?_
     show AT p e below T537 m 140 #[iv p0, iv p1, iv p2, rv b1, rv b76, iv (0 : Int32), iv (0 : Int32), iv (0 : Int32), iv (1 : Int32), iv (0 : Int32), iv (0 : Int32)] [(.int (0 : Int32))] _
     refine XS.ifNo X537.here hx rfl (hb hby at_140) rfl (XT.i0_ne_f ((by decide) : (0 : Int32) = (0 : Int32))) ?_
     refine XS.iload X537.here hx rfl (hb hby at_143) rfl ?_
     show AT p e below T537 m 145 #[iv p0, iv p1, iv p2, rv b1, rv b76, iv (0 : Int32), iv (0 : Int32), iv (0 : Int32), iv (1 : Int32), iv (0 : Int32), iv (0 : Int32)] [(.int (0 : Int32))] _
     refine XS.ifNo X537.here hx rfl (hb hby at_145) rfl (XT.i0_ne_f ((by decide) : (0 : Int32) = (0 : Int32))) ?_
     refine XS.iconst X537.here hx rfl (hb hby at_148) ?_
     refine XS.goto X537.here hx rfl (pc0 := 149) (pc' := 153) rfl (hb hby at_149) (by decide) (by decide) ?_
     show AT p e below T537 m 153 #[iv p0, iv p1, iv p2, rv b1, rv b76, iv (0 : Int32), iv (0 : Int32), iv (0 : Int32), iv (1 : Int32), iv (0 : Int32), iv (0 : Int32)] [(.int (1 : Int32))] _
     exact retN X537 hx (t := .boolean) Bd.returns (by simp) (hb hby at_153) hr
    ·
     show Q0 Z p0 p1 p2 w_CS0 w_SF1 h0 n0 _ T537.heap _
     rw [e537]
     exact ⟨rfl, N537⟩
   ·
    obtain ⟨cq538, kq538, q538a, q538b, q538c⟩ := isOf hZ e457 E259_260
    obtain ⟨_, _, ⟨T538, L538, k538, n538⟩, -, X538, ⟨Lc538, hQ538, l538, y538, z538⟩, st538⟩ := X457.virtualBack hx (y := y10) (z := y10) hown (mvT hZ (ow hw 50 rfl)) (mvT hZ (ow hw 51 rfl)) (notFace_of_selects (args := #[]) (mvT hZ (ow hw 53 rfl))) (mvT hZ (ow hw 53 rfl)) (mvT hZ (ow hw 52 rfl)) (by decide) (backOf (W := 0) (rm10 l Z ar hw [] b1 b76 w_CS0 w_SF1 t_5 b_5 kb_5 (nar .byte ((ch p0 (0 : Int32)).toInt8.toInt32)) (nar .byte ((ch p0 ((0 : Int32) + (8 : Int32))).toInt8.toInt32)) t_106 b_106 kb_106 (nar .byte ((ch p0 (16 : Int32)).toInt8.toInt32)) (nar .byte ((ch p0 ((16 : Int32) + (8 : Int32))).toInt8.toInt32)) t_14 b_14 kb_14 (nar .byte ((ch p1 (0 : Int32)).toInt8.toInt32)) (nar .byte ((ch p1 ((0 : Int32) + (8 : Int32))).toInt8.toInt32)) t_148 b_148 kb_148 (nar .byte ((ch p1 (16 : Int32)).toInt8.toInt32)) (nar .byte ((ch p1 ((16 : Int32) + (8 : Int32))).toInt8.toInt32)) t_32 b_32 kb_32 (nar .byte ((ch p2 (0 : Int32)).toInt8.toInt32)) (nar .byte ((ch p2 ((0 : Int32) + (8 : Int32))).toInt8.toInt32)) t_199 b_199 kb_199 (nar .byte ((ch p2 (16 : Int32)).toInt8.toInt32)) (nar .byte ((ch p2 ((16 : Int32) + (8 : Int32))).toInt8.toInt32)) T259.heap n0 O259 HW E259_260 E259_279 F259_276 E259_261 F259_262 F259_263 V259_264 u259_1 E259_280 F259_281 F259_282 V259_283 ne132 F259_277 E259_266 F259_267 F259_268 V259_269 u259_2 E259_285 F259_286 F259_287 V259_288 ne181 F259_278 E259_271 F259_272 F259_273 V259_274 u259_3 E259_290 F259_291 F259_292 V259_293 ne239) hZ (ow hw 54 rfl) (ow hw 2 rfl) (by decide) (by decide)) q538a q538c (g := (mkF m 81 #[iv p0, iv p1, iv p2, rv b1, rv b76, iv (1 : Int32), un, un, un, un, un] [(.ref b76), (.ref b1)])) rfl (by rw [hml]; rfl) (Steps.refl _) (argsL := [(.ref b76)]) (rest := []) (lenOf pd_6 rfl) rfl (by show 2 * 0 + _ ≤ _; exact Nat.le_of_eq rfl) (hb hby at_81) (fun _ _ => ⟨rfl, e457, (by decide : 20 + 0 ≤ _), (by decide : 54 + 0 ≤ _)⟩)
    dsimp only [Pt.U, Pt.locs, Pt.cells, Pt.slots] at X538 l538 y538 z538 st538 hQ538
    subst l538 y538 z538
    obtain ⟨rfl, N538q, e538⟩ := hQ538
    have N538 := Fr.app N457 N538q
    clear F1_2 F1_3 F1_4 E5_6 F5_7 F5_8 F5_9 E14_15 F14_16 F14_17 F14_18 E14_19 F14_20 F14_21 V14_22 E14_23 E32_33 E32_37 F32_38 F32_39 V32_40 E32_41 E32_42 F32_43 F32_44 V32_45 E32_46 E59_60 E59_61 F59_62 F59_63 V59_64 E59_65 E59_66 F59_67 F59_68 V59_69 E59_70 E59_71 F59_72 F59_73 V59_74 E59_75 E76_84 E76_85 F76_86 F76_87 V76_88 E76_89 E76_90 F76_91 F76_92 V76_93 E76_94 E76_95 F76_96 F76_97 V76_98 E76_99 F76_100 F76_101 F76_102 F76_103 F76_104 F76_105 E106_107 E106_108 F106_109 F106_110 V106_111 E106_112 E106_113 F106_114 F106_115 V106_116 E106_117 E106_118 F106_119 F106_120 V106_121 E106_122 F106_123 F106_124 F106_125 E106_126 F106_127 F106_128 F106_129 E148_149 E148_150 F148_151 F148_152 V148_153 E148_154 E148_155 F148_156 F148_157 V148_158 E148_159 E148_160 F148_161 F148_162 V148_163 E148_164 F148_165 F148_166 F148_167 E148_168 F148_169 F148_170 F148_171 E148_172 F148_173 F148_174 V148_175 E148_176 E199_200 E199_201 F199_202 F199_203 V199_204 E199_205 E199_206 F199_207 F199_208 V199_209 E199_210 E199_211 F199_212 F199_213 V199_214 E199_215 F199_216 F199_217 F199_218 E199_219 E199_223 F199_224 F199_225 V199_226 E199_227 E199_228 F199_229 F199_230 V199_231 E199_232
    have pre539 : ∀ tg, AT p e below T538 m 84 #[iv p0, iv p1, iv p2, rv b1, rv b76, iv (1 : Int32), un, un, un, un, un] [(.int (f10 (nar .byte ((ch p0 (0 : Int32)).toInt8.toInt32)) (nar .byte ((ch p0 ((0 : Int32) + (8 : Int32))).toInt8.toInt32)) (nar .byte ((ch p0 (16 : Int32)).toInt8.toInt32)) (nar .byte ((ch p0 ((16 : Int32) + (8 : Int32))).toInt8.toInt32)) (nar .byte ((ch p1 (0 : Int32)).toInt8.toInt32)) (nar .byte ((ch p1 ((0 : Int32) + (8 : Int32))).toInt8.toInt32)) (nar .byte ((ch p1 (16 : Int32)).toInt8.toInt32)) (nar .byte ((ch p1 ((16 : Int32) + (8 : Int32))).toInt8.toInt32)) (nar .byte ((ch p2 (0 : Int32)).toInt8.toInt32)) (nar .byte ((ch p2 ((0 : Int32) + (8 : Int32))).toInt8.toInt32)) (nar .byte ((ch p2 (16 : Int32)).toInt8.toInt32)) (nar .byte ((ch p2 ((16 : Int32) + (8 : Int32))).toInt8.toInt32))))] tg → Steps p.tables e below S0 tg := fun tg kg => pre458 tg (by
     refine XS.ifNo X457.here hx rfl (hb hby at_68) rfl (XT.i0_eq_f hc459) ?_
     show AT p e below T457 m 71 #[iv p0, iv p1, iv p2, rv b1, rv b76, un, un, un, un, un, un] [] _
     refine XS.iconst X457.here hx rfl (hb hby at_71) ?_
     refine XS.goto X457.here hx rfl (pc0 := 72) (pc' := 76) rfl (hb hby at_72) (by decide) (by decide) ?_
     refine XS.istore X457.here hx rfl (hb hby at_76) rfl (l' := #[iv p0, iv p1, iv p2, rv b1, rv b76, iv (1 : Int32), un, un, un, un, un]) rfl ?_
     refine XS.aloadN X457.here hx rfl (hb hby at_78) rfl rfl ?_
     show AT p e below T457 m 79 #[iv p0, iv p1, iv p2, rv b1, rv b76, iv (1 : Int32), un, un, un, un, un] [(.ref b1)] _
     refine XS.aload X457.here hx rfl (hb hby at_79) rfl rfl ?_
     refine st538.trans ?_
     exact kg)
    have hw540 : (f10 (nar .byte ((ch p0 (0 : Int32)).toInt8.toInt32)) (nar .byte ((ch p0 ((0 : Int32) + (8 : Int32))).toInt8.toInt32)) (nar .byte ((ch p0 (16 : Int32)).toInt8.toInt32)) (nar .byte ((ch p0 ((16 : Int32) + (8 : Int32))).toInt8.toInt32)) (nar .byte ((ch p1 (0 : Int32)).toInt8.toInt32)) (nar .byte ((ch p1 ((0 : Int32) + (8 : Int32))).toInt8.toInt32)) (nar .byte ((ch p1 (16 : Int32)).toInt8.toInt32)) (nar .byte ((ch p1 ((16 : Int32) + (8 : Int32))).toInt8.toInt32)) (nar .byte ((ch p2 (0 : Int32)).toInt8.toInt32)) (nar .byte ((ch p2 ((0 : Int32) + (8 : Int32))).toInt8.toInt32)) (nar .byte ((ch p2 (16 : Int32)).toInt8.toInt32)) (nar .byte ((ch p2 ((16 : Int32) + (8 : Int32))).toInt8.toInt32))) = (1 : Int32) := by rw [own_ab]; unfold ref3; simp [hc297, hc378, hc459]
    have pre540 : ∀ tg, AT p e below T538 m 84 #[iv p0, iv p1, iv p2, rv b1, rv b76, iv (1 : Int32), un, un, un, un, un] [(.int (1 : Int32))] tg → Steps p.tables e below S0 tg := by
      have q := pre539
      rw [hw540] at q
      exact q
    obtain ⟨cq541, kq541, q541a, q541b, q541c⟩ := isOf hZ e538 E259_279
    obtain ⟨_, _, ⟨T541, L541, k541, n541⟩, -, X541, ⟨Lc541, hQ541, l541, y541, z541⟩, st541⟩ := X538.virtualBack hx (y := y10) (z := y10) hown (mvT hZ (ow hw 50 rfl)) (mvT hZ (ow hw 51 rfl)) (notFace_of_selects (args := #[]) (mvT hZ (ow hw 53 rfl))) (mvT hZ (ow hw 53 rfl)) (mvT hZ (ow hw 52 rfl)) (by decide) (backOf (W := 0) (rm10 l Z ar hw [] b76 b1 w_CS0 w_SF1 t_106 b_106 kb_106 (nar .byte ((ch p0 (16 : Int32)).toInt8.toInt32)) (nar .byte ((ch p0 ((16 : Int32) + (8 : Int32))).toInt8.toInt32)) t_5 b_5 kb_5 (nar .byte ((ch p0 (0 : Int32)).toInt8.toInt32)) (nar .byte ((ch p0 ((0 : Int32) + (8 : Int32))).toInt8.toInt32)) t_148 b_148 kb_148 (nar .byte ((ch p1 (16 : Int32)).toInt8.toInt32)) (nar .byte ((ch p1 ((16 : Int32) + (8 : Int32))).toInt8.toInt32)) t_14 b_14 kb_14 (nar .byte ((ch p1 (0 : Int32)).toInt8.toInt32)) (nar .byte ((ch p1 ((0 : Int32) + (8 : Int32))).toInt8.toInt32)) t_199 b_199 kb_199 (nar .byte ((ch p2 (16 : Int32)).toInt8.toInt32)) (nar .byte ((ch p2 ((16 : Int32) + (8 : Int32))).toInt8.toInt32)) t_32 b_32 kb_32 (nar .byte ((ch p2 (0 : Int32)).toInt8.toInt32)) (nar .byte ((ch p2 ((0 : Int32) + (8 : Int32))).toInt8.toInt32)) T259.heap n0 O259 HW E259_279 E259_260 u259_1 E259_280 F259_281 F259_282 V259_283 F259_276 E259_261 F259_262 F259_263 V259_264 (Ne.symm ne132) u259_2 E259_285 F259_286 F259_287 V259_288 F259_277 E259_266 F259_267 F259_268 V259_269 (Ne.symm ne181) u259_3 E259_290 F259_291 F259_292 V259_293 F259_278 E259_271 F259_272 F259_273 V259_274 (Ne.symm ne239)) hZ (ow hw 54 rfl) (ow hw 2 rfl) (by decide) (by decide)) q541a q541c (g := (mkF m 89 #[iv p0, iv p1, iv p2, rv b1, rv b76, iv (1 : Int32), iv (1 : Int32), un, un, un, un] [(.ref b1), (.ref b76)])) rfl (by rw [hml]; rfl) (Steps.refl _) (argsL := [(.ref b1)]) (rest := []) (lenOf pd_6 rfl) rfl (by show 2 * 0 + _ ≤ _; exact Nat.le_of_eq rfl) (hb hby at_89) (fun _ _ => ⟨rfl, e538, (by decide : 20 + 0 ≤ _), (by decide : 54 + 0 ≤ _)⟩)
    dsimp only [Pt.U, Pt.locs, Pt.cells, Pt.slots] at X541 l541 y541 z541 st541 hQ541
    subst l541 y541 z541
    obtain ⟨rfl, N541q, e541⟩ := hQ541
    have N541 := Fr.app N538 N541q
    have pre542 : ∀ tg, AT p e below T541 m 92 #[iv p0, iv p1, iv p2, rv b1, rv b76, iv (1 : Int32), iv (1 : Int32), un, un, un, un] [(.int (f10 (nar .byte ((ch p0 (16 : Int32)).toInt8.toInt32)) (nar .byte ((ch p0 ((16 : Int32) + (8 : Int32))).toInt8.toInt32)) (nar .byte ((ch p0 (0 : Int32)).toInt8.toInt32)) (nar .byte ((ch p0 ((0 : Int32) + (8 : Int32))).toInt8.toInt32)) (nar .byte ((ch p1 (16 : Int32)).toInt8.toInt32)) (nar .byte ((ch p1 ((16 : Int32) + (8 : Int32))).toInt8.toInt32)) (nar .byte ((ch p1 (0 : Int32)).toInt8.toInt32)) (nar .byte ((ch p1 ((0 : Int32) + (8 : Int32))).toInt8.toInt32)) (nar .byte ((ch p2 (16 : Int32)).toInt8.toInt32)) (nar .byte ((ch p2 ((16 : Int32) + (8 : Int32))).toInt8.toInt32)) (nar .byte ((ch p2 (0 : Int32)).toInt8.toInt32)) (nar .byte ((ch p2 ((0 : Int32) + (8 : Int32))).toInt8.toInt32))))] tg → Steps p.tables e below S0 tg := fun tg kg => pre540 tg (by
     refine XS.istore X538.here hx rfl (hb hby at_84) rfl (l' := #[iv p0, iv p1, iv p2, rv b1, rv b76, iv (1 : Int32), iv (1 : Int32), un, un, un, un]) rfl ?_
     refine XS.aload X538.here hx rfl (hb hby at_86) rfl rfl ?_
     refine XS.aloadN X538.here hx rfl (hb hby at_88) rfl rfl ?_
     refine st541.trans ?_
     exact kg)
    have hw543 : (f10 (nar .byte ((ch p0 (16 : Int32)).toInt8.toInt32)) (nar .byte ((ch p0 ((16 : Int32) + (8 : Int32))).toInt8.toInt32)) (nar .byte ((ch p0 (0 : Int32)).toInt8.toInt32)) (nar .byte ((ch p0 ((0 : Int32) + (8 : Int32))).toInt8.toInt32)) (nar .byte ((ch p1 (16 : Int32)).toInt8.toInt32)) (nar .byte ((ch p1 ((16 : Int32) + (8 : Int32))).toInt8.toInt32)) (nar .byte ((ch p1 (0 : Int32)).toInt8.toInt32)) (nar .byte ((ch p1 ((0 : Int32) + (8 : Int32))).toInt8.toInt32)) (nar .byte ((ch p2 (16 : Int32)).toInt8.toInt32)) (nar .byte ((ch p2 ((16 : Int32) + (8 : Int32))).toInt8.toInt32)) (nar .byte ((ch p2 (0 : Int32)).toInt8.toInt32)) (nar .byte ((ch p2 ((0 : Int32) + (8 : Int32))).toInt8.toInt32))) = (1 : Int32) := by rw [own_ba]; unfold ref3; simp [hc297, hc378, hc459]
    have pre543 : ∀ tg, AT p e below T541 m 92 #[iv p0, iv p1, iv p2, rv b1, rv b76, iv (1 : Int32), iv (1 : Int32), un, un, un, un] [(.int (1 : Int32))] tg → Steps p.tables e below S0 tg := by
      have q := pre542
      rw [hw543] at q
      exact q
    obtain ⟨cq544, kq544, q544a, q544b, q544c⟩ := isOf hZ e541 E259_260
    obtain ⟨_, _, ⟨T544, L544, k544, n544⟩, -, X544, ⟨Lc544, hQ544, l544, y544, z544⟩, st544⟩ := X541.virtualBack hx (y := y10) (z := y10) hown (mvT hZ (ow hw 50 rfl)) (mvT hZ (ow hw 51 rfl)) (notFace_of_selects (args := #[]) (mvT hZ (ow hw 53 rfl))) (mvT hZ (ow hw 53 rfl)) (mvT hZ (ow hw 52 rfl)) (by decide) (backOf (W := 0) (rm10s l Z ar hw [] b1 t_5 t_14 t_32 T259.heap n0 O259 E259_260 F259_276 E259_261 F259_277 E259_266 F259_278 E259_271) hZ (ow hw 54 rfl) (ow hw 2 rfl) (by decide) (by decide)) q544a q544c (g := (mkF m 96 #[iv p0, iv p1, iv p2, rv b1, rv b76, iv (1 : Int32), iv (1 : Int32), iv (1 : Int32), un, un, un] [(.ref b1), (.ref b1)])) rfl (by rw [hml]; rfl) (Steps.refl _) (argsL := [(.ref b1)]) (rest := []) (lenOf pd_6 rfl) rfl (by show 2 * 0 + _ ≤ _; exact Nat.le_of_eq rfl) (hb hby at_96) (fun _ _ => ⟨rfl, e541, (by decide : 20 + 0 ≤ _), (by decide : 54 + 0 ≤ _)⟩)
    dsimp only [Pt.U, Pt.locs, Pt.cells, Pt.slots] at X544 l544 y544 z544 st544 hQ544
    subst l544 y544 z544
    obtain ⟨rfl, N544q, e544⟩ := hQ544
    have N544 := Fr.app N541 N544q
    obtain ⟨cq545, kq545, q545a, q545b, q545c⟩ := isOf hZ e544 E259_260
    obtain ⟨_, _, ⟨T545, L545, k545, n545⟩, -, X545, ⟨Lc545, hQ545, l545, y545, z545⟩, st545⟩ := X544.virtualBack hx (y := y10) (z := y10) hown (mvT hZ (ow hw 50 rfl)) (mvT hZ (ow hw 51 rfl)) (notFace_of_selects (args := #[]) (mvT hZ (ow hw 53 rfl))) (mvT hZ (ow hw 53 rfl)) (mvT hZ (ow hw 52 rfl)) (by decide) (backOf (W := 0) (rm10n l Z ar hw [] b1 T259.heap n0 O259 E259_260) hZ (ow hw 54 rfl) (ow hw 2 rfl) (by decide) (by decide)) q545a q545c (g := (mkF m 103 #[iv p0, iv p1, iv p2, rv b1, rv b76, iv (1 : Int32), iv (1 : Int32), iv (1 : Int32), iv (1 : Int32), un, un] [.null, (.ref b1)])) rfl (by rw [hml]; rfl) (Steps.refl _) (argsL := [.null]) (rest := []) (lenOf pd_6 rfl) rfl (by show 2 * 0 + _ ≤ _; exact Nat.le_of_eq rfl) (hb hby at_103) (fun _ _ => ⟨rfl, e544, (by decide : 20 + 0 ≤ _), (by decide : 54 + 0 ≤ _)⟩)
    dsimp only [Pt.U, Pt.locs, Pt.cells, Pt.slots] at X545 l545 y545 z545 st545 hQ545
    subst l545 y545 z545
    obtain ⟨rfl, N545q, e545⟩ := hQ545
    have N545 := Fr.app N544 N545q
    obtain ⟨_, _, ⟨T546, L546, k546, n546⟩, -, X546, ⟨Lc546, hQ546, l546, y546, z546⟩, st546⟩ := Jvm.LawKit.callS X545 hx (y := y1) hown (mvT hZ (ow hw 3 rfl)) (mvT hZ (ow hw 4 rfl)) (mvT hZ (ow hw 5 rfl)) (mvT hZ (ow hw 6 rfl)) (by decide) (backOf (W := 1) (rm1 l Z ar hw [] p0 (0 : Int32) w_CS0 w_SF1 T259.heap n0 O259 HW) hZ (ow hw 6 rfl) (ow hw 5 rfl) (by decide) (by decide)) (g := (mkF m 111 #[iv p0, iv p1, iv p2, rv b1, rv b76, iv (1 : Int32), iv (1 : Int32), iv (1 : Int32), iv (1 : Int32), iv (0 : Int32), un] [(.int (0 : Int32)), (.int p0), (.ref b1)])) rfl (by rw [hml]; rfl) (argsL := [(.int p0), (.int (0 : Int32))]) (rest := [(.ref b1)]) (lenOf pd_7 rfl) rfl (by show 2 * 0 + _ ≤ _; exact Nat.le_of_eq rfl) (hb hby at_111) (fun _ _ => ⟨rfl, e545, (by decide : 20 + 3 ≤ _), (by decide : 54 + 8 ≤ _)⟩)
    dsimp only [Pt.U, Pt.locs, Pt.cells, Pt.slots] at X546 l546 y546 z546 st546 hQ546
    subst l546 y546 z546
    obtain ⟨t_546, b_546, kb_546, rfl, N546q, Kq546, u546_0, u546_1, u546_2, u546_3, u546_4, u546_5, u546_6, u546_7⟩ := hQ546
    have N546 := Fr.app N545 N546q
    have E546_547 := E259_260.keep Kq546
    have E546_548 := E259_261.keep Kq546
    have F546_549 := F259_262.keep Kq546 nin0
    have F546_550 := F259_263.keep Kq546 nin0
    have V546_551 := V259_264.keep Kq546 nin0
    have E546_552 := E259_265.keep Kq546
    have E546_553 := E259_266.keep Kq546
    have F546_554 := F259_267.keep Kq546 nin0
    have F546_555 := F259_268.keep Kq546 nin0
    have V546_556 := V259_269.keep Kq546 nin0
    have E546_557 := E259_270.keep Kq546
    have E546_558 := E259_271.keep Kq546
    have F546_559 := F259_272.keep Kq546 nin0
    have F546_560 := F259_273.keep Kq546 nin0
    have V546_561 := V259_274.keep Kq546 nin0
    have E546_562 := E259_275.keep Kq546
    have F546_563 := F259_276.keep Kq546 nin0
    have F546_564 := F259_277.keep Kq546 nin0
    have F546_565 := F259_278.keep Kq546 nin0
    have E546_566 := E259_279.keep Kq546
    have E546_567 := E259_280.keep Kq546
    have F546_568 := F259_281.keep Kq546 nin0
    have F546_569 := F259_282.keep Kq546 nin0
    have V546_570 := V259_283.keep Kq546 nin0
    have E546_571 := E259_284.keep Kq546
    have E546_572 := E259_285.keep Kq546
    have F546_573 := F259_286.keep Kq546 nin0
    have F546_574 := F259_287.keep Kq546 nin0
    have V546_575 := V259_288.keep Kq546 nin0
    have E546_576 := E259_289.keep Kq546
    have E546_577 := E259_290.keep Kq546
    have F546_578 := F259_291.keep Kq546 nin0
    have F546_579 := F259_292.keep Kq546 nin0
    have V546_580 := V259_293.keep Kq546 nin0
    have E546_581 := E259_294.keep Kq546
    have F546_582 := u259_1.keep Kq546 nin0
    have F546_583 := u259_2.keep Kq546 nin0
    have F546_584 := u259_3.keep Kq546 nin0
    have K546 := K259.trans Kq546 all0
    have O546 := O259.keep Kq546 all0
    have sz585 : h0.size ≤ t_546 := Nat.le_trans K259.1 u546_5
    have gn585 : n0 ≤ t_546 := Nat.le_trans (Nat.le_trans (Nat.le_of_eq O259.1.symm) O259.2.1) u546_5
    have ne586 : b1 ≠ t_546 := Nat.ne_of_lt (Nat.lt_of_lt_of_le (E259_260).lt u546_5)
    have ne587 : t_5 ≠ t_546 := Nat.ne_of_lt (Nat.lt_of_lt_of_le (E259_261).lt u546_5)
    have ne588 : b_5 ≠ t_546 := Nat.ne_of_lt (Nat.lt_of_lt_of_le (V259_264).lt u546_5)
    have ne589 : t_14 ≠ t_546 := Nat.ne_of_lt (Nat.lt_of_lt_of_le (E259_266).lt u546_5)
    have ne590 : b_14 ≠ t_546 := Nat.ne_of_lt (Nat.lt_of_lt_of_le (V259_269).lt u546_5)
    have ne591 : t_32 ≠ t_546 := Nat.ne_of_lt (Nat.lt_of_lt_of_le (E259_271).lt u546_5)
    have ne592 : b_32 ≠ t_546 := Nat.ne_of_lt (Nat.lt_of_lt_of_le (V259_274).lt u546_5)
    have ne593 : b76 ≠ t_546 := Nat.ne_of_lt (Nat.lt_of_lt_of_le (E259_279).lt u546_5)
    have ne594 : t_106 ≠ t_546 := Nat.ne_of_lt (Nat.lt_of_lt_of_le (E259_280).lt u546_5)
    have ne595 : b_106 ≠ t_546 := Nat.ne_of_lt (Nat.lt_of_lt_of_le (V259_283).lt u546_5)
    have ne596 : t_148 ≠ t_546 := Nat.ne_of_lt (Nat.lt_of_lt_of_le (E259_285).lt u546_5)
    have ne597 : b_148 ≠ t_546 := Nat.ne_of_lt (Nat.lt_of_lt_of_le (V259_288).lt u546_5)
    have ne598 : t_199 ≠ t_546 := Nat.ne_of_lt (Nat.lt_of_lt_of_le (E259_290).lt u546_5)
    have ne599 : b_199 ≠ t_546 := Nat.ne_of_lt (Nat.lt_of_lt_of_le (V259_293).lt u546_5)
    have sz600 : h0.size ≤ b_546 := Nat.le_trans K259.1 u546_6
    have gn600 : n0 ≤ b_546 := Nat.le_trans (Nat.le_trans (Nat.le_of_eq O259.1.symm) O259.2.1) u546_6
    have ne601 : b1 ≠ b_546 := Nat.ne_of_lt (Nat.lt_of_lt_of_le (E259_260).lt u546_6)
    have ne602 : t_5 ≠ b_546 := Nat.ne_of_lt (Nat.lt_of_lt_of_le (E259_261).lt u546_6)
    have ne603 : b_5 ≠ b_546 := Nat.ne_of_lt (Nat.lt_of_lt_of_le (V259_264).lt u546_6)
    have ne604 : t_14 ≠ b_546 := Nat.ne_of_lt (Nat.lt_of_lt_of_le (E259_266).lt u546_6)
    have ne605 : b_14 ≠ b_546 := Nat.ne_of_lt (Nat.lt_of_lt_of_le (V259_269).lt u546_6)
    have ne606 : t_32 ≠ b_546 := Nat.ne_of_lt (Nat.lt_of_lt_of_le (E259_271).lt u546_6)
    have ne607 : b_32 ≠ b_546 := Nat.ne_of_lt (Nat.lt_of_lt_of_le (V259_274).lt u546_6)
    have ne608 : b76 ≠ b_546 := Nat.ne_of_lt (Nat.lt_of_lt_of_le (E259_279).lt u546_6)
    have ne609 : t_106 ≠ b_546 := Nat.ne_of_lt (Nat.lt_of_lt_of_le (E259_280).lt u546_6)
    have ne610 : b_106 ≠ b_546 := Nat.ne_of_lt (Nat.lt_of_lt_of_le (V259_283).lt u546_6)
    have ne611 : t_148 ≠ b_546 := Nat.ne_of_lt (Nat.lt_of_lt_of_le (E259_285).lt u546_6)
    have ne612 : b_148 ≠ b_546 := Nat.ne_of_lt (Nat.lt_of_lt_of_le (V259_288).lt u546_6)
    have ne613 : t_199 ≠ b_546 := Nat.ne_of_lt (Nat.lt_of_lt_of_le (E259_290).lt u546_6)
    have ne614 : b_199 ≠ b_546 := Nat.ne_of_lt (Nat.lt_of_lt_of_le (V259_293).lt u546_6)
    obtain ⟨cq615, kq615, q615a, q615b, q615c⟩ := isOf hZ rfl E546_547
    obtain ⟨_, _, ⟨T615, L615, k615, n615⟩, -, X615, ⟨Lc615, hQ615, l615, y615, z615⟩, st615⟩ := X546.virtualBack hx (y := y10) (z := y10) hown (mvT hZ (ow hw 50 rfl)) (mvT hZ (ow hw 51 rfl)) (notFace_of_selects (args := #[]) (mvT hZ (ow hw 53 rfl))) (mvT hZ (ow hw 53 rfl)) (mvT hZ (ow hw 52 rfl)) (by decide) (backOf (W := 0) (rm10t l Z ar hw [] b1 t_546 T546.heap n0 O546 E546_547 u546_0) hZ (ow hw 54 rfl) (ow hw 2 rfl) (by decide) (by decide)) q615a q615c (g := (mkF m 114 #[iv p0, iv p1, iv p2, rv b1, rv b76, iv (1 : Int32), iv (1 : Int32), iv (1 : Int32), iv (1 : Int32), iv (0 : Int32), un] [(.ref t_546), (.ref b1)])) rfl (by rw [hml]; rfl) (Steps.refl _) (argsL := [(.ref t_546)]) (rest := []) (lenOf pd_6 rfl) rfl (by show 2 * 0 + _ ≤ _; exact Nat.le_of_eq rfl) (hb hby at_114) (fun _ _ => ⟨rfl, rfl, (by decide : 23 + 0 ≤ _), (by decide : 62 + 0 ≤ _)⟩)
    dsimp only [Pt.U, Pt.locs, Pt.cells, Pt.slots] at X615 l615 y615 z615 st615 hQ615
    subst l615 y615 z615
    obtain ⟨rfl, N615q, e615⟩ := hQ615
    have N615 := Fr.app N546 N615q
    clear E259_260 E259_261 F259_262 F259_263 V259_264 E259_265 E259_266 F259_267 F259_268 V259_269 E259_270 E259_271 F259_272 F259_273 V259_274 E259_275 F259_276 F259_277 F259_278 E259_279 E259_280 F259_281 F259_282 V259_283 E259_284 E259_285 F259_286 F259_287 V259_288 E259_289 E259_290 F259_291 F259_292 V259_293 E259_294
    obtain ⟨fs, hr, hrun, hended, hW, hsame⟩ := X615.leave (v := some (.int (1 : Int32))) (fun h => by rw [Bd.returns] at h; cases h) hlk
    subst hS0
    refine ⟨_, _, pre543 _ ?_, hrun, hended, _, _, rfl, ?_, ⟨_, rfl⟩, hW, hsame.mono (by decide) (by decide)⟩
    ·
     refine XS.istore X541.here hx rfl (hb hby at_92) rfl (l' := #[iv p0, iv p1, iv p2, rv b1, rv b76, iv (1 : Int32), iv (1 : Int32), iv (1 : Int32), un, un, un]) rfl ?_
     refine XS.aloadN X541.here hx rfl (hb hby at_94) rfl rfl ?_
     refine XS.aloadN X541.here hx rfl (hb hby at_95) rfl rfl ?_
     refine st544.trans ?_
     show AT p e below T544 m 99 #[iv p0, iv p1, iv p2, rv b1, rv b76, iv (1 : Int32), iv (1 : Int32), iv (1 : Int32), un, un, un] [(.int (1 : Int32))] _
     refine XS.istore X544.here hx rfl (hb hby at_99) rfl (l' := #[iv p0, iv p1, iv p2, rv b1, rv b76, iv (1 : Int32), iv (1 : Int32), iv (1 : Int32), iv (1 : Int32), un, un]) rfl ?_
     refine XS.aloadN X544.here hx rfl (hb hby at_101) rfl rfl ?_
     refine XS.aconstNull X544.here hx rfl (hb hby at_102) ?_
     refine st545.trans ?_
     show AT p e below T545 m 106 #[iv p0, iv p1, iv p2, rv b1, rv b76, iv (1 : Int32), iv (1 : Int32), iv (1 : Int32), iv (1 : Int32), un, un] [(.int (0 : Int32))] _
     refine XS.istore X545.here hx rfl (hb hby at_106) rfl (l' := #[iv p0, iv p1, iv p2, rv b1, rv b76, iv (1 : Int32), iv (1 : Int32), iv (1 : Int32), iv (1 : Int32), iv (0 : Int32), un]) rfl ?_
     refine XS.aloadN X545.here hx rfl (hb hby at_108) rfl rfl ?_
     refine XS.iloadN X545.here hx rfl (hb hby at_109) rfl ?_
     refine XS.iconst X545.here hx rfl (hb hby at_110) ?_
     show AT p e below T545 m 111 #[iv p0, iv p1, iv p2, rv b1, rv b76, iv (1 : Int32), iv (1 : Int32), iv (1 : Int32), iv (1 : Int32), iv (0 : Int32), un] [(.int (0 : Int32)), (.int p0), (.ref b1)] _
     refine st546 _ ?_
     refine st615.trans ?_
     refine XS.istore X615.here hx rfl (hb hby at_117) rfl (l' := #[iv p0, iv p1, iv p2, rv b1, rv b76, iv (1 : Int32), iv (1 : Int32), iv (1 : Int32), iv (1 : Int32), iv (0 : Int32), iv (0 : Int32)]) rfl ?_
     refine XS.iload X615.here hx rfl (hb hby at_119) rfl ?_
     show AT p e below T615 m 121 #[iv p0, iv p1, iv p2, rv b1, rv b76, iv (1 : Int32), iv (1 : Int32), iv (1 : Int32), iv (1 : Int32), iv (0 : Int32), iv (0 : Int32)] [(.int (1 : Int32))] _
     refine XS.iload X615.here hx rfl (hb hby at_121) rfl ?_
     show AT p e below T615 m 123 #[iv p0, iv p1, iv p2, rv b1, rv b76, iv (1 : Int32), iv (1 : Int32), iv (1 : Int32), iv (1 : Int32), iv (0 : Int32), iv (0 : Int32)] [(.int (1 : Int32)), (.int (1 : Int32))] _
     refine XS.icmpNo X615.here hx rfl (hb hby at_123) rfl (XT.ii_ne_f ((by decide) : (1 : Int32) = (1 : Int32))) ?_
     refine XS.iload X615.here hx rfl (hb hby at_126) rfl ?_
     refine XS.iload X615.here hx rfl (hb hby at_128) rfl ?_
     show AT p e below T615 m 130 #[iv p0, iv p1, iv p2, rv b1, rv b76, iv (1 : Int32), iv (1 : Int32), iv (1 : Int32), iv (1 : Int32), iv (0 : Int32), iv (0 : Int32)] [(.int (1 : Int32)), (.int (1 : Int32))] _
     refine XS.icmpNo X615.here hx rfl (hb hby at_130) rfl (XT.ii_ne_f ((by decide) : (1 : Int32) = (1 : Int32))) ?_
     refine XS.iload X615.here hx rfl (hb hby at_133) rfl ?_
     show AT p e below T615 m 135 #[iv p0, iv p1, iv p2, rv b1, rv b76, iv (1 : Int32), iv (1 : Int32), iv (1 : Int32), iv (1 : Int32), iv (0 : Int32), iv (0 : Int32)] [(.int (1 : Int32))] _
     refine XS.ifNo X615.here hx rfl (hb hby at_135) rfl (XT.i0_eq_f ((by decide) : ¬ ((1 : Int32) = (0 : Int32)))) ?_
     show AT p e below T615 m 138 #[iv p0, iv p1, iv p2, rv b1, rv b76, iv (1 : Int32), iv (1 : Int32), iv (1 : Int32), iv (1 : Int32), iv (0 : Int32), iv (0 : Int32)] [] _
     refine XS.iload X615.here hx rfl (hb hby at_138) rfl ?_
     show AT p e below T615 m 140 #[iv p0, iv p1, iv p2, rv b1, rv b76, iv (1 : Int32), iv (1 : Int32), iv (1 : Int32), iv (1 : Int32), iv (0 : Int32), iv (0 : Int32)] [(.int (0 : Int32))] _
     refine XS.ifNo X615.here hx rfl (hb hby at_140) rfl (XT.i0_ne_f ((by decide) : (0 : Int32) = (0 : Int32))) ?_
     refine XS.iload X615.here hx rfl (hb hby at_143) rfl ?_
     show AT p e below T615 m 145 #[iv p0, iv p1, iv p2, rv b1, rv b76, iv (1 : Int32), iv (1 : Int32), iv (1 : Int32), iv (1 : Int32), iv (0 : Int32), iv (0 : Int32)] [(.int (0 : Int32))] _
     refine XS.ifNo X615.here hx rfl (hb hby at_145) rfl (XT.i0_ne_f ((by decide) : (0 : Int32) = (0 : Int32))) ?_
     refine XS.iconst X615.here hx rfl (hb hby at_148) ?_
     refine XS.goto X615.here hx rfl (pc0 := 149) (pc' := 153) rfl (hb hby at_149) (by decide) (by decide) ?_
     show AT p e below T615 m 153 #[iv p0, iv p1, iv p2, rv b1, rv b76, iv (1 : Int32), iv (1 : Int32), iv (1 : Int32), iv (1 : Int32), iv (0 : Int32), iv (0 : Int32)] [(.int (1 : Int32))] _
     exact retN X615 hx (t := .boolean) Bd.returns (by simp) (hb hby at_153) hr
    ·
     show Q0 Z p0 p1 p2 w_CS0 w_SF1 h0 n0 _ T615.heap _
     rw [e615]
     exact ⟨rfl, N615⟩

set_option maxRecDepth 65536 in
set_option maxHeartbeats 40000000 in
theorem comes_1 {Post : Tables → Env → Array Value → State → Outcome → State → Prop} (hpost : ∀ tb e args s v u, (limb_1_1.after args s (.returned v) u = true ∧ limb_1_2.after args s (.returned v) u = true ∧ True) → FrameEnd s (.returned v) u (Jvm.fieldLocs frame_1_writes args s ++ Jvm.arrayLocs frame_1_arrays args s ++ Jvm.staticLocs frame_1_statics s) 56 192 → Post tb e args s (.returned v) u) :
    ArmFor flags0 classFile x code maxLocals ret World_1 tables_1 room_1 Calls_1 rest_1 Pre_1 Post := by
  intro l hfl _ _ p e ha hc hk s m args below hf hA hF happ hP
  obtain ⟨hcalls, hrest, hpre⟩ := hP
  obtain ⟨-, -, -, hnamed, -, -, -, hat⟩ := (Spec.applies_iff hf).mp happ
  obtain ⟨hg, hn⟩ := and_e (Cond.before_iff.mp (show (Jvm.Cond.and given_1 narrow_1).before args s = true from hpre))
  obtain ⟨hg1, hg2⟩ := and_e hg
  obtain ⟨hg21, hg22⟩ := and_e hg2
  obtain ⟨hg221, hg222⟩ := and_e hg22
  obtain ⟨w0, w1, w2, rfl⟩ : ∃ w0 w1 w2 : Value, args = #[w0, w1, w2] := by
    have hs : args.size = 3 := by simpa [Cond.value, given_1] using hg1
    obtain ⟨L⟩ := args
    match L, hs with
    | [w0, w1, w2], _ => exact ⟨w0, w1, w2, rfl⟩
  have hw := fun d (hd : d ∈ tables_1) => atoms_spec (ws := Jvm.Cond.code x code maxLocals ret :: tables_1) hat d (List.mem_cons_of_mem _ hd)
  have hfit : Fit s := fun {y c} hc i hi => by
    obtain ⟨ha, rfl⟩ := Array.getElem?_eq_some_iff.mp hc
    have q := List.all_eq_true.mp ((Array.all_eq_true_iff_forall_mem.mp hF) _ (Array.getElem_mem ha)) i (List.mem_range.mpr hi)
    simpa [Array.getElem?_eq_getElem hi] using q
  obtain ⟨hsets, hown0⟩ := atoms_of _ (rest_1_c_eq ▸ (show rest_1_c.before _ s = true from hrest))
  have hr0 := Cond.before_iff.mp hown0
  obtain ⟨i0, ei0⟩ := is_v hg21
  obtain rfl : w0 = (.int i0) := Option.some.inj ei0
  obtain ⟨i1, ei1⟩ := is_v hg221
  obtain rfl : w1 = (.int i1) := Option.some.inj ei1
  obtain ⟨i2, ei2⟩ := is_v hg222
  obtain rfl : w2 = (.int i2) := Option.some.inj ei2
  have hs1 := Cond.before_iff.mp (hsets _ (List.mem_of_getElem? (i := 1) rfl))
  have hs2 := Cond.before_iff.mp (hsets _ (List.mem_of_getElem? (i := 2) rfl))
  have hs8 := Cond.before_iff.mp (hsets _ (List.mem_of_getElem? (i := 8) rfl))
  obtain ⟨w_CS0, ev_w_CS0⟩ := is_v hs1
  have S_COMPACT_STRINGS : Sta s s.heap "java/lang/String" "COMPACT_STRINGS" "Z" (.int w_CS0) := Sta.start ev_w_CS0 (Or.inl (hsets _ (List.mem_of_getElem? (i := 0) rfl)))
  have hz_w_CS0 : ¬ w_CS0 = (0 : Int32) := own_neInt ev_w_CS0 hs2
  obtain ⟨w_SF1, ev_w_SF1, ir_w_SF1⟩ := isR_v hs8
  have S_SIOOBE_FORMATTER : Sta s s.heap "jdk/internal/util/Preconditions" "SIOOBE_FORMATTER" "Ljava/util/function/BiFunction;" w_SF1 := Sta.start ev_w_SF1 (Or.inl (hsets _ (List.mem_of_getElem? (i := 7) rfl)))
  have HW : Wd s w_CS0 w_SF1 := ⟨S_COMPACT_STRINGS, hz_w_CS0, S_SIOOBE_FORMATTER, ir_w_SF1⟩
  obtain ⟨n, o, h1, h2, h3, _, L, rfl, ⟨rfl, N⟩, hq⟩ := rm0 l s _ hw tables_1 i0 i1 i2 w_CS0 w_SF1 s.heap s.heap.size (Old.start s) HW p e ha hc hk s m _ below hf ((Spec.applies_iff_loose hf).mp happ).1 ⟨rfl, State.Warmed39.refl s, rfl⟩ trivial
  refine ⟨n, _, h1, h2, h3, hpost _ _ _ _ _ _ ⟨Cond.after_iff.mpr rfl, Cond.after_iff.mpr (eq_i res_at (Term.int_eval (1)) rfl), trivial⟩ ⟨hq.1, hq.2.1, (hq.2.2.sift fun y hy => Or.inr (N y hy)).mono (by decide) (by decide)⟩⟩
theorem main_1_1 : Claimed_1_1 := comes_1 fun _ _ _ _ _ _ h hF => ⟨h.1, hF⟩
theorem main_1_2 : Claimed_1_2 := comes_1 fun _ _ _ _ _ _ h hF => ⟨h.2.1, hF⟩
end Jvm.Pilot.@@N@@
namespace Jvm.Pilot.@@N@@
open Jvm Jvm.ClassFile Sem Op Lib Jvm.Free Jvm.Stand Jvm.Pilot.@@N@@.Jvm.D
/-! MADE BY PROGRAM (witnessworld.py) out of the Statement's table words and the real class files: 20 classes; the members and pool entries that the words name. The judged class is class 1, her method 3. -/
namespace start1
open Jvm.ClassFile
def u (s : String) : CpInfo := .utf8 (stringToUtf16 s)
/-- a pool by its gaps: so many unusable entries, then the entry; so many at the end -/
def gap : Nat → List CpInfo → List CpInfo
  | 0, r => r
  | n + 1, r => .unusable :: gap n r
def poolList (es : List (Nat × CpInfo)) (last : Nat) : List CpInfo := es.foldr (fun e r => gap e.1 (e.2 :: r)) (gap last [])
def pool (es : List (Nat × CpInfo)) (last : Nat) : Array CpInfo := ⟨poolList es last⟩
def fileOf (pool : Array CpInfo) (this : Nat) (attrs : Array Attribute := #[]) (ms : Array MethodInfo := #[]) (fl : Nat := 33) (sup : Nat := 0) (ifs : Array Nat := #[]) (fds : Array FieldInfo := #[]) : ClassFile where
  minorVersion := 0
  majorVersion := 65
  constantPool := pool
  accessFlags := fl
  thisClass := this
  superClass := sup
  interfaces := ifs
  fields := fds
  methods := ms
  attributes := attrs
def plain (name : String) (sup : Option ClassId) : Class where
  name := name
  kind := .ordinary
  loader := none
  accessFlags := 33
  super := sup
  interfaces := #[]
  cf := none
  fields := #[]
  methods := #[]
  instanceTypes := #[]
  staticTypes := #[]
  resolved := #[]
  callSites := []
  init := .initialized
  statics := none
  mirror := none

def pool0 : Array CpInfo := pool [(5, u "<init>"), (0, u "()V"), (1, .class_ 10), (1, u "java/lang/Object")] 113

def k0c0 : Code := { maxStack := 0, maxLocals := 1, code := object_method_1_code, exceptionTable := #[], attributes := #[] }
def k0m0 : Method := { name := "<init>", desc := "()V", sig := { parameters := [], returnType := none }, accessFlags := 1, code := some k0c0 }
/-- java/lang/Object -/
def k0 : Class := { plain "java/lang/Object" none with
  accessFlags := 33
  interfaces := #[]
  cf := some (fileOf pool0 8 #[] #[{ accessFlags := 1, nameIndex := 5, descriptorIndex := 6, attributes := #[] }] 33 0 #[] #[])
  fields := #[]
  methods := #[k0m0]
  instanceTypes := #[]
  staticTypes := #[]
  resolved := Array.replicate 124 none
  statics := none }

def pool1 : Array CpInfo := pool [(2, .class_ 4), (1, u "java/lang/Object"), (0, u "<init>"), (0, u "()V"), (0, .class_ 8), (0, u "java/lang/String"), (0, .methodref 7 10), (0, .nameAndType 5 11), (0, u "([C)V"), (0, .class_ 13), (0, u "com/example/minderd/minderd/process/Owner"), (0, .methodref 15 16), (0, .class_ 17), (0, .nameAndType 18 19), (0, u "com/example/minderd/minderd/process/OwnerEqualsPinLaw"), (0, u "two"), (0, u "(II)Ljava/lang/String;"), (0, .methodref 12 21), (0, .nameAndType 5 22), (0, u "(Ljava/lang/String;Ljava/lang/String;Ljava/lang/String;)V"), (0, .methodref 15 24), (0, .nameAndType 25 26), (0, u "same"), (0, u "(I)Z"), (0, .methodref 12 28), (0, .nameAndType 29 30), (0, u "equals"), (0, u "(Ljava/lang/Object;)Z"), (3, u "law"), (0, u "(III)Z")] 2

def k1m0 : Method := { name := "<init>", desc := "()V", sig := { parameters := [], returnType := none }, accessFlags := 1, code := none }
def k1c1 : Code := { maxStack := 5, maxLocals := 3, code := method_2_code, exceptionTable := #[], attributes := #[] }
def k1m1 : Method := { name := "two", desc := "(II)Ljava/lang/String;", sig := { parameters := [.int, .int], returnType := some (.object "java/lang/String") }, accessFlags := 10, code := some k1c1 }
def k1c2 : Code := { maxStack := 3, maxLocals := 1, code := method_3_code, exceptionTable := #[], attributes := #[] }
def k1m2 : Method := { name := "same", desc := "(I)Z", sig := { parameters := [.int], returnType := some .boolean }, accessFlags := 10, code := some k1c2 }
def k1c3 : Code := { maxStack := 6, maxLocals := 11, code := code, exceptionTable := #[], attributes := #[] }
def k1m3 : Method := { name := "law", desc := "(III)Z", sig := { parameters := [.int, .int, .int], returnType := some .boolean }, accessFlags := 9, code := some k1c3 }
/-- com/example/minderd/minderd/process/OwnerEqualsPinLaw -/
def k1 : Class := { plain "com/example/minderd/minderd/process/OwnerEqualsPinLaw" (some 0) with
  accessFlags := 49
  interfaces := #[]
  cf := some (fileOf pool1 15 #[] #[{ accessFlags := 1, nameIndex := 5, descriptorIndex := 6, attributes := #[] }, { accessFlags := 10, nameIndex := 18, descriptorIndex := 19, attributes := #[] }, { accessFlags := 10, nameIndex := 25, descriptorIndex := 26, attributes := #[] }, { accessFlags := 9, nameIndex := 34, descriptorIndex := 35, attributes := #[] }] 49 2 #[] #[])
  fields := #[]
  methods := #[k1m0, k1m1, k1m2, k1m3]
  instanceTypes := #[]
  staticTypes := #[]
  resolved := Array.replicate 38 none
  statics := none }

def pool2 : Array CpInfo := pool [(1, .methodref 2 3), (0, .class_ 4), (0, .nameAndType 5 6), (0, u "java/lang/Object"), (0, u "<init>"), (0, u "()V"), (0, .fieldref 8 9), (0, .class_ 10), (0, .nameAndType 11 12), (0, u "com/example/minderd/minderd/process/Owner"), (0, u "config"), (0, u "Ljava/lang/String;"), (0, .fieldref 8 14), (0, .nameAndType 15 12), (0, u "program"), (0, .fieldref 8 17), (0, .nameAndType 18 12), (0, u "run"), (5, .class_ 26), (1, u "java/lang/String"), (19, u "PREFIX"), (0, u "[B"), (10, u "equals"), (24, u "(Ljava/lang/Object;)Z"), (10, u "(Ljava/lang/String;Ljava/lang/String;Ljava/lang/String;)V"), (4, .methodref 24 100), (0, .nameAndType 58 83), (16, u "CONFIG"), (1, u "PROGRAM"), (0, u "RUN")] 35

def k2c0 : Code := { maxStack := 2, maxLocals := 4, code := prog_30_method_1_code, exceptionTable := #[], attributes := #[] }
def k2m0 : Method := { name := "<init>", desc := "(Ljava/lang/String;Ljava/lang/String;Ljava/lang/String;)V", sig := { parameters := [(.object "java/lang/String"), (.object "java/lang/String"), (.object "java/lang/String")], returnType := none }, accessFlags := 1, code := some k2c0 }
def k2c1 : Code := { maxStack := 2, maxLocals := 3, code := prog_30_method_9_code, exceptionTable := #[], attributes := #[] }
def k2m1 : Method := { name := "equals", desc := "(Ljava/lang/Object;)Z", sig := { parameters := [(.object "java/lang/Object")], returnType := some .boolean }, accessFlags := 1, code := some k2c1 }
/-- com/example/minderd/minderd/process/Owner -/
def k2 : Class := { plain "com/example/minderd/minderd/process/Owner" (some 0) with
  accessFlags := 33
  interfaces := #[]
  cf := some (fileOf pool2 8 #[] #[{ accessFlags := 1, nameIndex := 5, descriptorIndex := 94, attributes := #[] }, { accessFlags := 1, nameIndex := 58, descriptorIndex := 83, attributes := #[] }] 33 2 #[] #[{ accessFlags := 26, nameIndex := 117, descriptorIndex := 12, attributes := #[] }, { accessFlags := 26, nameIndex := 119, descriptorIndex := 12, attributes := #[] }, { accessFlags := 26, nameIndex := 120, descriptorIndex := 12, attributes := #[] }, { accessFlags := 26, nameIndex := 46, descriptorIndex := 47, attributes := #[] }, { accessFlags := 18, nameIndex := 11, descriptorIndex := 12, attributes := #[] }, { accessFlags := 18, nameIndex := 15, descriptorIndex := 12, attributes := #[] }, { accessFlags := 18, nameIndex := 18, descriptorIndex := 12, attributes := #[] }])
  fields := #[{ name := "CONFIG", type := (.object "java/lang/String"), accessFlags := 26, slot := 0, constantValue := 0 }, { name := "PROGRAM", type := (.object "java/lang/String"), accessFlags := 26, slot := 1, constantValue := 0 }, { name := "RUN", type := (.object "java/lang/String"), accessFlags := 26, slot := 2, constantValue := 0 }, { name := "PREFIX", type := (.array .byte), accessFlags := 26, slot := 3, constantValue := 0 }, { name := "config", type := (.object "java/lang/String"), accessFlags := 18, slot := 0, constantValue := 0 }, { name := "program", type := (.object "java/lang/String"), accessFlags := 18, slot := 1, constantValue := 0 }, { name := "run", type := (.object "java/lang/String"), accessFlags := 18, slot := 2, constantValue := 0 }]
  methods := #[k2m0, k2m1]
  instanceTypes := #[(.object "java/lang/String"), (.object "java/lang/String"), (.object "java/lang/String")]
  staticTypes := #[(.object "java/lang/String"), (.object "java/lang/String"), (.object "java/lang/String"), (.array .byte)]
  resolved := Array.replicate 156 none
  statics := none }

def pool3 : Array CpInfo := pool [(1, .class_ 2), (0, u "java/io/Serializable"), (0, .class_ 4), (0, u "java/lang/Object")] 2

/-- java/io/Serializable -/
def k3 : Class := { plain "java/io/Serializable" (some 0) with
  accessFlags := 1537
  interfaces := #[]
  cf := some (fileOf pool3 1 #[] #[] 1537 3 #[] #[])
  fields := #[]
  methods := #[]
  instanceTypes := #[]
  staticTypes := #[]
  resolved := Array.replicate 7 none
  statics := none }

def pool4 : Array CpInfo := pool [(1, .class_ 2), (0, u "java/lang/Comparable"), (0, .class_ 4), (0, u "java/lang/Object")] 7

/-- java/lang/Comparable -/
def k4 : Class := { plain "java/lang/Comparable" (some 0) with
  accessFlags := 1537
  interfaces := #[]
  cf := some (fileOf pool4 1 #[] #[] 1537 3 #[] #[])
  fields := #[]
  methods := #[]
  instanceTypes := #[]
  staticTypes := #[]
  resolved := Array.replicate 12 none
  statics := none }

def pool5 : Array CpInfo := pool [(2, .class_ 4), (1, u "java/lang/CharSequence"), (42, .class_ 48), (0, u "java/lang/CharSequence$1CodePointIterator"), (10, .class_ 60), (0, u "java/lang/CharSequence$1CharIterator"), (5, .class_ 67), (0, u "java/lang/Object")] 63

/-- java/lang/CharSequence -/
def k5 : Class := { plain "java/lang/CharSequence" (some 0) with
  accessFlags := 1537
  interfaces := #[]
  cf := some (fileOf pool5 2 #[.nestMembers #[47, 59]] #[] 1537 66 #[] #[])
  fields := #[]
  methods := #[]
  instanceTypes := #[]
  staticTypes := #[]
  resolved := Array.replicate 131 none
  statics := none }

def pool6 : Array CpInfo := pool [(1, .class_ 2), (0, u "java/lang/constant/Constable"), (0, .class_ 4), (0, u "java/lang/Object")] 6

/-- java/lang/constant/Constable -/
def k6 : Class := { plain "java/lang/constant/Constable" (some 0) with
  accessFlags := 1537
  interfaces := #[]
  cf := some (fileOf pool6 1 #[] #[] 1537 3 #[] #[])
  fields := #[]
  methods := #[]
  instanceTypes := #[]
  staticTypes := #[]
  resolved := Array.replicate 11 none
  statics := none }

def pool7 : Array CpInfo := pool [(1, .class_ 2), (0, u "java/lang/constant/ConstantDesc"), (0, .class_ 4), (0, u "java/lang/Object")] 32

/-- java/lang/constant/ConstantDesc -/
def k7 : Class := { plain "java/lang/constant/ConstantDesc" (some 0) with
  accessFlags := 1537
  interfaces := #[]
  cf := some (fileOf pool7 1 #[] #[] 1537 3 #[] #[])
  fields := #[]
  methods := #[]
  instanceTypes := #[]
  staticTypes := #[]
  resolved := Array.replicate 37 none
  statics := none }

def pool8 : Array CpInfo := pool [(1, .methodref 2 3), (0, .class_ 4), (0, .nameAndType 5 6), (0, u "java/lang/Object"), (0, u "<init>"), (0, u "()V"), (2, .fieldref 10 11), (0, .class_ 12), (0, .nameAndType 13 14), (0, u "java/lang/String"), (0, u "value"), (0, u "[B"), (0, .fieldref 10 16), (0, .nameAndType 17 18), (0, u "coder"), (0, u "B"), (2, u "hash"), (0, u "I"), (2, u "hashIsZero"), (0, u "Z"), (0, .methodref 10 28), (0, .nameAndType 5 29), (0, u "([CIILjava/lang/Void;)V"), (8, .fieldref 10 39), (0, .nameAndType 40 26), (0, u "COMPACT_STRINGS"), (1, .class_ 44), (1, u "java/lang/StringUTF16"), (0, u "compress"), (1, .methodref 42 48), (0, .nameAndType 49 50), (0, u "coderFromArrayLen"), (0, u "([BI)B"), (56, .class_ 109), (1, u "java/lang/StringLatin1"), (67, .methodref 42 178), (0, .nameAndType 45 179), (0, u "([CII)[B"), (361, .methodref 107 542), (0, .nameAndType 543 544), (0, u "equals"), (0, u "([B[B)Z"), (28, u "(Ljava/lang/Object;)Z"), (1, .class_ 576), (0, u "java/lang/CharSequence"), (22, u "CASE_INSENSITIVE_ORDER"), (0, u "Ljava/util/Comparator;"), (409, u "([C)V"), (90, u "serialPersistentFields"), (0, u "[Ljava/io/ObjectStreamField;"), (0, .class_ 1104), (0, u "java/lang/String$CaseInsensitiveComparator"), (1, .class_ 1107), (0, u "java/io/Serializable"), (0, .class_ 1109), (0, u "java/lang/Comparable"), (0, .class_ 1111), (0, u "java/lang/constant/Constable"), (0, .class_ 1113), (0, u "java/lang/constant/ConstantDesc"), (2, u "serialVersionUID"), (0, u "J"), (3, u "REPL"), (0, u "C"), (2, u "LATIN1"), (1, u "UTF16")] 323

def k8m0 : Method := { name := "<init>", desc := "()V", sig := { parameters := [], returnType := none }, accessFlags := 1, code := none }
def k8c1 : Code := { maxStack := 5, maxLocals := 2, code := jdk_42_method_3_code, exceptionTable := #[], attributes := #[] }
def k8m1 : Method := { name := "<init>", desc := "([C)V", sig := { parameters := [(.array .char)], returnType := none }, accessFlags := 1, code := some k8c1 }
def k8c2 : Code := { maxStack := 2, maxLocals := 3, code := jdk_42_method_66_code, exceptionTable := #[], attributes := #[] }
def k8m2 : Method := { name := "equals", desc := "(Ljava/lang/Object;)Z", sig := { parameters := [(.object "java/lang/Object")], returnType := some .boolean }, accessFlags := 1, code := some k8c2 }
def k8c3 : Code := { maxStack := 4, maxLocals := 6, code := jdk_42_method_149_code, exceptionTable := #[], attributes := #[] }
def k8m3 : Method := { name := "<init>", desc := "([CIILjava/lang/Void;)V", sig := { parameters := [(.array .char), .int, .int, (.object "java/lang/Void")], returnType := none }, accessFlags := 2, code := some k8c3 }
/-- java/lang/String -/
def k8 : Class := { plain "java/lang/String" (some 0) with
  accessFlags := 49
  interfaces := #[3, 4, 5, 6, 7]
  cf := some (fileOf pool8 10 #[.nestMembers #[1103]] #[{ accessFlags := 1, nameIndex := 5, descriptorIndex := 6, attributes := #[] }, { accessFlags := 1, nameIndex := 5, descriptorIndex := 1010, attributes := #[] }, { accessFlags := 1, nameIndex := 543, descriptorIndex := 573, attributes := #[] }, { accessFlags := 2, nameIndex := 5, descriptorIndex := 29, attributes := #[] }] 49 2 #[1106, 1108, 575, 1110, 1112] #[{ accessFlags := 18, nameIndex := 13, descriptorIndex := 14, attributes := #[] }, { accessFlags := 18, nameIndex := 17, descriptorIndex := 18, attributes := #[] }, { accessFlags := 2, nameIndex := 21, descriptorIndex := 22, attributes := #[] }, { accessFlags := 2, nameIndex := 25, descriptorIndex := 26, attributes := #[] }, { accessFlags := 26, nameIndex := 1116, descriptorIndex := 1117, attributes := #[] }, { accessFlags := 24, nameIndex := 40, descriptorIndex := 26, attributes := #[] }, { accessFlags := 26, nameIndex := 1101, descriptorIndex := 1102, attributes := #[] }, { accessFlags := 26, nameIndex := 1121, descriptorIndex := 1122, attributes := #[] }, { accessFlags := 25, nameIndex := 599, descriptorIndex := 600, attributes := #[] }, { accessFlags := 24, nameIndex := 1125, descriptorIndex := 18, attributes := #[] }, { accessFlags := 24, nameIndex := 1127, descriptorIndex := 18, attributes := #[] }])
  fields := #[{ name := "value", type := (.array .byte), accessFlags := 18, slot := 0, constantValue := 0 }, { name := "coder", type := .byte, accessFlags := 18, slot := 1, constantValue := 0 }, { name := "hash", type := .int, accessFlags := 2, slot := 2, constantValue := 0 }, { name := "hashIsZero", type := .boolean, accessFlags := 2, slot := 3, constantValue := 0 }, { name := "serialVersionUID", type := .long, accessFlags := 26, slot := 0, constantValue := 0 }, { name := "COMPACT_STRINGS", type := .boolean, accessFlags := 24, slot := 1, constantValue := 0 }, { name := "serialPersistentFields", type := (.array (.object "java/io/ObjectStreamField")), accessFlags := 26, slot := 2, constantValue := 0 }, { name := "REPL", type := .char, accessFlags := 26, slot := 3, constantValue := 0 }, { name := "CASE_INSENSITIVE_ORDER", type := (.object "java/util/Comparator"), accessFlags := 25, slot := 4, constantValue := 0 }, { name := "LATIN1", type := .byte, accessFlags := 24, slot := 5, constantValue := 0 }, { name := "UTF16", type := .byte, accessFlags := 24, slot := 6, constantValue := 0 }]
  methods := #[k8m0, k8m1, k8m2, k8m3]
  instanceTypes := #[(.array .byte), .byte, .int, .boolean]
  staticTypes := #[.long, .boolean, (.array (.object "java/io/ObjectStreamField")), .char, (.object "java/util/Comparator"), .byte, .byte]
  resolved := Array.replicate 1451 none
  statics := some 0 }

def pool9 : Array CpInfo := pool [(6, .class_ 8), (1, u "java/lang/Object"), (0, u "<init>"), (0, u "()V"), (1, .class_ 14), (1, u "java/lang/StringUTF16"), (31, u "$assertionsDisabled"), (0, u "Z"), (13, u "HI_BYTE_SHIFT"), (0, u "I"), (2, u "LO_BYTE_SHIFT"), (49, .methodref 12 116), (0, .nameAndType 117 118), (0, u "compress"), (0, u "([CI[BII)I"), (3, u "([CII)[B"), (138, u "coderFromArrayLen"), (0, u "([BI)B"), (106, .class_ 371), (1, u "java/lang/StringUTF16$LinesSpliterator"), (58, u "MAX_LENGTH"), (196, .class_ 628), (0, u "java/lang/StringUTF16$CodePointsSpliterator"), (0, .class_ 630), (0, u "java/lang/StringUTF16$CharsSpliterator")] 4

def k9m0 : Method := { name := "<init>", desc := "()V", sig := { parameters := [], returnType := none }, accessFlags := 0, code := none }
def k9c1 : Code := { maxStack := 2, maxLocals := 2, code := jdk_52_method_15_code, exceptionTable := #[], attributes := #[] }
def k9m1 : Method := { name := "coderFromArrayLen", desc := "([BI)B", sig := { parameters := [(.array .byte), .int], returnType := some .byte }, accessFlags := 8, code := some k9c1 }
def k9c2 : Code := { maxStack := 5, maxLocals := 6, code := jdk_52_method_16_code, exceptionTable := #[], attributes := #[] }
def k9m2 : Method := { name := "compress", desc := "([CII)[B", sig := { parameters := [(.array .char), .int, .int], returnType := some (.array .byte) }, accessFlags := 9, code := some k9c2 }
def k9c3 : Code := { maxStack := 3, maxLocals := 7, code := jdk_52_method_21_code, exceptionTable := #[], attributes := #[] }
def k9m3 : Method := { name := "compress", desc := "([CI[BII)I", sig := { parameters := [(.array .char), .int, (.array .byte), .int, .int], returnType := some .int }, accessFlags := 9, code := some k9c3 }
/-- java/lang/StringUTF16 -/
def k9 : Class := { plain "java/lang/StringUTF16" (some 0) with
  accessFlags := 48
  interfaces := #[]
  cf := some (fileOf pool9 12 #[.nestMembers #[627, 629, 369]] #[{ accessFlags := 0, nameIndex := 9, descriptorIndex := 10, attributes := #[] }, { accessFlags := 8, nameIndex := 261, descriptorIndex := 262, attributes := #[] }, { accessFlags := 9, nameIndex := 117, descriptorIndex := 122, attributes := #[] }, { accessFlags := 9, nameIndex := 117, descriptorIndex := 118, attributes := #[] }] 48 6 #[] #[{ accessFlags := 26, nameIndex := 61, descriptorIndex := 62, attributes := #[] }, { accessFlags := 26, nameIndex := 65, descriptorIndex := 62, attributes := #[] }, { accessFlags := 24, nameIndex := 430, descriptorIndex := 62, attributes := #[] }, { accessFlags := 4120, nameIndex := 46, descriptorIndex := 47, attributes := #[] }])
  fields := #[{ name := "HI_BYTE_SHIFT", type := .int, accessFlags := 26, slot := 0, constantValue := 0 }, { name := "LO_BYTE_SHIFT", type := .int, accessFlags := 26, slot := 1, constantValue := 0 }, { name := "MAX_LENGTH", type := .int, accessFlags := 24, slot := 2, constantValue := 0 }, { name := "$assertionsDisabled", type := .boolean, accessFlags := 4120, slot := 3, constantValue := 0 }]
  methods := #[k9m0, k9m1, k9m2, k9m3]
  instanceTypes := #[]
  staticTypes := #[.int, .int, .int, .boolean]
  resolved := Array.replicate 635 none
  statics := none }

def pool10 : Array CpInfo := pool [(4, .class_ 6), (1, u "java/lang/Object"), (0, u "<init>"), (0, u "()V"), (5, .class_ 16), (1, u "java/lang/StringLatin1"), (104, u "$assertionsDisabled"), (0, u "Z"), (98, .class_ 223), (1, u "java/lang/StringLatin1$LinesSpliterator"), (57, u "equals"), (0, u "([B[B)Z"), (107, .class_ 391), (0, u "java/lang/StringLatin1$CharsSpliterator")] 3

def k10m0 : Method := { name := "<init>", desc := "()V", sig := { parameters := [], returnType := none }, accessFlags := 0, code := none }
def k10c1 : Code := { maxStack := 3, maxLocals := 3, code := jdk_43_method_13_code, exceptionTable := #[], attributes := #[] }
def k10m1 : Method := { name := "equals", desc := "([B[B)Z", sig := { parameters := [(.array .byte), (.array .byte)], returnType := some .boolean }, accessFlags := 9, code := some k10c1 }
/-- java/lang/StringLatin1 -/
def k10 : Class := { plain "java/lang/StringLatin1" (some 0) with
  accessFlags := 48
  interfaces := #[]
  cf := some (fileOf pool10 14 #[.nestMembers #[390, 221]] #[{ accessFlags := 0, nameIndex := 7, descriptorIndex := 8, attributes := #[] }, { accessFlags := 9, nameIndex := 281, descriptorIndex := 282, attributes := #[] }] 48 4 #[] #[{ accessFlags := 4120, nameIndex := 121, descriptorIndex := 122, attributes := #[] }])
  fields := #[{ name := "$assertionsDisabled", type := .boolean, accessFlags := 4120, slot := 0, constantValue := 0 }]
  methods := #[k10m0, k10m1]
  instanceTypes := #[]
  staticTypes := #[.boolean]
  resolved := Array.replicate 395 none
  statics := none }

def pool11 : Array CpInfo := pool [(2, .class_ 4), (1, u "java/lang/Object"), (0, u "<init>"), (0, u "()V"), (17, .class_ 26), (1, u "jdk/internal/util/Preconditions"), (28, .class_ 56), (0, u "jdk/internal/util/Preconditions$4"), (57, .class_ 115), (0, u "jdk/internal/util/Preconditions$1"), (7, u "SIOOBE_FORMATTER"), (0, u "Ljava/util/function/BiFunction;"), (0, .class_ 126), (0, u "jdk/internal/util/Preconditions$2"), (3, u "AIOOBE_FORMATTER"), (0, .class_ 132), (0, u "jdk/internal/util/Preconditions$3"), (3, u "IOOBE_FORMATTER")] 57

def k11m0 : Method := { name := "<init>", desc := "()V", sig := { parameters := [], returnType := none }, accessFlags := 1, code := none }
/-- jdk/internal/util/Preconditions -/
def k11 : Class := { plain "jdk/internal/util/Preconditions" (some 0) with
  accessFlags := 33
  interfaces := #[]
  cf := some (fileOf pool11 24 #[.nestMembers #[55, 131, 125, 114]] #[{ accessFlags := 1, nameIndex := 5, descriptorIndex := 6, attributes := #[] }] 33 2 #[] #[{ accessFlags := 25, nameIndex := 123, descriptorIndex := 124, attributes := #[] }, { accessFlags := 25, nameIndex := 130, descriptorIndex := 124, attributes := #[] }, { accessFlags := 25, nameIndex := 136, descriptorIndex := 124, attributes := #[] }])
  fields := #[{ name := "SIOOBE_FORMATTER", type := (.object "java/util/function/BiFunction"), accessFlags := 25, slot := 0, constantValue := 0 }, { name := "AIOOBE_FORMATTER", type := (.object "java/util/function/BiFunction"), accessFlags := 25, slot := 1, constantValue := 0 }, { name := "IOOBE_FORMATTER", type := (.object "java/util/function/BiFunction"), accessFlags := 25, slot := 2, constantValue := 0 }]
  methods := #[k11m0]
  instanceTypes := #[]
  staticTypes := #[(.object "java/util/function/BiFunction"), (.object "java/util/function/BiFunction"), (.object "java/util/function/BiFunction")]
  resolved := Array.replicate 194 none
  statics := some 1 }

def pool12 : Array CpInfo := pool [(9, u "<init>"), (6, .class_ 18), (1, u "java/lang/Object"), (0, u "()V"), (1, .class_ 23), (1, u "jdk/internal/util/ArraysSupport"), (0, u "LOG2_ARRAY_LONG_INDEX_SCALE"), (0, u "I"), (2, u "U"), (0, u "Ljdk/internal/misc/Unsafe;"), (8, u "BIG_ENDIAN"), (0, u "Z"), (8, u "LOG2_BYTE_BIT_SIZE"), (4, u "LOG2_ARRAY_INT_INDEX_SCALE"), (54, u "JLA"), (0, u "Ljdk/internal/access/JavaLangAccess;"), (11, u "LOG2_ARRAY_BOOLEAN_INDEX_SCALE"), (9, u "LOG2_ARRAY_BYTE_INDEX_SCALE"), (5, u "LOG2_ARRAY_CHAR_INDEX_SCALE"), (5, u "LOG2_ARRAY_SHORT_INDEX_SCALE"), (18, u "LOG2_ARRAY_FLOAT_INDEX_SCALE"), (24, u "LOG2_ARRAY_DOUBLE_INDEX_SCALE"), (89, u "T_BOOLEAN"), (2, u "T_CHAR"), (1, u "T_FLOAT"), (1, u "T_DOUBLE"), (1, u "T_BYTE"), (1, u "T_SHORT"), (1, u "T_INT"), (1, u "T_LONG"), (1, u "SOFT_MAX_ARRAY_LENGTH")] 83

def k12m0 : Method := { name := "<init>", desc := "()V", sig := { parameters := [], returnType := none }, accessFlags := 2, code := none }
/-- jdk/internal/util/ArraysSupport -/
def k12 : Class := { plain "jdk/internal/util/ArraysSupport" (some 0) with
  accessFlags := 33
  interfaces := #[]
  cf := some (fileOf pool12 21 #[] #[{ accessFlags := 2, nameIndex := 9, descriptorIndex := 19, attributes := #[] }] 33 16 #[] #[{ accessFlags := 24, nameIndex := 28, descriptorIndex := 29, attributes := #[] }, { accessFlags := 26, nameIndex := 38, descriptorIndex := 39, attributes := #[] }, { accessFlags := 25, nameIndex := 121, descriptorIndex := 25, attributes := #[] }, { accessFlags := 25, nameIndex := 131, descriptorIndex := 25, attributes := #[] }, { accessFlags := 25, nameIndex := 137, descriptorIndex := 25, attributes := #[] }, { accessFlags := 25, nameIndex := 143, descriptorIndex := 25, attributes := #[] }, { accessFlags := 25, nameIndex := 53, descriptorIndex := 25, attributes := #[] }, { accessFlags := 25, nameIndex := 24, descriptorIndex := 25, attributes := #[] }, { accessFlags := 25, nameIndex := 162, descriptorIndex := 25, attributes := #[] }, { accessFlags := 25, nameIndex := 187, descriptorIndex := 25, attributes := #[] }, { accessFlags := 26, nameIndex := 48, descriptorIndex := 25, attributes := #[] }, { accessFlags := 25, nameIndex := 277, descriptorIndex := 25, attributes := #[] }, { accessFlags := 25, nameIndex := 280, descriptorIndex := 25, attributes := #[] }, { accessFlags := 25, nameIndex := 282, descriptorIndex := 25, attributes := #[] }, { accessFlags := 25, nameIndex := 284, descriptorIndex := 25, attributes := #[] }, { accessFlags := 25, nameIndex := 286, descriptorIndex := 25, attributes := #[] }, { accessFlags := 25, nameIndex := 288, descriptorIndex := 25, attributes := #[] }, { accessFlags := 25, nameIndex := 290, descriptorIndex := 25, attributes := #[] }, { accessFlags := 25, nameIndex := 292, descriptorIndex := 25, attributes := #[] }, { accessFlags := 26, nameIndex := 108, descriptorIndex := 109, attributes := #[] }, { accessFlags := 25, nameIndex := 294, descriptorIndex := 25, attributes := #[] }])
  fields := #[{ name := "U", type := (.object "jdk/internal/misc/Unsafe"), accessFlags := 24, slot := 0, constantValue := 0 }, { name := "BIG_ENDIAN", type := .boolean, accessFlags := 26, slot := 1, constantValue := 0 }, { name := "LOG2_ARRAY_BOOLEAN_INDEX_SCALE", type := .int, accessFlags := 25, slot := 2, constantValue := 0 }, { name := "LOG2_ARRAY_BYTE_INDEX_SCALE", type := .int, accessFlags := 25, slot := 3, constantValue := 0 }, { name := "LOG2_ARRAY_CHAR_INDEX_SCALE", type := .int, accessFlags := 25, slot := 4, constantValue := 0 }, { name := "LOG2_ARRAY_SHORT_INDEX_SCALE", type := .int, accessFlags := 25, slot := 5, constantValue := 0 }, { name := "LOG2_ARRAY_INT_INDEX_SCALE", type := .int, accessFlags := 25, slot := 6, constantValue := 0 }, { name := "LOG2_ARRAY_LONG_INDEX_SCALE", type := .int, accessFlags := 25, slot := 7, constantValue := 0 }, { name := "LOG2_ARRAY_FLOAT_INDEX_SCALE", type := .int, accessFlags := 25, slot := 8, constantValue := 0 }, { name := "LOG2_ARRAY_DOUBLE_INDEX_SCALE", type := .int, accessFlags := 25, slot := 9, constantValue := 0 }, { name := "LOG2_BYTE_BIT_SIZE", type := .int, accessFlags := 26, slot := 10, constantValue := 0 }, { name := "T_BOOLEAN", type := .int, accessFlags := 25, slot := 11, constantValue := 0 }, { name := "T_CHAR", type := .int, accessFlags := 25, slot := 12, constantValue := 0 }, { name := "T_FLOAT", type := .int, accessFlags := 25, slot := 13, constantValue := 0 }, { name := "T_DOUBLE", type := .int, accessFlags := 25, slot := 14, constantValue := 0 }, { name := "T_BYTE", type := .int, accessFlags := 25, slot := 15, constantValue := 0 }, { name := "T_SHORT", type := .int, accessFlags := 25, slot := 16, constantValue := 0 }, { name := "T_INT", type := .int, accessFlags := 25, slot := 17, constantValue := 0 }, { name := "T_LONG", type := .int, accessFlags := 25, slot := 18, constantValue := 0 }, { name := "JLA", type := (.object "jdk/internal/access/JavaLangAccess"), accessFlags := 26, slot := 19, constantValue := 0 }, { name := "SOFT_MAX_ARRAY_LENGTH", type := .int, accessFlags := 25, slot := 20, constantValue := 0 }]
  methods := #[k12m0]
  instanceTypes := #[]
  staticTypes := #[(.object "jdk/internal/misc/Unsafe"), .boolean, .int, .int, .int, .int, .int, .int, .int, .int, .int, .int, .int, .int, .int, .int, .int, .int, .int, (.object "jdk/internal/access/JavaLangAccess"), .int]
  resolved := Array.replicate 378 none
  statics := none }

def pool13 : Array CpInfo := pool [(1, u "java/lang/Cloneable"), (0, .class_ 1), (0, u "java/lang/Object"), (0, .class_ 3)] 3

/-- java/lang/Cloneable -/
def k13 : Class := { plain "java/lang/Cloneable" (some 0) with
  accessFlags := 1537
  interfaces := #[]
  cf := some (fileOf pool13 2 #[] #[] 1537 4 #[] #[])
  fields := #[]
  methods := #[]
  instanceTypes := #[]
  staticTypes := #[]
  resolved := Array.replicate 8 none
  statics := none }

/-- the primitive byte -/
def k14 : Class := { plain "byte" none with kind := .primitive 'B', accessFlags := 0x411 }
/-- [B -/
def k15 : Class := { plain "[B" (some 0) with kind := .array 14 .byte, interfaces := #[13, 3], accessFlags := 1041 }

/-- the primitive char -/
def k16 : Class := { plain "char" none with kind := .primitive 'C', accessFlags := 0x411 }
/-- [C -/
def k17 : Class := { plain "[C" (some 0) with kind := .array 16 .char, interfaces := #[13, 3], accessFlags := 1041 }

/-- the primitive int -/
def k18 : Class := { plain "int" none with kind := .primitive 'I', accessFlags := 0x411 }
/-- [I -/
def k19 : Class := { plain "[I" (some 0) with kind := .array 18 .int, interfaces := #[13, 3], accessFlags := 1041 }

def heap : Heap := #[{ cls := 8, slots := #[.long 0, .int 1, .null, .int 0, .null, .int 0, .int 0], vm := .statics 8 },
  { cls := 11, slots := #[.null, .null, .null], vm := .statics 11 }]
def classes : Array Class := #[k0, k1, k2, k3, k4, k5, k6, k7, k8, k9, k10, k11, k12, k13, k14, k15, k16, k17, k18, k19]
def interned : List (Array UInt16 × Addr) := []
def slotsUsed : Nat := 10
def theMethod : MethodId := ⟨1, 3⟩
def args0 : Array Value := #[.int 5, .int 5, .int 5]
def aboutOver (below : List Frame) : State where
  vm := { classes := classes, interned := interned.toArray }
  heap := heap
  slotsUsed := slotsUsed
  threads := #[{ frames := .invoking theMethod args0 :: below }]
def below0 : List Frame := [.native { method := ⟨0, 0⟩, args := #[] }]
def about1 : State := aboutOver below0
def p0 : Program := .bare "" "" ""
def e0 : Env := launch0.env 0 0 0
theorem w_frames : about1.frames = Frame.invoking theMethod args0 :: below0 := rfl
set_option maxRecDepth 65536 in
theorem w_args : argsFit about1.vm theMethod args0 = true := by decide +kernel
set_option maxRecDepth 65536 in
theorem w_heap : heapFits about1 = true := by decide +kernel
set_option maxRecDepth 65536 in
theorem w_runnable : about1.curStatus? = some .runnable := by decide +kernel
set_option maxRecDepth 65536 in
theorem w_alone : about1.alone = true := by decide +kernel
set_option maxRecDepth 65536 in
theorem w_named : about1.methodNamed? x = some theMethod := by decide +kernel
set_option maxRecDepth 65536 in
theorem w_hears : about1.hears theMethod below0 = true := by decide +kernel
set_option maxRecDepth 65536 in
theorem w_ripe : about1.ripe theMethod args0 below0 = true := by decide +kernel
theorem w_running : about1.status = .running := rfl
set_option maxRecDepth 65536 in
theorem w_room : about1.hasRoom e0.platform room_1 = true :=
  launch0.hasRoom_least _ room_1 (by decide +kernel) (by decide +kernel) (by decide +kernel) (by decide +kernel) (by decide +kernel) (by decide +kernel)
theorem allAtoms_all (ts : List Jvm.Cond) (a : Array Jvm.Value) (st : Jvm.State) : (allAtoms ts).before a st = ts.all (fun c => c.before a st) := by
  induction ts with
  | nil => rfl
  | cons c t ih =>
    show (Jvm.Cond.and c (allAtoms t)).before a st = _
    rw [Jvm.Cond.before_and, ih, List.all_cons]
def words1 : List Jvm.Cond := Jvm.Cond.code x code maxLocals ret :: tables_1
/-- a 'code' word, met by the world's own term for the bytes: nothing is compared byte by byte -/
theorem code_word {y : MethodName} {bytes : ByteArray} {mx : Nat} {rt : Option FieldType} {a : Array Value} {s : State} {m : MethodId} {meth : Method} {c : Code} (h1 : s.methodNamed? y = some m) (h2 : s.vm.method? m = some meth) (h3 : meth.code = some c) (h4 : c.code = bytes)
    (h5 : (c.maxLocals == mx && c.exceptionTable.isEmpty && decide (c.maxStack ≤ mostOperands) && decide (meth.sig.returnType = rt) && !meth.locks && decide (parseMethodDescriptor y.desc = some meth.sig)) = true) : (Jvm.Cond.code y bytes mx rt).before a s = true := by
  simp only [Bool.and_eq_true, beq_iff_eq, Bool.not_eq_true', decide_eq_true_eq] at h5
  obtain ⟨⟨⟨⟨⟨g1, g2⟩, g3⟩, g4⟩, g5⟩, g6⟩ := h5
  simp [Cond.before, Cond.holds, Cond.value, h1, h2, h3, h4, g1, g2, g3, g4, g5, g6]
def isCode : Jvm.Cond → Bool
  | .code _ _ _ _ => true
  | _ => false
theorem all_split {L : List Jvm.Cond} {P : Jvm.Cond → Bool} (h1 : L.all (fun c => isCode c || P c) = true) (h2 : ∀ c ∈ L.filter isCode, P c = true) : L.all P = true := by
  refine List.all_eq_true.mpr fun c hc => ?_
  have h := List.all_eq_true.mp h1 c hc
  rcases Bool.eq_false_or_eq_true (isCode c) with hi | hi
  · exact h2 c (List.mem_filter.mpr ⟨hc, hi⟩)
  · simpa [hi] using h
set_option maxRecDepth 65536 in
theorem w_c0 : (Jvm.Cond.code x code maxLocals ret).before args0 about1 = true := code_word (m := ⟨1, 3⟩) (meth := k1m3) (c := k1c3) (by decide +kernel) rfl rfl rfl (by decide +kernel)
set_option maxRecDepth 65536 in
theorem w_c1 : (Jvm.Cond.code ({ cls := "com/example/minderd/minderd/process/OwnerEqualsPinLaw", name := "two", desc := "(II)Ljava/lang/String;" } : Jvm.MethodName) method_2_code (3 : Nat) (Option.some (Jvm.ClassFile.FieldType.object "java/lang/String"))).before args0 about1 = true := code_word (m := ⟨1, 1⟩) (meth := k1m1) (c := k1c1) (by decide +kernel) rfl rfl rfl (by decide +kernel)
set_option maxRecDepth 65536 in
theorem w_c2 : (Jvm.Cond.code ({ cls := "java/lang/String", name := "<init>", desc := "([C)V" } : Jvm.MethodName) jdk_42_method_3_code (2 : Nat) (Option.none : Option Jvm.ClassFile.FieldType)).before args0 about1 = true := code_word (m := ⟨8, 1⟩) (meth := k8m1) (c := k8c1) (by decide +kernel) rfl rfl rfl (by decide +kernel)
set_option maxRecDepth 65536 in
theorem w_c3 : (Jvm.Cond.code ({ cls := "java/lang/String", name := "<init>", desc := "([CIILjava/lang/Void;)V" } : Jvm.MethodName) jdk_42_method_149_code (6 : Nat) (Option.none : Option Jvm.ClassFile.FieldType)).before args0 about1 = true := code_word (m := ⟨8, 3⟩) (meth := k8m3) (c := k8c3) (by decide +kernel) rfl rfl rfl (by decide +kernel)
set_option maxRecDepth 65536 in
theorem w_c4 : (Jvm.Cond.code ({ cls := "java/lang/Object", name := "<init>", desc := "()V" } : Jvm.MethodName) object_method_1_code (1 : Nat) (Option.none : Option Jvm.ClassFile.FieldType)).before args0 about1 = true := code_word (m := ⟨0, 0⟩) (meth := k0m0) (c := k0c0) (by decide +kernel) rfl rfl rfl (by decide +kernel)
set_option maxRecDepth 65536 in
theorem w_c5 : (Jvm.Cond.code ({ cls := "java/lang/StringUTF16", name := "compress", desc := "([CII)[B" } : Jvm.MethodName) jdk_52_method_16_code (6 : Nat) (Option.some (Jvm.ClassFile.FieldType.array Jvm.ClassFile.FieldType.byte))).before args0 about1 = true := code_word (m := ⟨9, 2⟩) (meth := k9m2) (c := k9c2) (by decide +kernel) rfl rfl rfl (by decide +kernel)
set_option maxRecDepth 65536 in
theorem w_c6 : (Jvm.Cond.code ({ cls := "java/lang/StringUTF16", name := "compress", desc := "([CI[BII)I" } : Jvm.MethodName) jdk_52_method_21_code (7 : Nat) (Option.some Jvm.ClassFile.FieldType.int)).before args0 about1 = true := code_word (m := ⟨9, 3⟩) (meth := k9m3) (c := k9c3) (by decide +kernel) rfl rfl rfl (by decide +kernel)
set_option maxRecDepth 65536 in
theorem w_c7 : (Jvm.Cond.code ({ cls := "java/lang/StringUTF16", name := "coderFromArrayLen", desc := "([BI)B" } : Jvm.MethodName) jdk_52_method_15_code (2 : Nat) (Option.some Jvm.ClassFile.FieldType.byte)).before args0 about1 = true := code_word (m := ⟨9, 1⟩) (meth := k9m1) (c := k9c1) (by decide +kernel) rfl rfl rfl (by decide +kernel)
set_option maxRecDepth 65536 in
theorem w_c8 : (Jvm.Cond.code ({ cls := "com/example/minderd/minderd/process/Owner", name := "<init>", desc := "(Ljava/lang/String;Ljava/lang/String;Ljava/lang/String;)V" } : Jvm.MethodName) prog_30_method_1_code (4 : Nat) (Option.none : Option Jvm.ClassFile.FieldType)).before args0 about1 = true := code_word (m := ⟨2, 0⟩) (meth := k2m0) (c := k2c0) (by decide +kernel) rfl rfl rfl (by decide +kernel)
set_option maxRecDepth 65536 in
theorem w_c9 : (Jvm.Cond.code ({ cls := "com/example/minderd/minderd/process/OwnerEqualsPinLaw", name := "same", desc := "(I)Z" } : Jvm.MethodName) method_3_code (1 : Nat) (Option.some Jvm.ClassFile.FieldType.boolean)).before args0 about1 = true := code_word (m := ⟨1, 2⟩) (meth := k1m2) (c := k1c2) (by decide +kernel) rfl rfl rfl (by decide +kernel)
set_option maxRecDepth 65536 in
theorem w_c10 : (Jvm.Cond.code ({ cls := "com/example/minderd/minderd/process/Owner", name := "equals", desc := "(Ljava/lang/Object;)Z" } : Jvm.MethodName) prog_30_method_9_code (3 : Nat) (Option.some Jvm.ClassFile.FieldType.boolean)).before args0 about1 = true := code_word (m := ⟨2, 1⟩) (meth := k2m1) (c := k2c1) (by decide +kernel) rfl rfl rfl (by decide +kernel)
set_option maxRecDepth 65536 in
theorem w_c11 : (Jvm.Cond.code ({ cls := "java/lang/String", name := "equals", desc := "(Ljava/lang/Object;)Z" } : Jvm.MethodName) jdk_42_method_66_code (3 : Nat) (Option.some Jvm.ClassFile.FieldType.boolean)).before args0 about1 = true := code_word (m := ⟨8, 2⟩) (meth := k8m2) (c := k8c2) (by decide +kernel) rfl rfl rfl (by decide +kernel)
set_option maxRecDepth 65536 in
theorem w_c12 : (Jvm.Cond.code ({ cls := "java/lang/StringLatin1", name := "equals", desc := "([B[B)Z" } : Jvm.MethodName) jdk_43_method_13_code (3 : Nat) (Option.some Jvm.ClassFile.FieldType.boolean)).before args0 about1 = true := code_word (m := ⟨10, 1⟩) (meth := k10m1) (c := k10c1) (by decide +kernel) rfl rfl rfl (by decide +kernel)
def codes1 : List Jvm.Cond := [Jvm.Cond.code x code maxLocals ret, Jvm.Cond.code ({ cls := "com/example/minderd/minderd/process/OwnerEqualsPinLaw", name := "two", desc := "(II)Ljava/lang/String;" } : Jvm.MethodName) method_2_code (3 : Nat) (Option.some (Jvm.ClassFile.FieldType.object "java/lang/String")), Jvm.Cond.code ({ cls := "java/lang/String", name := "<init>", desc := "([C)V" } : Jvm.MethodName) jdk_42_method_3_code (2 : Nat) (Option.none : Option Jvm.ClassFile.FieldType), Jvm.Cond.code ({ cls := "java/lang/String", name := "<init>", desc := "([CIILjava/lang/Void;)V" } : Jvm.MethodName) jdk_42_method_149_code (6 : Nat) (Option.none : Option Jvm.ClassFile.FieldType), Jvm.Cond.code ({ cls := "java/lang/Object", name := "<init>", desc := "()V" } : Jvm.MethodName) object_method_1_code (1 : Nat) (Option.none : Option Jvm.ClassFile.FieldType), Jvm.Cond.code ({ cls := "java/lang/StringUTF16", name := "compress", desc := "([CII)[B" } : Jvm.MethodName) jdk_52_method_16_code (6 : Nat) (Option.some (Jvm.ClassFile.FieldType.array Jvm.ClassFile.FieldType.byte)), Jvm.Cond.code ({ cls := "java/lang/StringUTF16", name := "compress", desc := "([CI[BII)I" } : Jvm.MethodName) jdk_52_method_21_code (7 : Nat) (Option.some Jvm.ClassFile.FieldType.int), Jvm.Cond.code ({ cls := "java/lang/StringUTF16", name := "coderFromArrayLen", desc := "([BI)B" } : Jvm.MethodName) jdk_52_method_15_code (2 : Nat) (Option.some Jvm.ClassFile.FieldType.byte), Jvm.Cond.code ({ cls := "com/example/minderd/minderd/process/Owner", name := "<init>", desc := "(Ljava/lang/String;Ljava/lang/String;Ljava/lang/String;)V" } : Jvm.MethodName) prog_30_method_1_code (4 : Nat) (Option.none : Option Jvm.ClassFile.FieldType), Jvm.Cond.code ({ cls := "com/example/minderd/minderd/process/OwnerEqualsPinLaw", name := "same", desc := "(I)Z" } : Jvm.MethodName) method_3_code (1 : Nat) (Option.some Jvm.ClassFile.FieldType.boolean), Jvm.Cond.code ({ cls := "com/example/minderd/minderd/process/Owner", name := "equals", desc := "(Ljava/lang/Object;)Z" } : Jvm.MethodName) prog_30_method_9_code (3 : Nat) (Option.some Jvm.ClassFile.FieldType.boolean), Jvm.Cond.code ({ cls := "java/lang/String", name := "equals", desc := "(Ljava/lang/Object;)Z" } : Jvm.MethodName) jdk_42_method_66_code (3 : Nat) (Option.some Jvm.ClassFile.FieldType.boolean), Jvm.Cond.code ({ cls := "java/lang/StringLatin1", name := "equals", desc := "([B[B)Z" } : Jvm.MethodName) jdk_43_method_13_code (3 : Nat) (Option.some Jvm.ClassFile.FieldType.boolean)]
set_option maxRecDepth 65536 in
theorem codes_eq : words1.filter isCode = codes1 := rfl
theorem w_codes : ∀ c ∈ words1.filter isCode, c.before args0 about1 = true := by
  rw [codes_eq]
  intro c hc
  simp only [codes1, List.mem_cons, List.not_mem_nil, or_false] at hc
  rcases hc with rfl | rfl | rfl | rfl | rfl | rfl | rfl | rfl | rfl | rfl | rfl | rfl | rfl
  · exact w_c0
  · exact w_c1
  · exact w_c2
  · exact w_c3
  · exact w_c4
  · exact w_c5
  · exact w_c6
  · exact w_c7
  · exact w_c8
  · exact w_c9
  · exact w_c10
  · exact w_c11
  · exact w_c12
set_option maxRecDepth 65536 in
theorem w_t1 : (words1.take 24).all (fun c => isCode c || c.before args0 about1) = true := by decide +kernel
set_option maxRecDepth 65536 in
theorem w_t2 : ((words1.drop 24).take 24).all (fun c => isCode c || c.before args0 about1) = true := by decide +kernel
set_option maxRecDepth 65536 in
theorem w_t3 : ((words1.drop 24).drop 24).all (fun c => isCode c || c.before args0 about1) = true := by decide +kernel
theorem w_tables : (allAtoms (Jvm.Cond.code x code maxLocals ret :: tables_1)).before args0 about1 = true := by
  rw [allAtoms_all]
  show words1.all (fun c => c.before args0 about1) = true
  refine all_split ?_ w_codes
  rw [← List.take_append_drop 24 words1, List.all_append, w_t1, ← List.take_append_drop 24 (words1.drop 24), List.all_append, w_t2, w_t3]
  rfl
set_option maxRecDepth 65536 in
theorem w_rest : rest_1_c.before args0 about1 = true := by decide +kernel
set_option maxRecDepth 65536 in
theorem w_case : (Jvm.Cond.and given_1 narrow_1).before args0 about1 = true := by decide +kernel
theorem w_applies : (headSpec (Jvm.Cond.code x code maxLocals ret :: tables_1) room_1).applies x e0.platform about1 = true :=
  (Spec.applies_iff w_frames).mpr ⟨w_running, w_runnable, w_alone, w_named, w_hears, w_ripe, w_room, w_tables⟩
theorem atStart : AtStart classFile x code maxLocals ret World_1 tables_1 room_1 Calls_1 rest_1 Pre_1 launch0 p0 e0 about1 theMethod args0 below0 :=
  ⟨lists_1, trivial, launch0.admits_env _ _ _, launch0.least_env, fairChoices_fair.cas, fairChoices_fair.clock, w_frames, w_args, w_heap, w_applies, trivial, w_rest, w_case⟩
end start1
theorem witness_1 : WitnessClaimed_1 := ⟨start1.p0, start1.e0, start1.about1, start1.theMethod, start1.args0, start1.below0, start1.atStart⟩
end Jvm.Pilot.@@N@@
