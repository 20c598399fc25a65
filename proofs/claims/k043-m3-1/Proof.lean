import JvmDerived
import JvmDerived.Pilot.@@N@@Statement
import JvmDerived.Pilot.@@N@@Code
set_option linter.unusedVariables false
set_option linter.unusedSimpArgs false
namespace Jvm.Pilot.@@N@@
open Jvm Jvm.ClassFile Sem Op Lib Jvm.Free Jvm.Stand Jvm.LawKit Jvm.RoadKit Bundle Jvm.Pilot.@@N@@.Jvm.D
abbrev y1 : MethodName := ⟨"com/example/polity/polity/io/saml/CanonicalXml", "<init>", "()V"⟩
abbrev y2 : MethodName := ⟨"java/lang/Object", "<init>", "()V"⟩
abbrev y3 : MethodName := ⟨"com/example/polity/polity/io/saml/CanonicalXml", "toByteArray", "()[B"⟩
abbrev y4 : MethodName := ⟨"java/util/Arrays", "copyOf", "([BI)[B"⟩
abbrev y5 : MethodName := ⟨"java/lang/Math", "min", "(II)I"⟩
abbrev y6 : MethodName := ⟨"com/example/polity/polity/io/saml/CanonicalXmlToByteArrayPinLaw", "matches", "([BICCC)Z"⟩
abbrev y7 : MethodName := ⟨"java/lang/String", "valueOf", "(C)Ljava/lang/String;"⟩
abbrev y8 : MethodName := ⟨"java/lang/StringLatin1", "canEncode", "(C)Z"⟩
abbrev y9 : MethodName := ⟨"java/lang/StringLatin1", "toBytes", "(C)[B"⟩
abbrev y10 : MethodName := ⟨"java/lang/String", "<init>", "([BB)V"⟩
abbrev y11 : MethodName := ⟨"com/example/polity/polity/io/saml/CanonicalXml", "markup", "(Ljava/lang/String;)Lcom/example/polity/polity/io/saml/CanonicalXml;"⟩
abbrev y12 : MethodName := ⟨"java/lang/String", "length", "()I"⟩
abbrev y13 : MethodName := ⟨"java/lang/String", "coder", "()B"⟩
abbrev y14 : MethodName := ⟨"com/example/polity/polity/io/saml/CanonicalXml", "room", "(I)V"⟩
abbrev y15 : MethodName := ⟨"java/lang/String", "charAt", "(I)C"⟩
abbrev y16 : MethodName := ⟨"java/lang/String", "isLatin1", "()Z"⟩
abbrev y17 : MethodName := ⟨"java/lang/StringLatin1", "charAt", "([BI)C"⟩
abbrev y18 : MethodName := ⟨"java/lang/String", "checkIndex", "(II)V"⟩
abbrev y19 : MethodName := ⟨"jdk/internal/util/Preconditions", "checkIndex", "(IILjava/util/function/BiFunction;)I"⟩

abbrev jv (x : Int64) : Slot := .val (.long x)
abbrev un : Slot := .unset
abbrev se : Slot := .second
abbrev AT (p : Program) (e : Env) (below : List Frame) (T : State) (m : MethodId) (pc : Nat) (ls : Array Slot) (st : List Value) (tg : State) : Prop := Steps p.tables e below (T.setTop (mkF m pc ls st)) tg
theorem ow {Z : State} {a0 : Array Value} (hw : ∀ d ∈ tables_1, d.before a0 Z = true) (i : Nat) {d : Jvm.Cond} (h : tables_1[i]? = some d) : d.before a0 Z = true := hw _ (List.mem_of_getElem? h)
theorem own_lrem {p : Program} {l : Launch} {e : Env} {R : Room} {s : State} {m : MethodId} {args : Array Value} {below : List Frame} {meth : Method} {c : Code} {T : State} {locs : List Loc} {cells slots : Nat} {g : JFrame} {target : State} (X : Stand p l e R s m args below meth c T locs cells slots) (hx : p.tables.exec = Jvm.exec) (hg : g.method = m) {x y : Int64} {rest : List Value} (hd : decode c.code g.pc = .ok (.lrem, 1)) (hs : g.stack = .long y :: .long x :: rest) (hy : y ≠ 0)
    (hr : Steps p.tables e below (T.setTop { g with pc := g.pc + 1, stack := .long (x % y) :: rest }) target) : Steps p.tables e below (T.setTop g) target :=
  XS.lrem X.here hx hg hd hs hy (by rw [lrem_mod]; exact hr)
theorem own_eqInt {args : Array Value} {first s : State} {o : Option Outcome} {idx : List Nat} {t : Term} {n : Int32} (h : (Jvm.Cond.eq t (.int n)).value args first o s idx = some true) : t.eval args first o idx s = some (.int n) := by
  simp only [Cond.value, Term.eval] at h
  cases ht : t.eval args first o idx s with
  | none => simp [ht] at h
  | some v => cases v <;> simp [ht] at h ⊢; exact h
theorem own_eqLong {args : Array Value} {first s : State} {o : Option Outcome} {idx : List Nat} {t : Term} {n : Int64} (h : (Jvm.Cond.eq t (.long n)).value args first o s idx = some true) : t.eval args first o idx s = some (.long n) := by
  simp only [Cond.value, Term.eval] at h
  cases ht : t.eval args first o idx s with
  | none => simp [ht] at h
  | some v => cases v <;> simp [ht] at h ⊢; exact h
theorem own_eqRef {args : Array Value} {first s : State} {o : Option Outcome} {idx : List Nat} {t u : Term} {a : Addr} (hu : u.eval args first o idx s = some (.ref a)) (h : (Jvm.Cond.eq t u).value args first o s idx = some true) : t.eval args first o idx s = some (.ref a) := by
  simp only [Cond.value, hu] at h
  cases ht : t.eval args first o idx s with
  | none => simp [ht] at h
  | some v => cases v <;> simp [ht] at h ⊢; exact h

theorem own_x32 {a b : Int} (h : (a - b) % 4294967296 = 0) (r : -2147483648 ≤ a ∧ a ≤ 2147483647) (q : -2147483648 ≤ b ∧ b ≤ 2147483647) : a = b := by omega
theorem own_x64 {a b : Int} (h : (a - b) % 18446744073709551616 = 0) (r : -9223372036854775808 ≤ a ∧ a ≤ 9223372036854775807) (q : -9223372036854775808 ≤ b ∧ b ≤ 9223372036854775807) : a = b := by omega
theorem own_in {c : Cell} {n : Int32} (j : Int32) (S : c.slots.size = n.toNatClampNeg) (q : ¬ j < 0 ∧ j < n) : ¬ (j < 0 ∨ c.slots.size ≤ j.toNatClampNeg) := inb_of S q
theorem own_up {x a b : Int32} (h : x < a) (q : a.toInt ≤ b.toInt) : x < b := Int32.lt_iff_toInt_lt.mpr (Int.lt_of_lt_of_le (Int32.lt_iff_toInt_lt.mp h) q)
theorem own_dn {x a b : Int32} (h : ¬ x < a) (q : b.toInt ≤ a.toInt) : ¬ x < b := fun z => h (own_up z q)
theorem own_neInt {args : Array Value} {first s : State} {o : Option Outcome} {idx : List Nat} {t : Term} {x n : Int32} (ht : t.eval args first o idx s = some (.int x)) (h : (Jvm.Cond.not (Jvm.Cond.eq t (.int n))).value args first o s idx = some true) : ¬ x = n := by
  simpa [Cond.value, Term.eval, ht] using h

theorem own_len {Z : State} {args : Array Value} {t : Term} {a : Addr} {cl : Cell} {ty : FieldType} {n : Int32} (ev : t.eval args Z none [] Z = some (.ref a)) (A : Arr Z Z.heap a cl ty) (h : (Term.length t).eval args Z none [] Z = some (.int n)) : cl.slots.size < 2 ^ 31 ∧ cl.slots.size.toInt32 = n := by
  have q := A.fin (U := Z) (Vm.Alike.refl _)
  simp only [Term.eval, ev, q, Option.bind_eq_bind, Option.bind_some, Option.pure_def] at h
  split at h
  · rename_i hlt; exact ⟨hlt, by simpa using h⟩
  · simp at h

theorem own_nar {v : Value} {c : String} (h : v.isRef = true) : narrow (.object c) v = v := by cases v <;> first | rfl | simp [Value.isRef] at h
theorem own_fits {v : Value} {c : String} (h : v.isRef = true) : fits (.object c) v = true := by cases v <;> first | rfl | simp [Value.isRef] at h
theorem own_cat {v : Value} (h : v.isRef = true) : v.category = 1 := by cases v <;> first | rfl | simp [Value.isRef] at h

theorem own_notOf {Z : State} {a0 : Array Value} {C S K : String} {n : Nat} (w : (Jvm.Cond.superclass C S).before a0 Z = true) (w0 : (Jvm.Cond.noSuperclass S).before a0 Z = true) (wk : (Jvm.Cond.instantiable K n).before a0 Z = true) (h1 : C ≠ K) (h2 : S ≠ K) :
    ∃ c t, Z.vm.findClass C = some c ∧ Z.vm.findClass K = some t ∧ Z.vm.assignable c t = false := by
  obtain ⟨t, k', g0, g2, g5, g7, -⟩ := Cond.instantiable_spec wk
  obtain ⟨c, h0⟩ := found_sup w
  obtain ⟨p, k, kp, q1, q2, q3, q4, q5, q6, q7⟩ := Cond.superclass_spec h0 w
  obtain ⟨c0, k0, r1, r2, r3, -, -⟩ := Cond.noSuperclass_spec w0
  cases q1.symm.trans r1
  have ne1 := ids_ne h0 g0 h1
  have ne2 := ids_ne r1 g0 h2
  have g8 := (Bool.or_eq_false_iff.mp g7).1
  have n3 : ∀ fuel, Z.vm.isSubclassAux fuel c t = false := by
    intro fuel
    cases fuel with
    | zero => rfl
    | succ f =>
      cases f with
      | zero => simp [Vm.isSubclassAux, ne1, q2, q4]
      | succ g => simp [Vm.isSubclassAux, ne1, ne2, q2, q4, r2, r3]
  refine ⟨c, t, h0, g0, ?_⟩
  show Z.vm.assignableAux (255 + 1) c t = false
  simp [Vm.assignableAux, ne1, q2, g2, q5, g5, g8, Vm.isSubclass, n3]

theorem own_selP {Z s : State} {a0 args : Array Value} {y : MethodName} {n : Nat} (hZ : Z.Warmed39 s.vm) (wi : (Jvm.Cond.instantiable y.cls n).before a0 Z = true) (wp : (Jvm.Cond.privateMethod y).before a0 Z = true) (wm : (Jvm.Cond.instanceMethod y).before a0 Z = true) (hy : y.cls ≠ "java/lang/invoke/MethodHandle" ∧ y.cls ≠ "java/lang/invoke/VarHandle") : (Jvm.Cond.selects y.cls y y).before args s = true := by
  obtain ⟨c, k, hc, hk, -, hni, -⟩ := Cond.instantiable_spec (mvT (s := s) (args := args) hZ wi)
  exact selects_self_of_private hc hk (Bool.or_eq_false_iff.mp hni).1 (Cond.privateMethod_at (mvP hZ wp (args := #[]))) (mvT hZ wm) hy

theorem own_neS {Z : State} {h : Heap} {a b u w : Addr} {C f d : String} {k k' : ClassId} {ty : FieldType} {z z' : Int32} {vs vs' : List Value} {dv dv' : Value} (Fa : Fld Z h a C f d (.ref u)) (Va : Arv Z h u k ty z vs dv) (Fb : Fld Z h b C f d (.ref w)) (Vb : Arv Z h w k' ty z' vs' dv') (hn : z ≠ z' ∨ ∃ i : Nat, i < z.toNatClampNeg ∧ vs.getD i dv ≠ vs'.getD i dv') : a ≠ b := fun e => by
  subst e
  have hu : u = w := by
    rcases Decidable.em (u = w) with q | q
    · exact q
    · exact absurd rfl (Fld.ne Fa Fb (fun x => q (Value.ref.inj x)))
  subst hu
  obtain ⟨c1, A1, -, S1, N1, H1, -⟩ := Va
  obtain ⟨c2, A2, -, S2, N2, H2, -⟩ := Vb
  cases A1.1.symm.trans A2.1
  rcases hn with hn | ⟨i, hi, hn⟩
  · exact hn ((len_of S1 N1).symm.trans (len_of S2 N2))
  · have q1 := H1 i (by rw [S1]; exact hi)
    have q2 := H2 i (by rw [S1]; exact hi)
    exact hn (Option.some.inj (q1.symm.trans q2))
def Wd (Z : State) (w_CS0 : Int32) (w_SF1 : Value) : Prop :=
  Sta Z Z.heap "java/lang/String" "COMPACT_STRINGS" "Z" (.int w_CS0) ∧
  ¬ w_CS0 = (0 : Int32) ∧
  Sta Z Z.heap "jdk/internal/util/Preconditions" "SIOOBE_FORMATTER" "Ljava/util/function/BiFunction;" w_SF1 ∧
  w_SF1.isRef = true
theorem pn_0 : plainName "java/lang/StringLatin1" = true := by first | (simp [plainName, overriddenIn]; done) | decide +kernel
theorem pn_1 : plainName "java/lang/String" = true := by first | (simp [plainName, overriddenIn]; done) | decide +kernel
theorem pn_2 : plainName "jdk/internal/util/Preconditions" = true := by first | (simp [plainName, overriddenIn]; done) | decide +kernel
theorem pn_3 : plainName "com/example/polity/polity/io/saml/CanonicalXml" = true := by first | (simp [plainName, overriddenIn]; done) | decide +kernel
theorem pn_4 : plainName "java/util/Arrays" = true := by first | (simp [plainName, overriddenIn]; done) | decide +kernel
theorem pn_5 : plainName "com/example/polity/polity/io/saml/CanonicalXmlToByteArrayPinLaw" = true := by first | (simp [plainName, overriddenIn]; done) | decide +kernel
theorem pd_0 : parseMethodDescriptor "(C)Z" = some ⟨[.char], some .boolean⟩ := by decide +kernel
theorem pd_1 : parseMethodDescriptor "(C)[B" = some ⟨[.char], some (.array .byte)⟩ := by decide +kernel
theorem pd_2 : parseMethodDescriptor "([BB)V" = some ⟨[(.array .byte), .byte], none⟩ := by decide +kernel
theorem pd_3 : parseMethodDescriptor "()B" = some ⟨[], some .byte⟩ := by decide +kernel
theorem pd_4 : parseMethodDescriptor "(IILjava/util/function/BiFunction;)I" = some ⟨[.int, .int, (.object "java/util/function/BiFunction")], some .int⟩ := by decide +kernel
theorem pd_5 : parseMethodDescriptor "(II)V" = some ⟨[.int, .int], none⟩ := by decide +kernel
theorem pd_6 : parseMethodDescriptor "()Z" = some ⟨[], some .boolean⟩ := by decide +kernel
theorem pd_7 : parseMethodDescriptor "([BI)C" = some ⟨[(.array .byte), .int], some .char⟩ := by decide +kernel
theorem pd_8 : parseMethodDescriptor "(II)I" = some ⟨[.int, .int], some .int⟩ := by decide +kernel
theorem pd_9 : parseMethodDescriptor "([BI)[B" = some ⟨[(.array .byte), .int], some (.array .byte)⟩ := by decide +kernel
theorem pd_10 : parseMethodDescriptor "()I" = some ⟨[], some .int⟩ := by decide +kernel
theorem pd_11 : parseMethodDescriptor "(I)V" = some ⟨[.int], none⟩ := by decide +kernel
theorem pd_12 : parseMethodDescriptor "(I)C" = some ⟨[.int], some .char⟩ := by decide +kernel
theorem pd_13 : parseMethodDescriptor "()V" = some ⟨[], none⟩ := by decide +kernel
theorem pd_14 : parseMethodDescriptor "()[B" = some ⟨[], some (.array .byte)⟩ := by decide +kernel
theorem pd_15 : parseMethodDescriptor "([BICCC)Z" = some ⟨[(.array .byte), .int, .char, .char, .char], some .boolean⟩ := by decide +kernel
theorem pd_16 : parseMethodDescriptor "(C)Ljava/lang/String;" = some ⟨[.char], some (.object "java/lang/String")⟩ := by decide +kernel
theorem pd_17 : parseMethodDescriptor "(Ljava/lang/String;)Lcom/example/polity/polity/io/saml/CanonicalXml;" = some ⟨[(.object "java/lang/String")], some (.object "com/example/polity/polity/io/saml/CanonicalXml")⟩ := by decide +kernel
theorem d8_0 : decode jdk_43_method_3_code 0 = .ok (.iload_n 0, 1) := by decide +kernel
theorem d8_1 : decode jdk_43_method_3_code 1 = .ok (.sipush 255, 3) := by decide +kernel
theorem d8_4 : decode jdk_43_method_3_code 4 = .ok (.if_icmp .gt 7, 3) := by decide +kernel
theorem d8_7 : decode jdk_43_method_3_code 7 = .ok (.iconst 1, 1) := by decide +kernel
theorem d8_8 : decode jdk_43_method_3_code 8 = .ok (.goto 4, 3) := by decide +kernel
theorem d8_11 : decode jdk_43_method_3_code 11 = .ok (.iconst 0, 1) := by decide +kernel
theorem d8_12 : decode jdk_43_method_3_code 12 = .ok (.ireturn, 1) := by decide +kernel
theorem ef_8 (m : MethodId) (p0 : Int32) : entryFrame m #[(.int p0)] 1 = mkF m 0 #[iv p0] [] := by first | (simp [entryFrame, mkF, argsToLocals, Value.category]; done) | rfl
def f8 (p0 : Int32) : Int32 := if (255 : Int32) < p0 then (0 : Int32) else (1 : Int32)
def Q8 (Z : State) (p0 : Int32) (h0 : Heap) (n0 : Nat) (v : Option Value) (h : Heap) (L : List Loc) : Prop := v = some (.int (f8 p0)) ∧ Fr n0 L ∧ h = h0
set_option maxRecDepth 65536 in
set_option maxHeartbeats 40000000 in
theorem rm8 (l : Launch) (Z : State) (ar : Array Value) (hw : ∀ d ∈ tables_1, d.before ar Z = true) (ws : List Jvm.Cond) (p0 : Int32) (h0 : Heap) (n0 : Nat) (O0 : Old Z n0 h0) :
    MetFree l y8 (head1 (Jvm.Cond.code y8 jdk_43_method_3_code 1 (some .boolean) :: ws) ({ frames := 0, cells := 0, slots := 0, locals := 0 } : Room)) (fun a U => a = #[(.int p0)] ∧ Z.Warmed39 U.vm ∧ U.heap = h0) (fun _ _ _ _ _ => True) (fun _ U o U' => ∃ v L, o = .returned v ∧ Q8 Z p0 h0 n0 v U'.heap L ∧ FrameEnd U o U' L ({ frames := 0, cells := 0, slots := 0, locals := 0 } : Room).cells ({ frames := 0, cells := 0, slots := 0, locals := 0 } : Room).slots) := by
 refine MetFree.of_bodySF (plainFor_of_name pn_0) hisR ?_
 intro p e s m args below meth c s₁ Bd hml0 hP hK
 obtain ⟨rfl, hZ, hh⟩ := hP
 have hx := Bd.exec
 have hby := Bd.bytes
 have hml : c.maxLocals = 1 := hml0
 have hown : s.vm.findClass "java/lang/StringLatin1" = some m.cls := findClass_of_methodNamed Bd.named
 have hnm := (name_of_methodNamed Bd.named Bd.method).1
 have X0 : Stand p l e ({ frames := 0, cells := 0, slots := 0, locals := 0 } : Room) s m #[(.int p0)] below meth c s₁ [] 0 0 := Stand.of_body Bd
 have e0 : s₁.heap = h0 := by rw [← hh, Bd.state]; rfl
 have N0 := Fr.nil n0
 have Z0 : n0 ≤ h0.size := Nat.le_trans (Nat.le_of_eq O0.1.symm) O0.2.1
 obtain ⟨S0, hS0⟩ : ∃ z, z = s₁.setTop (entryFrame m #[(.int p0)] 1) := ⟨_, rfl⟩
 have pre0 : ∀ tg, AT p e below s₁ m 0 #[iv p0] [] tg → Steps p.tables e below S0 tg := fun tg kg => by rw [hS0]; exact castTop (ef_8 m p0) kg
 have pre1 : ∀ tg, AT p e below s₁ m 4 #[iv p0] [(.int (255 : Int32)), (.int p0)] tg → Steps p.tables e below S0 tg := fun tg kg => pre0 tg (by
  refine XS.iloadN X0.here hx rfl (hb hby d8_0) rfl ?_
  show AT p e below s₁ m 1 #[iv p0] [(.int p0)] _
  refine XS.sipush X0.here hx rfl (hb hby d8_1) ?_
  exact kg)
 rcases Decidable.em ((255 : Int32) < p0) with hc2 | hc2
 ·
  obtain ⟨fs, hr, hrun, hended, hW, hsame⟩ := X0.leave (v := some (.int (0 : Int32))) (fun h => by rw [Bd.returns] at h; cases h)
  subst hS0
  refine ⟨_, _, pre1 _ ?_, hrun, hended, _, _, rfl, ?_, ⟨_, rfl⟩, hW, hsame.mono (by decide) (by decide)⟩
  ·
   refine XS.icmpYes X0.here hx rfl (pc0 := 4) (pc' := 11) rfl (hb hby d8_4) rfl (XT.ii_gt_t hc2) (by decide) (by decide) ?_
   show AT p e below s₁ m 11 #[iv p0] [] _
   refine XS.iconst X0.here hx rfl (hb hby d8_11) ?_
   show AT p e below s₁ m 12 #[iv p0] [(.int (0 : Int32))] _
   exact retN X0 hx (t := .boolean) Bd.returns (by simp) (hb hby d8_12) hr
  ·
   show Q8 Z p0 h0 n0 _ s₁.heap _
   rw [e0]
   exact ⟨(by rw [f8, if_pos hc2]), N0, rfl⟩
 ·
  obtain ⟨fs, hr, hrun, hended, hW, hsame⟩ := X0.leave (v := some (.int (1 : Int32))) (fun h => by rw [Bd.returns] at h; cases h)
  subst hS0
  refine ⟨_, _, pre1 _ ?_, hrun, hended, _, _, rfl, ?_, ⟨_, rfl⟩, hW, hsame.mono (by decide) (by decide)⟩
  ·
   refine XS.icmpNo X0.here hx rfl (hb hby d8_4) rfl (XT.ii_gt_f hc2) ?_
   show AT p e below s₁ m 7 #[iv p0] [] _
   refine XS.iconst X0.here hx rfl (hb hby d8_7) ?_
   show AT p e below s₁ m 8 #[iv p0] [(.int (1 : Int32))] _
   refine XS.goto X0.here hx rfl (pc0 := 8) (pc' := 12) rfl (hb hby d8_8) (by decide) (by decide) ?_
   show AT p e below s₁ m 12 #[iv p0] [(.int (1 : Int32))] _
   exact retN X0 hx (t := .boolean) Bd.returns (by simp) (hb hby d8_12) hr
  ·
   show Q8 Z p0 h0 n0 _ s₁.heap _
   rw [e0]
   exact ⟨(by rw [f8, if_neg hc2]), N0, rfl⟩

theorem d9_0 : decode jdk_43_method_46_code 0 = .ok (.iconst 1, 1) := by decide +kernel
theorem d9_1 : decode jdk_43_method_46_code 1 = .ok (.newarray .byte, 2) := by decide +kernel
theorem d9_3 : decode jdk_43_method_46_code 3 = .ok (.dup, 1) := by decide +kernel
theorem d9_4 : decode jdk_43_method_46_code 4 = .ok (.iconst 0, 1) := by decide +kernel
theorem d9_5 : decode jdk_43_method_46_code 5 = .ok (.iload_n 0, 1) := by decide +kernel
theorem d9_6 : decode jdk_43_method_46_code 6 = .ok (.i2b, 1) := by decide +kernel
theorem d9_7 : decode jdk_43_method_46_code 7 = .ok (.bastore, 1) := by decide +kernel
theorem d9_8 : decode jdk_43_method_46_code 8 = .ok (.areturn, 1) := by decide +kernel
theorem ef_9 (m : MethodId) (p0 : Int32) : entryFrame m #[(.int p0)] 1 = mkF m 0 #[iv p0] [] := by first | (simp [entryFrame, mkF, argsToLocals, Value.category]; done) | rfl
def Q9 (Z : State) (p0 : Int32) (h0 : Heap) (n0 : Nat) (v : Option Value) (h : Heap) (L : List Loc) : Prop := ∃ (b : Addr) (kb : ClassId), v = some (.ref b) ∧ Fr n0 L ∧ Keep h0 h [] ∧ Arv Z h b kb .byte (1 : Int32) [(.int (nar .byte (p0.toInt8.toInt32)))] (.int (0 : Int32)) ∧ h0.size ≤ b ∧ Exa Z h b "[B"
set_option maxRecDepth 65536 in
set_option maxHeartbeats 40000000 in
theorem rm9 (l : Launch) (Z : State) (ar : Array Value) (hw : ∀ d ∈ tables_1, d.before ar Z = true) (ws : List Jvm.Cond) (p0 : Int32) (h0 : Heap) (n0 : Nat) (O0 : Old Z n0 h0) :
    MetFree l y9 (head1 (Jvm.Cond.code y9 jdk_43_method_46_code 1 (some (.array .byte)) :: ws) ({ frames := 0, cells := 1, slots := 1, locals := 0 } : Room)) (fun a U => a = #[(.int p0)] ∧ Z.Warmed39 U.vm ∧ U.heap = h0) (fun _ _ _ _ _ => True) (fun _ U o U' => ∃ v L, o = .returned v ∧ Q9 Z p0 h0 n0 v U'.heap L ∧ FrameEnd U o U' L ({ frames := 0, cells := 1, slots := 1, locals := 0 } : Room).cells ({ frames := 0, cells := 1, slots := 1, locals := 0 } : Room).slots) := by
 refine MetFree.of_bodySF (plainFor_of_name pn_0) hisR ?_
 intro p e s m args below meth c s₁ Bd hml0 hP hK
 obtain ⟨rfl, hZ, hh⟩ := hP
 have hx := Bd.exec
 have hby := Bd.bytes
 have hml : c.maxLocals = 1 := hml0
 have hown : s.vm.findClass "java/lang/StringLatin1" = some m.cls := findClass_of_methodNamed Bd.named
 have hnm := (name_of_methodNamed Bd.named Bd.method).1
 have X0 : Stand p l e ({ frames := 0, cells := 1, slots := 1, locals := 0 } : Room) s m #[(.int p0)] below meth c s₁ [] 0 0 := Stand.of_body Bd
 have e0 : s₁.heap = h0 := by rw [← hh, Bd.state]; rfl
 have N0 := Fr.nil n0
 have Z0 : n0 ≤ h0.size := Nat.le_trans (Nat.le_of_eq O0.1.symm) O0.2.1
 obtain ⟨S0, hS0⟩ : ∃ z, z = s₁.setTop (entryFrame m #[(.int p0)] 1) := ⟨_, rfl⟩
 have pre0 : ∀ tg, AT p e below s₁ m 0 #[iv p0] [] tg → Steps p.tables e below S0 tg := fun tg kg => by rw [hS0]; exact castTop (ef_9 m p0) kg
 obtain ⟨T1, h1, k1, X1, e1, E1, A1, B1, st1⟩ := newPE X0 hx hZ (ow hw 9 rfl) e0 (g := (mkF m 1 #[iv p0] [(.int (1 : Int32))])) rfl (hb hby d9_1) rfl (by decide) (cap := 1) (by decide) (by decide) (by decide) (by decide) (ad := "[B") (by decide)
 obtain ⟨b1, g1⟩ : ∃ z, z = h0.size := ⟨_, rfl⟩
 rw [← g1] at A1 B1 st1
 have gn1 : n0 ≤ b1 := Nat.le_trans (Nat.le_trans (Nat.le_of_eq O0.1.symm) O0.2.1) (Nat.le_of_eq g1.symm)
 have sz1 : h0.size ≤ b1 := Nat.le_trans (Keep.refl h0 []).1 (Nat.le_of_eq g1.symm)
 have K1 := (Keep.refl h0 []).ext E1
 have O1 := O0.ext E1
 have V1_2 : Arv Z h1 b1 k1 .byte (1 : Int32) [(.int (0 : Int32))] (.int (0 : Int32)) := (Arv.new A1 (by decide)).pad (pad_rep [] (.int (0 : Int32)) 1)
 obtain ⟨cl3, Ar3, q3, S3, M3, H3, G3⟩ := id V1_2
 have hin3 := own_in (0 : Int32) S3 ⟨by decide, by decide⟩
 obtain ⟨T3, h3, X3, e3, W3, st3⟩ := stB X1 hx hZ e1 Ar3 (j := (0 : Int32)) hin3 (g := (mkF m 7 #[iv p0] [(.int (p0.toInt8.toInt32)), (.int (0 : Int32)), (.ref b1), (.ref b1)])) rfl rfl (hb hby d9_7)
 have V3_4 : Arv Z h3 b1 k1 .byte (1 : Int32) [(.int (nar .byte (p0.toInt8.toInt32)))] (.int (0 : Int32)) := Arv.set Ar3 q3 S3 M3 H3 G3 (fits_nar_byte _) W3 0 rfl (Nat.le_of_ble_eq_true rfl)
 have E3_5 := B1.wr W3
 have K3 := K1.wr W3 (Or.inr sz1)
 have O3 := O1.wr W3 gn1
 have N3 := Fr.snoc X3 N0 gn1
 obtain ⟨fs, hr, hrun, hended, hW, hsame⟩ := X3.leave (v := some (.ref b1)) (fun h => by rw [Bd.returns] at h; cases h)
 subst hS0
 refine ⟨_, _, pre0 _ ?_, hrun, hended, _, _, rfl, ?_, ⟨_, rfl⟩, hW, hsame.mono (by decide) (by decide)⟩
 ·
  refine XS.iconst X0.here hx rfl (hb hby d9_0) ?_
  show AT p e below s₁ m 1 #[iv p0] [(.int (1 : Int32))] _
  refine st1 _ ?_
  show AT p e below T1 m 3 #[iv p0] [(.ref b1)] _
  refine XS.dup X1.here hx rfl (hb hby d9_3) rfl rfl ?_
  show AT p e below T1 m 4 #[iv p0] [(.ref b1), (.ref b1)] _
  refine XS.iconst X1.here hx rfl (hb hby d9_4) ?_
  show AT p e below T1 m 5 #[iv p0] [(.int (0 : Int32)), (.ref b1), (.ref b1)] _
  refine XS.iloadN X1.here hx rfl (hb hby d9_5) rfl ?_
  show AT p e below T1 m 6 #[iv p0] [(.int p0), (.int (0 : Int32)), (.ref b1), (.ref b1)] _
  refine XS.i2b X1.here hx rfl (hb hby d9_6) rfl ?_
  show AT p e below T1 m 7 #[iv p0] [(.int (p0.toInt8.toInt32)), (.int (0 : Int32)), (.ref b1), (.ref b1)] _
  refine st3 _ ?_
  show AT p e below T3 m 8 #[iv p0] [(.ref b1)] _
  exact retOut X3 hx (t := (.array .byte)) (i := .areturn) Bd.returns rfl (Or.inr (Or.inr (Or.inr (Or.inr ⟨rfl, rfl, rfl⟩)))) (hb hby d9_8) hr
 ·
  show Q9 Z p0 h0 n0 _ T3.heap _
  rw [e3]
  exact ⟨b1, k1, rfl, N3, K3, V3_4, sz1, E3_5⟩

theorem d10_0 : decode jdk_42_method_151_code 0 = .ok (.aload_n 0, 1) := by decide +kernel
theorem d10_1 : decode jdk_42_method_151_code 1 = .ok (.invokespecial 1, 3) := by decide +kernel
theorem d10_4 : decode jdk_42_method_151_code 4 = .ok (.aload_n 0, 1) := by decide +kernel
theorem d10_5 : decode jdk_42_method_151_code 5 = .ok (.aload_n 1, 1) := by decide +kernel
theorem d10_6 : decode jdk_42_method_151_code 6 = .ok (.putfield 9, 3) := by decide +kernel
theorem d10_9 : decode jdk_42_method_151_code 9 = .ok (.aload_n 0, 1) := by decide +kernel
theorem d10_10 : decode jdk_42_method_151_code 10 = .ok (.iload_n 2, 1) := by decide +kernel
theorem d10_11 : decode jdk_42_method_151_code 11 = .ok (.putfield 15, 3) := by decide +kernel
theorem d10_14 : decode jdk_42_method_151_code 14 = .ok (.return_, 1) := by decide +kernel
theorem ef_10 (m : MethodId) (a0 : Addr) (a1 : Addr) : entryFrame m #[(.ref a0), (.ref a1), (.int (0 : Int32))] 3 = mkF m 0 #[rv a0, rv a1, iv (0 : Int32)] [] := by first | (simp [entryFrame, mkF, argsToLocals, Value.category]; done) | rfl
def Q10 (Z : State) (a0 : Addr) (a1 : Addr) (h0 : Heap) (n0 : Nat) (v : Option Value) (h : Heap) (L : List Loc) : Prop := v = none ∧ Fr n0 L ∧ Keep h0 h [a0] ∧ Exa Z h a0 "java/lang/String" ∧ Fld Z h a0 "java/lang/String" "value" "[B" (.ref a1) ∧ Fld Z h a0 "java/lang/String" "coder" "B" (.int (0 : Int32))
set_option maxRecDepth 65536 in
set_option maxHeartbeats 40000000 in
theorem rm10 (l : Launch) (Z : State) (ar : Array Value) (hw : ∀ d ∈ tables_1, d.before ar Z = true) (ws : List Jvm.Cond) (a0 : Addr) (a1 : Addr) (h0 : Heap) (n0 : Nat) (O0 : Old Z n0 h0) (pf0 : Exa Z h0 a0 "java/lang/String") (pf1 : Fld Z h0 a0 "java/lang/String" "value" "[B" .null) (pf2 : Fld Z h0 a0 "java/lang/String" "coder" "B" (.int (0 : Int32))) (pf3 : n0 ≤ a0) :
    MetFree l y10 (head1 (Jvm.Cond.code y10 jdk_42_method_151_code 3 none :: ws) ({ frames := 1, cells := 0, slots := 0, locals := 12 } : Room)) (fun a U => a = #[(.ref a0), (.ref a1), (.int (0 : Int32))] ∧ Z.Warmed39 U.vm ∧ U.heap = h0) (fun _ _ _ _ _ => True) (fun _ U o U' => ∃ v L, o = .returned v ∧ Q10 Z a0 a1 h0 n0 v U'.heap L ∧ FrameEnd U o U' L ({ frames := 1, cells := 0, slots := 0, locals := 12 } : Room).cells ({ frames := 1, cells := 0, slots := 0, locals := 12 } : Room).slots) := by
 refine MetFree.of_bodySF (plainFor_of_name pn_1) hisR ?_
 intro p e s m args below meth c s₁ Bd hml0 hP hK
 obtain ⟨rfl, hZ, hh⟩ := hP
 have hx := Bd.exec
 have hby := Bd.bytes
 have hml : c.maxLocals = 3 := hml0
 have hown : s.vm.findClass "java/lang/String" = some m.cls := findClass_of_methodNamed Bd.named
 have hnm := (name_of_methodNamed Bd.named Bd.method).1
 have X0 : Stand p l e ({ frames := 1, cells := 0, slots := 0, locals := 12 } : Room) s m #[(.ref a0), (.ref a1), (.int (0 : Int32))] below meth c s₁ [] 0 0 := Stand.of_body Bd
 have e0 : s₁.heap = h0 := by rw [← hh, Bd.state]; rfl
 have N0 := Fr.nil n0
 have Z0 : n0 ≤ h0.size := Nat.le_trans (Nat.le_of_eq O0.1.symm) O0.2.1
 obtain ⟨S0, hS0⟩ : ∃ z, z = s₁.setTop (entryFrame m #[(.ref a0), (.ref a1), (.int (0 : Int32))] 3) := ⟨_, rfl⟩
 have pre0 : ∀ tg, AT p e below s₁ m 0 #[rv a0, rv a1, iv (0 : Int32)] [] tg → Steps p.tables e below S0 tg := fun tg kg => by rw [hS0]; exact castTop (ef_10 m a0 a1) kg
 obtain ⟨T1, X1, e1, st1⟩ := initO X0 hx hZ hown (ow hw 53 rfl) (ow hw 7 rfl) (ow hw 8 rfl) e0 (g := (mkF m 1 #[rv a0, rv a1, iv (0 : Int32)] [(.ref a0)])) rfl (by rw [hml]; rfl) rfl (hb hby d10_1) (by decide) (W := 0) (by show 2 * 0 + _ ≤ _; exact Nat.le_of_eq rfl) (by decide)
 obtain ⟨T2, h2, X2, e2, W2, st2⟩ := putF X1 hx hZ hown (host := "") (Or.inl (ow hw 54 rfl)) Via.refl e1 pf1 pf0 (Or.inr ⟨(ow hw 55 rfl), rfl, hnm⟩) (ow hw 45 rfl) (ty := (.array .byte)) (by decide) rfl rfl (g := (mkF m 6 #[rv a0, rv a1, iv (0 : Int32)] [(.ref a1), (.ref a0)])) rfl rfl (hb hby d10_6)
 have E2_3 := pf0.wr W2
 have F2_4 : Fld Z h2 a0 "java/lang/String" "value" "[B" (.ref a1) := pf1.same W2
 have F2_5 := pf2.other W2 (Or.inr (slot_ne (Or.inr (ow hw 57 rfl)) (Or.inr (ow hw 55 rfl)) (by decide) (t := .byte) (t' := (.array .byte)) (by decide) (by decide)))
 have K2 := (Keep.refl h0 [a0]).wr W2 (Or.inl (List.mem_of_getElem? (i := 0) rfl))
 have O2 := O0.wr W2 pf3
 have N2 := Fr.snoc X2 N0 pf3
 obtain ⟨T6, h6, X6, e6, W6, st6⟩ := putFN X2 hx hZ hown (ow hw 56 rfl) Via.refl e2 F2_5 E2_3 (Or.inr ⟨(ow hw 57 rfl), rfl, hnm⟩) (ow hw 45 rfl) (ty := .byte) (v' := (.int (0 : Int32))) (by decide) rfl rfl (g := (mkF m 11 #[rv a0, rv a1, iv (0 : Int32)] [(.int (0 : Int32)), (.ref a0)])) rfl rfl (hb hby d10_11)
 have E6_7 := E2_3.wr W6
 have F6_8 := F2_4.other W6 (Or.inr (slot_ne (Or.inr (ow hw 55 rfl)) (Or.inr (ow hw 57 rfl)) (by decide) (t := (.array .byte)) (t' := .byte) (by decide) (by decide)))
 have F6_9 : Fld Z h6 a0 "java/lang/String" "coder" "B" (.int (0 : Int32)) := F2_5.same W6
 have K6 := K2.wr W6 (Or.inl (List.mem_of_getElem? (i := 0) rfl))
 have O6 := O2.wr W6 pf3
 have N6 := Fr.snoc X6 N2 pf3
 obtain ⟨fs, hr, hrun, hended, hW, hsame⟩ := X6.leave (v := none) (fun _ => rfl)
 subst hS0
 refine ⟨_, _, pre0 _ ?_, hrun, hended, _, _, rfl, ?_, ⟨_, rfl⟩, hW, hsame.mono (by decide) (by decide)⟩
 ·
  refine XS.aloadN X0.here hx rfl (hb hby d10_0) rfl rfl ?_
  show AT p e below s₁ m 1 #[rv a0, rv a1, iv (0 : Int32)] [(.ref a0)] _
  refine st1 _ ?_
  show AT p e below T1 m 4 #[rv a0, rv a1, iv (0 : Int32)] [] _
  refine XS.aloadN X1.here hx rfl (hb hby d10_4) rfl rfl ?_
  show AT p e below T1 m 5 #[rv a0, rv a1, iv (0 : Int32)] [(.ref a0)] _
  refine XS.aloadN X1.here hx rfl (hb hby d10_5) rfl rfl ?_
  show AT p e below T1 m 6 #[rv a0, rv a1, iv (0 : Int32)] [(.ref a1), (.ref a0)] _
  refine st2 _ ?_
  show AT p e below T2 m 9 #[rv a0, rv a1, iv (0 : Int32)] [] _
  refine XS.aloadN X2.here hx rfl (hb hby d10_9) rfl rfl ?_
  show AT p e below T2 m 10 #[rv a0, rv a1, iv (0 : Int32)] [(.ref a0)] _
  refine XS.iloadN X2.here hx rfl (hb hby d10_10) rfl ?_
  show AT p e below T2 m 11 #[rv a0, rv a1, iv (0 : Int32)] [(.int (0 : Int32)), (.ref a0)] _
  refine st6 _ ?_
  show AT p e below T6 m 14 #[rv a0, rv a1, iv (0 : Int32)] [] _
  exact X6.returnOut hx Bd.returns (hb hby d10_14) hr
 ·
  show Q10 Z a0 a1 h0 n0 _ T6.heap _
  rw [e6]
  exact ⟨rfl, N6, K6, E6_7, F6_8, F6_9⟩

theorem d7_0 : decode jdk_42_method_139_code 0 = .ok (.getstatic 38, 3) := by decide +kernel
theorem d7_3 : decode jdk_42_method_139_code 3 = .ok (.ifCond .eq 23, 3) := by decide +kernel
theorem d7_6 : decode jdk_42_method_139_code 6 = .ok (.iload_n 0, 1) := by decide +kernel
theorem d7_7 : decode jdk_42_method_139_code 7 = .ok (.invokestatic 1015, 3) := by decide +kernel
theorem d7_10 : decode jdk_42_method_139_code 10 = .ok (.ifCond .eq 16, 3) := by decide +kernel
theorem d7_13 : decode jdk_42_method_139_code 13 = .ok (.new 10, 3) := by decide +kernel
theorem d7_16 : decode jdk_42_method_139_code 16 = .ok (.dup, 1) := by decide +kernel
theorem d7_17 : decode jdk_42_method_139_code 17 = .ok (.iload_n 0, 1) := by decide +kernel
theorem d7_18 : decode jdk_42_method_139_code 18 = .ok (.invokestatic 1018, 3) := by decide +kernel
theorem d7_21 : decode jdk_42_method_139_code 21 = .ok (.iconst 0, 1) := by decide +kernel
theorem d7_22 : decode jdk_42_method_139_code 22 = .ok (.invokespecial 209, 3) := by decide +kernel
theorem d7_25 : decode jdk_42_method_139_code 25 = .ok (.areturn, 1) := by decide +kernel
theorem ef_7 (m : MethodId) (p0 : Int32) : entryFrame m #[(.int p0)] 1 = mkF m 0 #[iv p0] [] := by first | (simp [entryFrame, mkF, argsToLocals, Value.category]; done) | rfl
def Q7 (Z : State) (p0 : Int32) (w_CS0 : Int32) (w_SF1 : Value) (h0 : Heap) (n0 : Nat) (v : Option Value) (h : Heap) (L : List Loc) : Prop := ∃ (t : Addr) (b : Addr) (kb : ClassId), v = some (.ref t) ∧ Fr n0 L ∧ Keep h0 h [] ∧ Exa Z h t "java/lang/String" ∧ Fld Z h t "java/lang/String" "coder" "B" (.int (0 : Int32)) ∧ Fld Z h t "java/lang/String" "value" "[B" (.ref b) ∧ Arv Z h b kb .byte (1 : Int32) [(.int (nar .byte (p0.toInt8.toInt32)))] (.int (0 : Int32)) ∧ Exa Z h b "[B" ∧ h0.size ≤ t ∧ h0.size ≤ b ∧ t ≠ b
set_option maxRecDepth 65536 in
set_option maxHeartbeats 40000000 in
theorem rm7 (l : Launch) (Z : State) (ar : Array Value) (hw : ∀ d ∈ tables_1, d.before ar Z = true) (ws : List Jvm.Cond) (p0 : Int32) (w_CS0 : Int32) (w_SF1 : Value) (h0 : Heap) (n0 : Nat) (O0 : Old Z n0 h0) (HW : Wd Z w_CS0 w_SF1) (l0 : ¬ (255 : Int32) < p0) :
    MetFree l y7 (head1 (Jvm.Cond.code y7 jdk_42_method_139_code 1 (some (.object "java/lang/String")) :: ws) ({ frames := 2, cells := 2, slots := 5, locals := 27 } : Room)) (fun a U => a = #[(.int p0)] ∧ Z.Warmed39 U.vm ∧ U.heap = h0) (fun _ _ _ _ _ => True) (fun _ U o U' => ∃ v L, o = .returned v ∧ Q7 Z p0 w_CS0 w_SF1 h0 n0 v U'.heap L ∧ FrameEnd U o U' L ({ frames := 2, cells := 2, slots := 5, locals := 27 } : Room).cells ({ frames := 2, cells := 2, slots := 5, locals := 27 } : Room).slots) := by
 refine MetFree.of_bodySF (plainFor_of_name pn_1) hisR ?_
 intro p e s m args below meth c s₁ Bd hml0 hP hK
 obtain ⟨rfl, hZ, hh⟩ := hP
 have hx := Bd.exec
 have hby := Bd.bytes
 have hml : c.maxLocals = 1 := hml0
 have hown : s.vm.findClass "java/lang/String" = some m.cls := findClass_of_methodNamed Bd.named
 have hnm := (name_of_methodNamed Bd.named Bd.method).1
 have X0 : Stand p l e ({ frames := 2, cells := 2, slots := 5, locals := 27 } : Room) s m #[(.int p0)] below meth c s₁ [] 0 0 := Stand.of_body Bd
 have e0 : s₁.heap = h0 := by rw [← hh, Bd.state]; rfl
 have N0 := Fr.nil n0
 have Z0 : n0 ≤ h0.size := Nat.le_trans (Nat.le_of_eq O0.1.symm) O0.2.1
 obtain ⟨S0, hS0⟩ : ∃ z, z = s₁.setTop (entryFrame m #[(.int p0)] 1) := ⟨_, rfl⟩
 have pre0 : ∀ tg, AT p e below s₁ m 0 #[iv p0] [] tg → Steps p.tables e below S0 tg := fun tg kg => by rw [hS0]; exact castTop (ef_7 m p0) kg
 obtain ⟨S_COMPACT_STRINGS, hz_w_CS0, S_SIOOBE_FORMATTER, ir_w_SF1⟩ := id HW
 obtain ⟨T1, X1, e1, st1⟩ := getS2 X0 hx hZ hown (host := "") (Or.inl (ow hw 39 rfl)) Via.refl e0 (S_COMPACT_STRINGS.ext O0.2) (g := (mkF m 0 #[iv p0] [])) rfl (hb hby d7_0)
 obtain ⟨_, _, ⟨T2, L2, k2, n2⟩, -, X2, ⟨Lc2, hQ2, l2, y2, z2⟩, st2⟩ := Jvm.LawKit.callS X1 hx (y := y8) hown (mvT hZ (ow hw 40 rfl)) (mvT hZ (ow hw 41 rfl)) (mvT hZ (ow hw 42 rfl)) (mvT hZ (ow hw 43 rfl)) (by decide) (backOf (W := 0) (rm8 l Z ar hw [] p0 h0 n0 O0) hZ (ow hw 43 rfl) (ow hw 42 rfl) (by decide) (by decide)) (g := (mkF m 7 #[iv p0] [(.int p0)])) rfl (by rw [hml]; rfl) (argsL := [(.int p0)]) (rest := []) (lenOf pd_0 rfl) rfl (by show 2 * 0 + _ ≤ _; exact Nat.le_of_eq rfl) (hb hby d7_7) (fun _ _ => ⟨rfl, e1, (by decide : 0 + 0 ≤ _), (by decide : 0 + 0 ≤ _)⟩)
 dsimp only [Pt.U, Pt.locs, Pt.cells, Pt.slots] at X2 l2 y2 z2 st2 hQ2
 subst l2 y2 z2
 obtain ⟨rfl, N2q, e2⟩ := hQ2
 have N2 := Fr.app N0 N2q
 have r2 : (f8 p0) = (1 : Int32) := by rw [f8, if_neg (l0 : ¬ ((255 : Int32) < p0))] <;> decide
 rw [r2] at st2
 obtain ⟨T3, h3, X3, e3, E3, A3, D3, -, st3⟩ := newO X2 hx hZ hown (ow hw 44 rfl) (ow hw 45 rfl) (ow hw 37 rfl) e2 (g := (mkF m 13 #[iv p0] [])) rfl (hb hby d7_13) (by decide) (by decide)
 obtain ⟨b3, g3⟩ : ∃ z, z = h0.size := ⟨_, rfl⟩
 rw [← g3] at A3 D3 st3
 have gn3 : n0 ≤ b3 := Nat.le_trans (Nat.le_trans (Nat.le_of_eq O0.1.symm) O0.2.1) (Nat.le_of_eq g3.symm)
 have sz3 : h0.size ≤ b3 := Nat.le_trans (Keep.refl h0 []).1 (Nat.le_of_eq g3.symm)
 have K3 := (Keep.refl h0 []).ext E3
 have O3 := O0.ext E3
 have F3_4 : Fld Z h3 b3 "java/lang/String" "value" "[B" .null := D3 (Or.inr (ow hw 55 rfl)) (ty := (.array .byte)) (by decide)
 have F3_5 : Fld Z h3 b3 "java/lang/String" "coder" "B" (.int (0 : Int32)) := D3 (Or.inr (ow hw 57 rfl)) (ty := .byte) (by decide)
 obtain ⟨_, _, ⟨T6, L6, k6, n6⟩, -, X6, ⟨Lc6, hQ6, l6, y6, z6⟩, st6⟩ := Jvm.LawKit.callS X3 hx (y := y9) hown (mvT hZ (ow hw 46 rfl)) (mvT hZ (ow hw 47 rfl)) (mvT hZ (ow hw 42 rfl)) (mvT hZ (ow hw 48 rfl)) (by decide) (backOf (W := 2) (rm9 l Z ar hw [] p0 h3 n0 O3) hZ (ow hw 48 rfl) (ow hw 42 rfl) (by decide) (by decide)) (g := (mkF m 18 #[iv p0] [(.int p0), (.ref b3), (.ref b3)])) rfl (by rw [hml]; rfl) (argsL := [(.int p0)]) (rest := [(.ref b3), (.ref b3)]) (lenOf pd_1 rfl) rfl (by show 2 * 0 + _ ≤ _; exact Nat.le_of_eq rfl) (hb hby d7_18) (fun _ _ => ⟨rfl, e3, (by decide : 1 + 1 ≤ _), (by decide : 4 + 1 ≤ _)⟩)
 dsimp only [Pt.U, Pt.locs, Pt.cells, Pt.slots] at X6 l6 y6 z6 st6 hQ6
 subst l6 y6 z6
 obtain ⟨b_6, kb_6, rfl, N6q, Kq6, u6_0, u6_1, u6_2⟩ := hQ6
 have N6 := Fr.app N2 N6q
 have E6_7 := A3.keep Kq6
 have F6_8 := F3_4.keep Kq6 nin0
 have F6_9 := F3_5.keep Kq6 nin0
 have K6 := K3.trans Kq6 all0
 have O6 := O3.keep Kq6 all0
 have sz10 : h0.size ≤ b_6 := Nat.le_trans K3.1 u6_1
 have gn10 : n0 ≤ b_6 := Nat.le_trans (Nat.le_trans (Nat.le_of_eq O3.1.symm) O3.2.1) u6_1
 have ne11 : b3 ≠ b_6 := Nat.ne_of_lt (Nat.lt_of_lt_of_le (A3).lt u6_1)
 obtain ⟨_, _, ⟨T12, L12, k12, n12⟩, -, X12, ⟨Lc12, hQ12, l12, y12, z12⟩, st12⟩ := X6.specialBack hx (y := y10) rfl hown (mvT hZ (ow hw 49 rfl)) (mvT hZ (ow hw 50 rfl)) (mvT hZ (ow hw 52 rfl)) (by decide) (backOf (W := 1) (rm10 l Z ar hw [] b3 b_6 T6.heap n0 O6 E6_7 F6_8 F6_9 gn3) hZ (ow hw 52 rfl) (ow hw 37 rfl) (by decide) (by decide)) (g := (mkF m 22 #[iv p0] [(.int (0 : Int32)), (.ref b_6), (.ref b3), (.ref b3)])) rfl (by rw [hml]; rfl) (Steps.refl _) (a := b3) (argsL := [(.ref b_6), (.int (0 : Int32))]) (rest := [(.ref b3)]) (lenOf pd_2 rfl) rfl (by show 2 * 0 + _ ≤ _; exact Nat.le_of_eq rfl) (hb hby d7_22) (fun _ _ => ⟨rfl, rfl, (by decide : 2 + 0 ≤ _), (by decide : 5 + 0 ≤ _)⟩)
 dsimp only [Pt.U, Pt.locs, Pt.cells, Pt.slots] at X12 l12 y12 z12 st12 hQ12
 subst l12 y12 z12
 obtain ⟨rfl, N12q, Kq12, u12_0, u12_1, u12_2⟩ := hQ12
 have N12 := Fr.app N6 N12q
 have E12_13 := E6_7.keep Kq12
 have V12_14 := u6_0.keep Kq12 (ninS (Ne.symm ne11) nin0)
 have E12_15 := u6_2.keep Kq12
 have K12 := K6.trans Kq12 (allS (Or.inr sz3) all0)
 have O12 := O6.keep Kq12 (allS gn3 all0)
 obtain ⟨fs, hr, hrun, hended, hW, hsame⟩ := X12.leave (v := some (.ref b3)) (fun h => by rw [Bd.returns] at h; cases h)
 subst hS0
 refine ⟨_, _, pre0 _ ?_, hrun, hended, _, _, rfl, ?_, ⟨_, rfl⟩, hW, hsame.mono (by decide) (by decide)⟩
 ·
  refine st1 _ ?_
  show AT p e below T1 m 3 #[iv p0] [(.int w_CS0)] _
  refine XS.ifNo X1.here hx rfl (hb hby d7_3) rfl (XT.i0_eq_f (hz_w_CS0 : ¬ (w_CS0 = (0 : Int32)))) ?_
  show AT p e below T1 m 6 #[iv p0] [] _
  refine XS.iloadN X1.here hx rfl (hb hby d7_6) rfl ?_
  show AT p e below T1 m 7 #[iv p0] [(.int p0)] _
  refine st2 _ ?_
  show AT p e below T2 m 10 #[iv p0] [(.int (1 : Int32))] _
  refine XS.ifNo X2.here hx rfl (hb hby d7_10) rfl (XT.i0_eq_f ((by decide) : ¬ ((1 : Int32) = (0 : Int32)))) ?_
  show AT p e below T2 m 13 #[iv p0] [] _
  refine st3 _ ?_
  show AT p e below T3 m 16 #[iv p0] [(.ref b3)] _
  refine XS.dup X3.here hx rfl (hb hby d7_16) rfl rfl ?_
  show AT p e below T3 m 17 #[iv p0] [(.ref b3), (.ref b3)] _
  refine XS.iloadN X3.here hx rfl (hb hby d7_17) rfl ?_
  show AT p e below T3 m 18 #[iv p0] [(.int p0), (.ref b3), (.ref b3)] _
  refine st6 _ ?_
  show AT p e below T6 m 21 #[iv p0] [(.ref b_6), (.ref b3), (.ref b3)] _
  refine XS.iconst X6.here hx rfl (hb hby d7_21) ?_
  show AT p e below T6 m 22 #[iv p0] [(.int (0 : Int32)), (.ref b_6), (.ref b3), (.ref b3)] _
  refine st12.trans ?_
  show AT p e below T12 m 25 #[iv p0] [(.ref b3)] _
  exact retOut X12 hx (t := (.object "java/lang/String")) (i := .areturn) Bd.returns rfl (Or.inr (Or.inr (Or.inr (Or.inr ⟨rfl, rfl, rfl⟩)))) (hb hby d7_25) hr
 ·
  show Q7 Z p0 w_CS0 w_SF1 h0 n0 _ T12.heap _
  exact ⟨b3, b_6, kb_6, rfl, N12, K12, E12_13, u12_2, u12_1, V12_14, E12_15, sz3, sz10, ne11⟩

theorem d13_0 : decode jdk_42_method_152_code 0 = .ok (.getstatic 38, 3) := by decide +kernel
theorem d13_3 : decode jdk_42_method_152_code 3 = .ok (.ifCond .eq 10, 3) := by decide +kernel
theorem d13_6 : decode jdk_42_method_152_code 6 = .ok (.aload_n 0, 1) := by decide +kernel
theorem d13_7 : decode jdk_42_method_152_code 7 = .ok (.getfield 15, 3) := by decide +kernel
theorem d13_10 : decode jdk_42_method_152_code 10 = .ok (.goto 4, 3) := by decide +kernel
theorem d13_14 : decode jdk_42_method_152_code 14 = .ok (.ireturn, 1) := by decide +kernel
theorem ef_13 (m : MethodId) (a0 : Addr) : entryFrame m #[(.ref a0)] 1 = mkF m 0 #[rv a0] [] := by first | (simp [entryFrame, mkF, argsToLocals, Value.category]; done) | rfl
def Q13 (Z : State) (a0 : Addr) (w_CS0 : Int32) (w_SF1 : Value) (h0 : Heap) (n0 : Nat) (v : Option Value) (h : Heap) (L : List Loc) : Prop := v = some (.int (0 : Int32)) ∧ Fr n0 L ∧ h = h0
set_option maxRecDepth 65536 in
set_option maxHeartbeats 40000000 in
theorem rm13 (l : Launch) (Z : State) (ar : Array Value) (hw : ∀ d ∈ tables_1, d.before ar Z = true) (ws : List Jvm.Cond) (a0 : Addr) (w_CS0 : Int32) (w_SF1 : Value) (h0 : Heap) (n0 : Nat) (O0 : Old Z n0 h0) (HW : Wd Z w_CS0 w_SF1) (pf0 : Fld Z h0 a0 "java/lang/String" "coder" "B" (.int (0 : Int32))) :
    MetFree l y13 (head1 (Jvm.Cond.code y13 jdk_42_method_152_code 1 (some .byte) :: ws) ({ frames := 0, cells := 0, slots := 0, locals := 0 } : Room)) (fun a U => a = #[(.ref a0)] ∧ Z.Warmed39 U.vm ∧ U.heap = h0) (fun _ _ _ _ _ => True) (fun _ U o U' => ∃ v L, o = .returned v ∧ Q13 Z a0 w_CS0 w_SF1 h0 n0 v U'.heap L ∧ FrameEnd U o U' L ({ frames := 0, cells := 0, slots := 0, locals := 0 } : Room).cells ({ frames := 0, cells := 0, slots := 0, locals := 0 } : Room).slots) := by
 refine MetFree.of_bodySF (plainFor_of_name pn_1) hisR ?_
 intro p e s m args below meth c s₁ Bd hml0 hP hK
 obtain ⟨rfl, hZ, hh⟩ := hP
 have hx := Bd.exec
 have hby := Bd.bytes
 have hml : c.maxLocals = 1 := hml0
 have hown : s.vm.findClass "java/lang/String" = some m.cls := findClass_of_methodNamed Bd.named
 have hnm := (name_of_methodNamed Bd.named Bd.method).1
 have X0 : Stand p l e ({ frames := 0, cells := 0, slots := 0, locals := 0 } : Room) s m #[(.ref a0)] below meth c s₁ [] 0 0 := Stand.of_body Bd
 have e0 : s₁.heap = h0 := by rw [← hh, Bd.state]; rfl
 have N0 := Fr.nil n0
 have Z0 : n0 ≤ h0.size := Nat.le_trans (Nat.le_of_eq O0.1.symm) O0.2.1
 obtain ⟨S0, hS0⟩ : ∃ z, z = s₁.setTop (entryFrame m #[(.ref a0)] 1) := ⟨_, rfl⟩
 have pre0 : ∀ tg, AT p e below s₁ m 0 #[rv a0] [] tg → Steps p.tables e below S0 tg := fun tg kg => by rw [hS0]; exact castTop (ef_13 m a0) kg
 obtain ⟨S_COMPACT_STRINGS, hz_w_CS0, S_SIOOBE_FORMATTER, ir_w_SF1⟩ := id HW
 obtain ⟨T1, X1, e1, st1⟩ := getS2 X0 hx hZ hown (host := "") (Or.inl (ow hw 39 rfl)) Via.refl e0 (S_COMPACT_STRINGS.ext O0.2) (g := (mkF m 0 #[rv a0] [])) rfl (hb hby d13_0)
 obtain ⟨T2, X2, e2, st2⟩ := getF X1 hx hZ hown (host := "") (Or.inl (ow hw 56 rfl)) Via.refl e1 pf0 (g := (mkF m 7 #[rv a0] [(.ref a0)])) rfl rfl (hb hby d13_7)
 obtain ⟨fs, hr, hrun, hended, hW, hsame⟩ := X2.leave (v := some (.int (0 : Int32))) (fun h => by rw [Bd.returns] at h; cases h)
 subst hS0
 refine ⟨_, _, pre0 _ ?_, hrun, hended, _, _, rfl, ?_, ⟨_, rfl⟩, hW, hsame.mono (by decide) (by decide)⟩
 ·
  refine st1 _ ?_
  show AT p e below T1 m 3 #[rv a0] [(.int w_CS0)] _
  refine XS.ifNo X1.here hx rfl (hb hby d13_3) rfl (XT.i0_eq_f (hz_w_CS0 : ¬ (w_CS0 = (0 : Int32)))) ?_
  show AT p e below T1 m 6 #[rv a0] [] _
  refine XS.aloadN X1.here hx rfl (hb hby d13_6) rfl rfl ?_
  show AT p e below T1 m 7 #[rv a0] [(.ref a0)] _
  refine st2 _ ?_
  show AT p e below T2 m 10 #[rv a0] [(.int (0 : Int32))] _
  refine XS.goto X2.here hx rfl (pc0 := 10) (pc' := 14) rfl (hb hby d13_10) (by decide) (by decide) ?_
  show AT p e below T2 m 14 #[rv a0] [(.int (0 : Int32))] _
  exact retN X2 hx (t := .byte) Bd.returns (by simp) (hb hby d13_14) hr
 ·
  show Q13 Z a0 w_CS0 w_SF1 h0 n0 _ T2.heap _
  rw [e2]
  exact ⟨rfl, N0, rfl⟩

theorem d16_0 : decode jdk_42_method_154_code 0 = .ok (.getstatic 38, 3) := by decide +kernel
theorem d16_3 : decode jdk_42_method_154_code 3 = .ok (.ifCond .eq 14, 3) := by decide +kernel
theorem d16_6 : decode jdk_42_method_154_code 6 = .ok (.aload_n 0, 1) := by decide +kernel
theorem d16_7 : decode jdk_42_method_154_code 7 = .ok (.getfield 15, 3) := by decide +kernel
theorem d16_10 : decode jdk_42_method_154_code 10 = .ok (.ifCond .ne 7, 3) := by decide +kernel
theorem d16_13 : decode jdk_42_method_154_code 13 = .ok (.iconst 1, 1) := by decide +kernel
theorem d16_14 : decode jdk_42_method_154_code 14 = .ok (.goto 4, 3) := by decide +kernel
theorem d16_18 : decode jdk_42_method_154_code 18 = .ok (.ireturn, 1) := by decide +kernel
theorem ef_16 (m : MethodId) (a0 : Addr) : entryFrame m #[(.ref a0)] 1 = mkF m 0 #[rv a0] [] := by first | (simp [entryFrame, mkF, argsToLocals, Value.category]; done) | rfl
def Q16 (Z : State) (a0 : Addr) (w_CS0 : Int32) (w_SF1 : Value) (h0 : Heap) (n0 : Nat) (v : Option Value) (h : Heap) (L : List Loc) : Prop := v = some (.int (1 : Int32)) ∧ Fr n0 L ∧ h = h0
set_option maxRecDepth 65536 in
set_option maxHeartbeats 40000000 in
theorem rm16 (l : Launch) (Z : State) (ar : Array Value) (hw : ∀ d ∈ tables_1, d.before ar Z = true) (ws : List Jvm.Cond) (a0 : Addr) (w_CS0 : Int32) (w_SF1 : Value) (h0 : Heap) (n0 : Nat) (O0 : Old Z n0 h0) (HW : Wd Z w_CS0 w_SF1) (pf0 : Fld Z h0 a0 "java/lang/String" "coder" "B" (.int (0 : Int32))) :
    MetFree l y16 (head1 (Jvm.Cond.code y16 jdk_42_method_154_code 1 (some .boolean) :: ws) ({ frames := 0, cells := 0, slots := 0, locals := 0 } : Room)) (fun a U => a = #[(.ref a0)] ∧ Z.Warmed39 U.vm ∧ U.heap = h0) (fun _ _ _ _ _ => True) (fun _ U o U' => ∃ v L, o = .returned v ∧ Q16 Z a0 w_CS0 w_SF1 h0 n0 v U'.heap L ∧ FrameEnd U o U' L ({ frames := 0, cells := 0, slots := 0, locals := 0 } : Room).cells ({ frames := 0, cells := 0, slots := 0, locals := 0 } : Room).slots) := by
 refine MetFree.of_bodySF (plainFor_of_name pn_1) hisR ?_
 intro p e s m args below meth c s₁ Bd hml0 hP hK
 obtain ⟨rfl, hZ, hh⟩ := hP
 have hx := Bd.exec
 have hby := Bd.bytes
 have hml : c.maxLocals = 1 := hml0
 have hown : s.vm.findClass "java/lang/String" = some m.cls := findClass_of_methodNamed Bd.named
 have hnm := (name_of_methodNamed Bd.named Bd.method).1
 have X0 : Stand p l e ({ frames := 0, cells := 0, slots := 0, locals := 0 } : Room) s m #[(.ref a0)] below meth c s₁ [] 0 0 := Stand.of_body Bd
 have e0 : s₁.heap = h0 := by rw [← hh, Bd.state]; rfl
 have N0 := Fr.nil n0
 have Z0 : n0 ≤ h0.size := Nat.le_trans (Nat.le_of_eq O0.1.symm) O0.2.1
 obtain ⟨S0, hS0⟩ : ∃ z, z = s₁.setTop (entryFrame m #[(.ref a0)] 1) := ⟨_, rfl⟩
 have pre0 : ∀ tg, AT p e below s₁ m 0 #[rv a0] [] tg → Steps p.tables e below S0 tg := fun tg kg => by rw [hS0]; exact castTop (ef_16 m a0) kg
 obtain ⟨S_COMPACT_STRINGS, hz_w_CS0, S_SIOOBE_FORMATTER, ir_w_SF1⟩ := id HW
 obtain ⟨T1, X1, e1, st1⟩ := getS2 X0 hx hZ hown (host := "") (Or.inl (ow hw 39 rfl)) Via.refl e0 (S_COMPACT_STRINGS.ext O0.2) (g := (mkF m 0 #[rv a0] [])) rfl (hb hby d16_0)
 obtain ⟨T2, X2, e2, st2⟩ := getF X1 hx hZ hown (host := "") (Or.inl (ow hw 56 rfl)) Via.refl e1 pf0 (g := (mkF m 7 #[rv a0] [(.ref a0)])) rfl rfl (hb hby d16_7)
 obtain ⟨fs, hr, hrun, hended, hW, hsame⟩ := X2.leave (v := some (.int (1 : Int32))) (fun h => by rw [Bd.returns] at h; cases h)
 subst hS0
 refine ⟨_, _, pre0 _ ?_, hrun, hended, _, _, rfl, ?_, ⟨_, rfl⟩, hW, hsame.mono (by decide) (by decide)⟩
 ·
  refine st1 _ ?_
  show AT p e below T1 m 3 #[rv a0] [(.int w_CS0)] _
  refine XS.ifNo X1.here hx rfl (hb hby d16_3) rfl (XT.i0_eq_f (hz_w_CS0 : ¬ (w_CS0 = (0 : Int32)))) ?_
  show AT p e below T1 m 6 #[rv a0] [] _
  refine XS.aloadN X1.here hx rfl (hb hby d16_6) rfl rfl ?_
  show AT p e below T1 m 7 #[rv a0] [(.ref a0)] _
  refine st2 _ ?_
  show AT p e below T2 m 10 #[rv a0] [(.int (0 : Int32))] _
  refine XS.ifNo X2.here hx rfl (hb hby d16_10) rfl (XT.i0_ne_f ((by decide) : (0 : Int32) = (0 : Int32))) ?_
  show AT p e below T2 m 13 #[rv a0] [] _
  refine XS.iconst X2.here hx rfl (hb hby d16_13) ?_
  show AT p e below T2 m 14 #[rv a0] [(.int (1 : Int32))] _
  refine XS.goto X2.here hx rfl (pc0 := 14) (pc' := 18) rfl (hb hby d16_14) (by decide) (by decide) ?_
  show AT p e below T2 m 18 #[rv a0] [(.int (1 : Int32))] _
  exact retN X2 hx (t := .boolean) Bd.returns (by simp) (hb hby d16_18) hr
 ·
  show Q16 Z a0 w_CS0 w_SF1 h0 n0 _ T2.heap _
  rw [e2]
  exact ⟨rfl, N0, rfl⟩

theorem d12_0 : decode jdk_42_method_54_code 0 = .ok (.aload_n 0, 1) := by decide +kernel
theorem d12_1 : decode jdk_42_method_54_code 1 = .ok (.getfield 9, 3) := by decide +kernel
theorem d12_4 : decode jdk_42_method_54_code 4 = .ok (.arraylength, 1) := by decide +kernel
theorem d12_5 : decode jdk_42_method_54_code 5 = .ok (.aload_n 0, 1) := by decide +kernel
theorem d12_6 : decode jdk_42_method_54_code 6 = .ok (.invokevirtual 335, 3) := by decide +kernel
theorem d12_9 : decode jdk_42_method_54_code 9 = .ok (.ishr, 1) := by decide +kernel
theorem d12_10 : decode jdk_42_method_54_code 10 = .ok (.ireturn, 1) := by decide +kernel
theorem ef_12 (m : MethodId) (a0 : Addr) : entryFrame m #[(.ref a0)] 1 = mkF m 0 #[rv a0] [] := by first | (simp [entryFrame, mkF, argsToLocals, Value.category]; done) | rfl
def Q12 (Z : State) (a0 : Addr) (w_CS0 : Int32) (w_SF1 : Value) (u : Addr) (ku : ClassId) (x0 : Int32) (h0 : Heap) (n0 : Nat) (v : Option Value) (h : Heap) (L : List Loc) : Prop := v = some (.int (1 : Int32)) ∧ Fr n0 L ∧ h = h0
set_option maxRecDepth 65536 in
set_option maxHeartbeats 40000000 in
theorem rm12 (l : Launch) (Z : State) (ar : Array Value) (hw : ∀ d ∈ tables_1, d.before ar Z = true) (ws : List Jvm.Cond) (a0 : Addr) (w_CS0 : Int32) (w_SF1 : Value) (u : Addr) (ku : ClassId) (x0 : Int32) (h0 : Heap) (n0 : Nat) (O0 : Old Z n0 h0) (HW : Wd Z w_CS0 w_SF1) (pf0 : Exa Z h0 a0 "java/lang/String") (pf1 : Fld Z h0 a0 "java/lang/String" "coder" "B" (.int (0 : Int32))) (pf2 : Fld Z h0 a0 "java/lang/String" "value" "[B" (.ref u)) (pf3 : Arv Z h0 u ku .byte (1 : Int32) [(.int x0)] (.int (0 : Int32))) :
    MetFree l y12 (head1 (Jvm.Cond.code y12 jdk_42_method_54_code 1 (some .int) :: ws) ({ frames := 1, cells := 0, slots := 0, locals := 13 } : Room)) (fun a U => a = #[(.ref a0)] ∧ Z.Warmed39 U.vm ∧ U.heap = h0) (fun _ _ _ _ _ => True) (fun _ U o U' => ∃ v L, o = .returned v ∧ Q12 Z a0 w_CS0 w_SF1 u ku x0 h0 n0 v U'.heap L ∧ FrameEnd U o U' L ({ frames := 1, cells := 0, slots := 0, locals := 13 } : Room).cells ({ frames := 1, cells := 0, slots := 0, locals := 13 } : Room).slots) := by
 refine MetFree.of_bodySF (plainFor_of_name pn_1) hisR ?_
 intro p e s m args below meth c s₁ Bd hml0 hP hK
 obtain ⟨rfl, hZ, hh⟩ := hP
 have hx := Bd.exec
 have hby := Bd.bytes
 have hml : c.maxLocals = 1 := hml0
 have hown : s.vm.findClass "java/lang/String" = some m.cls := findClass_of_methodNamed Bd.named
 have hnm := (name_of_methodNamed Bd.named Bd.method).1
 have X0 : Stand p l e ({ frames := 1, cells := 0, slots := 0, locals := 13 } : Room) s m #[(.ref a0)] below meth c s₁ [] 0 0 := Stand.of_body Bd
 have e0 : s₁.heap = h0 := by rw [← hh, Bd.state]; rfl
 have N0 := Fr.nil n0
 have Z0 : n0 ≤ h0.size := Nat.le_trans (Nat.le_of_eq O0.1.symm) O0.2.1
 obtain ⟨S0, hS0⟩ : ∃ z, z = s₁.setTop (entryFrame m #[(.ref a0)] 1) := ⟨_, rfl⟩
 have pre0 : ∀ tg, AT p e below s₁ m 0 #[rv a0] [] tg → Steps p.tables e below S0 tg := fun tg kg => by rw [hS0]; exact castTop (ef_12 m a0) kg
 obtain ⟨S_COMPACT_STRINGS, hz_w_CS0, S_SIOOBE_FORMATTER, ir_w_SF1⟩ := id HW
 obtain ⟨T1, X1, e1, st1⟩ := getF X0 hx hZ hown (host := "") (Or.inl (ow hw 54 rfl)) Via.refl e0 pf2 (g := (mkF m 1 #[rv a0] [(.ref a0)])) rfl rfl (hb hby d12_1)
 obtain ⟨cl2, Ar2, q2, S2, N2, H2, G2⟩ := id pf3
 obtain ⟨cq3, kq3, q3a, q3b, q3c⟩ := isOf hZ e1 pf0
 obtain ⟨_, _, ⟨T3, L3, k3, n3⟩, -, X3, ⟨Lc3, hQ3, l3, y3, z3⟩, st3⟩ := X1.virtualBack hx (y := y13) (z := y13) hown (mvT hZ (ow hw 68 rfl)) (mvT hZ (ow hw 69 rfl)) (notFace_of_selects (args := #[]) (mvT hZ (ow hw 71 rfl))) (mvT hZ (ow hw 71 rfl)) (mvT hZ (ow hw 70 rfl)) (by decide) (backOf (W := 1) (rm13 l Z ar hw [] a0 w_CS0 w_SF1 h0 n0 O0 HW pf1) hZ (ow hw 72 rfl) (ow hw 37 rfl) (by decide) (by decide)) q3a q3c (g := (mkF m 6 #[rv a0] [(.ref a0), (.int (1 : Int32))])) rfl (by rw [hml]; rfl) (Steps.refl _) (argsL := []) (rest := [(.int (1 : Int32))]) (lenOf pd_3 rfl) rfl (by show 2 * 0 + _ ≤ _; exact Nat.le_of_eq rfl) (hb hby d12_6) (fun _ _ => ⟨rfl, e1, (by decide : 0 + 0 ≤ _), (by decide : 0 + 0 ≤ _)⟩)
 dsimp only [Pt.U, Pt.locs, Pt.cells, Pt.slots] at X3 l3 y3 z3 st3 hQ3
 subst l3 y3 z3
 obtain ⟨rfl, N3q, e3⟩ := hQ3
 have N3 := Fr.app N0 N3q
 obtain ⟨fs, hr, hrun, hended, hW, hsame⟩ := X3.leave (v := some (.int (1 : Int32))) (fun h => by rw [Bd.returns] at h; cases h)
 subst hS0
 refine ⟨_, _, pre0 _ ?_, hrun, hended, _, _, rfl, ?_, ⟨_, rfl⟩, hW, hsame.mono (by decide) (by decide)⟩
 ·
  refine XS.aloadN X0.here hx rfl (hb hby d12_0) rfl rfl ?_
  show AT p e below s₁ m 1 #[rv a0] [(.ref a0)] _
  refine st1 _ ?_
  show AT p e below T1 m 4 #[rv a0] [(.ref u)] _
  refine X1.arraylength hx (by rw [e1]; exact Ar2.1) (State.isArrayOf_alike hZ.alike Ar2.2.1) (g := (mkF m 4 #[rv a0] [(.ref u)])) rfl rfl (hb hby d12_4) _ ?_
  rw [len_of S2 N2]
  show AT p e below T1 m 5 #[rv a0] [(.int (1 : Int32))] _
  refine XS.aloadN X1.here hx rfl (hb hby d12_5) rfl rfl ?_
  show AT p e below T1 m 6 #[rv a0] [(.ref a0), (.int (1 : Int32))] _
  refine st3.trans ?_
  show AT p e below T3 m 9 #[rv a0] [(.int (0 : Int32)), (.int (1 : Int32))] _
  refine XS.ishr X3.here hx rfl (hb hby d12_9) rfl ?_
  show AT p e below T3 m 10 #[rv a0] [(.int (1 : Int32))] _
  exact retOut X3 hx (t := .int) (i := .ireturn) Bd.returns rfl (Or.inl ⟨rfl, Or.inl rfl, _, rfl⟩) (hb hby d12_10) hr
 ·
  show Q12 Z a0 w_CS0 w_SF1 u ku x0 h0 n0 _ T3.heap _
  rw [e3]
  exact ⟨rfl, N3, rfl⟩

theorem d19_0 : decode jdk_41_method_11_code 0 = .ok (.iload_n 0, 1) := by decide +kernel
theorem d19_1 : decode jdk_41_method_11_code 1 = .ok (.ifCond .lt 8, 3) := by decide +kernel
theorem d19_4 : decode jdk_41_method_11_code 4 = .ok (.iload_n 0, 1) := by decide +kernel
theorem d19_5 : decode jdk_41_method_11_code 5 = .ok (.iload_n 1, 1) := by decide +kernel
theorem d19_6 : decode jdk_41_method_11_code 6 = .ok (.if_icmp .lt 10, 3) := by decide +kernel
theorem d19_16 : decode jdk_41_method_11_code 16 = .ok (.iload_n 0, 1) := by decide +kernel
theorem d19_17 : decode jdk_41_method_11_code 17 = .ok (.ireturn, 1) := by decide +kernel
theorem ef_19n (m : MethodId)  : entryFrame m #[(.int (0 : Int32)), (.int (1 : Int32)), .null] 3 = mkF m 0 #[iv (0 : Int32), iv (1 : Int32), .val .null] [] := by first | (simp [entryFrame, mkF, argsToLocals, Value.category]; done) | rfl
def f19n  : Int32 := (0 : Int32)
def Q19n (Z : State)  (h0 : Heap) (n0 : Nat) (v : Option Value) (h : Heap) (L : List Loc) : Prop := v = some (.int f19n) ∧ Fr n0 L ∧ h = h0
set_option maxRecDepth 65536 in
set_option maxHeartbeats 40000000 in
theorem rm19n (l : Launch) (Z : State) (ar : Array Value) (hw : ∀ d ∈ tables_1, d.before ar Z = true) (ws : List Jvm.Cond)  (h0 : Heap) (n0 : Nat) (O0 : Old Z n0 h0) :
    MetFree l y19 (head1 (Jvm.Cond.code y19 jdk_41_method_11_code 3 (some .int) :: ws) ({ frames := 0, cells := 0, slots := 0, locals := 0 } : Room)) (fun a U => a = #[(.int (0 : Int32)), (.int (1 : Int32)), .null] ∧ Z.Warmed39 U.vm ∧ U.heap = h0) (fun _ _ _ _ _ => True) (fun _ U o U' => ∃ v L, o = .returned v ∧ Q19n Z  h0 n0 v U'.heap L ∧ FrameEnd U o U' L ({ frames := 0, cells := 0, slots := 0, locals := 0 } : Room).cells ({ frames := 0, cells := 0, slots := 0, locals := 0 } : Room).slots) := by
 refine MetFree.of_bodySF (plainFor_of_name pn_2) hisR ?_
 intro p e s m args below meth c s₁ Bd hml0 hP hK
 obtain ⟨rfl, hZ, hh⟩ := hP
 have hx := Bd.exec
 have hby := Bd.bytes
 have hml : c.maxLocals = 3 := hml0
 have hown : s.vm.findClass "jdk/internal/util/Preconditions" = some m.cls := findClass_of_methodNamed Bd.named
 have hnm := (name_of_methodNamed Bd.named Bd.method).1
 have X0 : Stand p l e ({ frames := 0, cells := 0, slots := 0, locals := 0 } : Room) s m #[(.int (0 : Int32)), (.int (1 : Int32)), .null] below meth c s₁ [] 0 0 := Stand.of_body Bd
 have e0 : s₁.heap = h0 := by rw [← hh, Bd.state]; rfl
 have N0 := Fr.nil n0
 have Z0 : n0 ≤ h0.size := Nat.le_trans (Nat.le_of_eq O0.1.symm) O0.2.1
 obtain ⟨S0, hS0⟩ : ∃ z, z = s₁.setTop (entryFrame m #[(.int (0 : Int32)), (.int (1 : Int32)), .null] 3) := ⟨_, rfl⟩
 have pre0 : ∀ tg, AT p e below s₁ m 0 #[iv (0 : Int32), iv (1 : Int32), .val .null] [] tg → Steps p.tables e below S0 tg := fun tg kg => by rw [hS0]; exact castTop (ef_19n m ) kg
 obtain ⟨fs, hr, hrun, hended, hW, hsame⟩ := X0.leave (v := some (.int (0 : Int32))) (fun h => by rw [Bd.returns] at h; cases h)
 subst hS0
 refine ⟨_, _, pre0 _ ?_, hrun, hended, _, _, rfl, ?_, ⟨_, rfl⟩, hW, hsame.mono (by decide) (by decide)⟩
 ·
  refine XS.iloadN X0.here hx rfl (hb hby d19_0) rfl ?_
  show AT p e below s₁ m 1 #[iv (0 : Int32), iv (1 : Int32), .val .null] [(.int (0 : Int32))] _
  refine XS.ifNo X0.here hx rfl (hb hby d19_1) rfl (XT.i0_lt_f ((by decide) : ¬ ((0 : Int32) < (0 : Int32)))) ?_
  show AT p e below s₁ m 4 #[iv (0 : Int32), iv (1 : Int32), .val .null] [] _
  refine XS.iloadN X0.here hx rfl (hb hby d19_4) rfl ?_
  show AT p e below s₁ m 5 #[iv (0 : Int32), iv (1 : Int32), .val .null] [(.int (0 : Int32))] _
  refine XS.iloadN X0.here hx rfl (hb hby d19_5) rfl ?_
  show AT p e below s₁ m 6 #[iv (0 : Int32), iv (1 : Int32), .val .null] [(.int (1 : Int32)), (.int (0 : Int32))] _
  refine XS.icmpYes X0.here hx rfl (pc0 := 6) (pc' := 16) rfl (hb hby d19_6) rfl (XT.ii_lt_t ((by decide) : (0 : Int32) < (1 : Int32))) (by decide) (by decide) ?_
  show AT p e below s₁ m 16 #[iv (0 : Int32), iv (1 : Int32), .val .null] [] _
  refine XS.iloadN X0.here hx rfl (hb hby d19_16) rfl ?_
  show AT p e below s₁ m 17 #[iv (0 : Int32), iv (1 : Int32), .val .null] [(.int (0 : Int32))] _
  exact retOut X0 hx (t := .int) (i := .ireturn) Bd.returns rfl (Or.inl ⟨rfl, Or.inl rfl, _, rfl⟩) (hb hby d19_17) hr
 ·
  show Q19n Z  h0 n0 _ s₁.heap _
  rw [e0]
  exact ⟨rfl, N0, rfl⟩

theorem ef_19 (m : MethodId) (a2 : Addr) : entryFrame m #[(.int (0 : Int32)), (.int (1 : Int32)), (.ref a2)] 3 = mkF m 0 #[iv (0 : Int32), iv (1 : Int32), rv a2] [] := by first | (simp [entryFrame, mkF, argsToLocals, Value.category]; done) | rfl
def f19  : Int32 := (0 : Int32)
def Q19 (Z : State) (a2 : Addr) (h0 : Heap) (n0 : Nat) (v : Option Value) (h : Heap) (L : List Loc) : Prop := v = some (.int f19) ∧ Fr n0 L ∧ h = h0
set_option maxRecDepth 65536 in
set_option maxHeartbeats 40000000 in
theorem rm19 (l : Launch) (Z : State) (ar : Array Value) (hw : ∀ d ∈ tables_1, d.before ar Z = true) (ws : List Jvm.Cond) (a2 : Addr) (h0 : Heap) (n0 : Nat) (O0 : Old Z n0 h0) :
    MetFree l y19 (head1 (Jvm.Cond.code y19 jdk_41_method_11_code 3 (some .int) :: ws) ({ frames := 0, cells := 0, slots := 0, locals := 0 } : Room)) (fun a U => a = #[(.int (0 : Int32)), (.int (1 : Int32)), (.ref a2)] ∧ Z.Warmed39 U.vm ∧ U.heap = h0) (fun _ _ _ _ _ => True) (fun _ U o U' => ∃ v L, o = .returned v ∧ Q19 Z a2 h0 n0 v U'.heap L ∧ FrameEnd U o U' L ({ frames := 0, cells := 0, slots := 0, locals := 0 } : Room).cells ({ frames := 0, cells := 0, slots := 0, locals := 0 } : Room).slots) := by
 refine MetFree.of_bodySF (plainFor_of_name pn_2) hisR ?_
 intro p e s m args below meth c s₁ Bd hml0 hP hK
 obtain ⟨rfl, hZ, hh⟩ := hP
 have hx := Bd.exec
 have hby := Bd.bytes
 have hml : c.maxLocals = 3 := hml0
 have hown : s.vm.findClass "jdk/internal/util/Preconditions" = some m.cls := findClass_of_methodNamed Bd.named
 have hnm := (name_of_methodNamed Bd.named Bd.method).1
 have X0 : Stand p l e ({ frames := 0, cells := 0, slots := 0, locals := 0 } : Room) s m #[(.int (0 : Int32)), (.int (1 : Int32)), (.ref a2)] below meth c s₁ [] 0 0 := Stand.of_body Bd
 have e0 : s₁.heap = h0 := by rw [← hh, Bd.state]; rfl
 have N0 := Fr.nil n0
 have Z0 : n0 ≤ h0.size := Nat.le_trans (Nat.le_of_eq O0.1.symm) O0.2.1
 obtain ⟨S0, hS0⟩ : ∃ z, z = s₁.setTop (entryFrame m #[(.int (0 : Int32)), (.int (1 : Int32)), (.ref a2)] 3) := ⟨_, rfl⟩
 have pre0 : ∀ tg, AT p e below s₁ m 0 #[iv (0 : Int32), iv (1 : Int32), rv a2] [] tg → Steps p.tables e below S0 tg := fun tg kg => by rw [hS0]; exact castTop (ef_19 m a2) kg
 obtain ⟨fs, hr, hrun, hended, hW, hsame⟩ := X0.leave (v := some (.int (0 : Int32))) (fun h => by rw [Bd.returns] at h; cases h)
 subst hS0
 refine ⟨_, _, pre0 _ ?_, hrun, hended, _, _, rfl, ?_, ⟨_, rfl⟩, hW, hsame.mono (by decide) (by decide)⟩
 ·
  refine XS.iloadN X0.here hx rfl (hb hby d19_0) rfl ?_
  show AT p e below s₁ m 1 #[iv (0 : Int32), iv (1 : Int32), rv a2] [(.int (0 : Int32))] _
  refine XS.ifNo X0.here hx rfl (hb hby d19_1) rfl (XT.i0_lt_f ((by decide) : ¬ ((0 : Int32) < (0 : Int32)))) ?_
  show AT p e below s₁ m 4 #[iv (0 : Int32), iv (1 : Int32), rv a2] [] _
  refine XS.iloadN X0.here hx rfl (hb hby d19_4) rfl ?_
  show AT p e below s₁ m 5 #[iv (0 : Int32), iv (1 : Int32), rv a2] [(.int (0 : Int32))] _
  refine XS.iloadN X0.here hx rfl (hb hby d19_5) rfl ?_
  show AT p e below s₁ m 6 #[iv (0 : Int32), iv (1 : Int32), rv a2] [(.int (1 : Int32)), (.int (0 : Int32))] _
  refine XS.icmpYes X0.here hx rfl (pc0 := 6) (pc' := 16) rfl (hb hby d19_6) rfl (XT.ii_lt_t ((by decide) : (0 : Int32) < (1 : Int32))) (by decide) (by decide) ?_
  show AT p e below s₁ m 16 #[iv (0 : Int32), iv (1 : Int32), rv a2] [] _
  refine XS.iloadN X0.here hx rfl (hb hby d19_16) rfl ?_
  show AT p e below s₁ m 17 #[iv (0 : Int32), iv (1 : Int32), rv a2] [(.int (0 : Int32))] _
  exact retOut X0 hx (t := .int) (i := .ireturn) Bd.returns rfl (Or.inl ⟨rfl, Or.inl rfl, _, rfl⟩) (hb hby d19_17) hr
 ·
  show Q19 Z a2 h0 n0 _ s₁.heap _
  rw [e0]
  exact ⟨rfl, N0, rfl⟩

theorem d18_0 : decode jdk_42_method_155_code 0 = .ok (.iload_n 0, 1) := by decide +kernel
theorem d18_1 : decode jdk_42_method_155_code 1 = .ok (.iload_n 1, 1) := by decide +kernel
theorem d18_2 : decode jdk_42_method_155_code 2 = .ok (.getstatic 1053, 3) := by decide +kernel
theorem d18_5 : decode jdk_42_method_155_code 5 = .ok (.invokestatic 1059, 3) := by decide +kernel
theorem d18_8 : decode jdk_42_method_155_code 8 = .ok (.pop, 1) := by decide +kernel
theorem d18_9 : decode jdk_42_method_155_code 9 = .ok (.return_, 1) := by decide +kernel
theorem ef_18 (m : MethodId)  : entryFrame m #[(.int (0 : Int32)), (.int (1 : Int32))] 2 = mkF m 0 #[iv (0 : Int32), iv (1 : Int32)] [] := by first | (simp [entryFrame, mkF, argsToLocals, Value.category]; done) | rfl
def Q18 (Z : State)  (w_CS0 : Int32) (w_SF1 : Value) (h0 : Heap) (n0 : Nat) (v : Option Value) (h : Heap) (L : List Loc) : Prop := v = none ∧ Fr n0 L ∧ h = h0
set_option maxRecDepth 65536 in
set_option maxHeartbeats 40000000 in
theorem rm18 (l : Launch) (Z : State) (ar : Array Value) (hw : ∀ d ∈ tables_1, d.before ar Z = true) (ws : List Jvm.Cond)  (w_CS0 : Int32) (w_SF1 : Value) (h0 : Heap) (n0 : Nat) (O0 : Old Z n0 h0) (HW : Wd Z w_CS0 w_SF1) :
    MetFree l y18 (head1 (Jvm.Cond.code y18 jdk_42_method_155_code 2 none :: ws) ({ frames := 1, cells := 0, slots := 0, locals := 14 } : Room)) (fun a U => a = #[(.int (0 : Int32)), (.int (1 : Int32))] ∧ Z.Warmed39 U.vm ∧ U.heap = h0) (fun _ _ _ _ _ => True) (fun _ U o U' => ∃ v L, o = .returned v ∧ Q18 Z  w_CS0 w_SF1 h0 n0 v U'.heap L ∧ FrameEnd U o U' L ({ frames := 1, cells := 0, slots := 0, locals := 14 } : Room).cells ({ frames := 1, cells := 0, slots := 0, locals := 14 } : Room).slots) := by
 refine MetFree.of_bodySF (plainFor_of_name pn_1) hisR ?_
 intro p e s m args below meth c s₁ Bd hml0 hP hK
 obtain ⟨rfl, hZ, hh⟩ := hP
 have hx := Bd.exec
 have hby := Bd.bytes
 have hml : c.maxLocals = 2 := hml0
 have hown : s.vm.findClass "java/lang/String" = some m.cls := findClass_of_methodNamed Bd.named
 have hnm := (name_of_methodNamed Bd.named Bd.method).1
 have X0 : Stand p l e ({ frames := 1, cells := 0, slots := 0, locals := 14 } : Room) s m #[(.int (0 : Int32)), (.int (1 : Int32))] below meth c s₁ [] 0 0 := Stand.of_body Bd
 have e0 : s₁.heap = h0 := by rw [← hh, Bd.state]; rfl
 have N0 := Fr.nil n0
 have Z0 : n0 ≤ h0.size := Nat.le_trans (Nat.le_of_eq O0.1.symm) O0.2.1
 obtain ⟨S0, hS0⟩ : ∃ z, z = s₁.setTop (entryFrame m #[(.int (0 : Int32)), (.int (1 : Int32))] 2) := ⟨_, rfl⟩
 have pre0 : ∀ tg, AT p e below s₁ m 0 #[iv (0 : Int32), iv (1 : Int32)] [] tg → Steps p.tables e below S0 tg := fun tg kg => by rw [hS0]; exact castTop (ef_18 m ) kg
 obtain ⟨S_COMPACT_STRINGS, hz_w_CS0, S_SIOOBE_FORMATTER, ir_w_SF1⟩ := id HW
 rcases ref_cases ir_w_SF1 with hv | ⟨sv, hv⟩
 ·
  have Sq1 := S_SIOOBE_FORMATTER.ext O0.2
  rw [hv] at Sq1
  obtain ⟨T2, X2, e2, st2⟩ := getS2 X0 hx hZ hown (host := "") (Or.inl (ow hw 93 rfl)) Via.refl e0 Sq1 (g := (mkF m 2 #[iv (0 : Int32), iv (1 : Int32)] [(.int (1 : Int32)), (.int (0 : Int32))])) rfl (hb hby d18_2)
  obtain ⟨_, _, ⟨T3, L3, k3, n3⟩, -, X3, ⟨Lc3, hQ3, l3, y3, z3⟩, st3⟩ := Jvm.LawKit.callS X2 hx (y := y19) hown (mvT hZ (ow hw 95 rfl)) (mvT hZ (ow hw 96 rfl)) (mvT hZ (ow hw 94 rfl)) (mvT hZ (ow hw 97 rfl)) (by decide) (backOf (W := 0) (rm19n l Z ar hw []  h0 n0 O0) hZ (ow hw 97 rfl) (ow hw 94 rfl) (by decide) (by decide)) (g := (mkF m 5 #[iv (0 : Int32), iv (1 : Int32)] [.null, (.int (1 : Int32)), (.int (0 : Int32))])) rfl (by rw [hml]; rfl) (argsL := [(.int (0 : Int32)), (.int (1 : Int32)), .null]) (rest := []) (lenOf pd_4 rfl) rfl (by show 2 * 0 + _ ≤ _; exact Nat.le_of_eq rfl) (hb hby d18_5) (fun _ _ => ⟨rfl, e2, (by decide : 0 + 0 ≤ _), (by decide : 0 + 0 ≤ _)⟩)
  dsimp only [Pt.U, Pt.locs, Pt.cells, Pt.slots] at X3 l3 y3 z3 st3 hQ3
  subst l3 y3 z3
  obtain ⟨rfl, N3q, e3⟩ := hQ3
  have N3 := Fr.app N0 N3q
  have r3 : f19n = (0 : Int32) := by rw [f19n] <;> decide
  rw [r3] at st3
  obtain ⟨fs, hr, hrun, hended, hW, hsame⟩ := X3.leave (v := none) (fun _ => rfl)
  subst hS0
  refine ⟨_, _, pre0 _ ?_, hrun, hended, _, _, rfl, ?_, ⟨_, rfl⟩, hW, hsame.mono (by decide) (by decide)⟩
  ·
   refine XS.iloadN X0.here hx rfl (hb hby d18_0) rfl ?_
   show AT p e below s₁ m 1 #[iv (0 : Int32), iv (1 : Int32)] [(.int (0 : Int32))] _
   refine XS.iloadN X0.here hx rfl (hb hby d18_1) rfl ?_
   show AT p e below s₁ m 2 #[iv (0 : Int32), iv (1 : Int32)] [(.int (1 : Int32)), (.int (0 : Int32))] _
   refine st2 _ ?_
   show AT p e below T2 m 5 #[iv (0 : Int32), iv (1 : Int32)] [.null, (.int (1 : Int32)), (.int (0 : Int32))] _
   refine st3 _ ?_
   show AT p e below T3 m 8 #[iv (0 : Int32), iv (1 : Int32)] [(.int (0 : Int32))] _
   refine XS.pop X3.here hx rfl (hb hby d18_8) rfl rfl ?_
   show AT p e below T3 m 9 #[iv (0 : Int32), iv (1 : Int32)] [] _
   exact X3.returnOut hx Bd.returns (hb hby d18_9) hr
  ·
   show Q18 Z  w_CS0 w_SF1 h0 n0 _ T3.heap _
   rw [e3]
   exact ⟨rfl, N3, rfl⟩
 ·
  have Sq4 := S_SIOOBE_FORMATTER.ext O0.2
  rw [hv] at Sq4
  obtain ⟨T5, X5, e5, st5⟩ := getS2 X0 hx hZ hown (host := "") (Or.inl (ow hw 93 rfl)) Via.refl e0 Sq4 (g := (mkF m 2 #[iv (0 : Int32), iv (1 : Int32)] [(.int (1 : Int32)), (.int (0 : Int32))])) rfl (hb hby d18_2)
  obtain ⟨_, _, ⟨T6, L6, k6, n6⟩, -, X6, ⟨Lc6, hQ6, l6, y6, z6⟩, st6⟩ := Jvm.LawKit.callS X5 hx (y := y19) hown (mvT hZ (ow hw 95 rfl)) (mvT hZ (ow hw 96 rfl)) (mvT hZ (ow hw 94 rfl)) (mvT hZ (ow hw 97 rfl)) (by decide) (backOf (W := 0) (rm19 l Z ar hw [] sv h0 n0 O0) hZ (ow hw 97 rfl) (ow hw 94 rfl) (by decide) (by decide)) (g := (mkF m 5 #[iv (0 : Int32), iv (1 : Int32)] [(.ref sv), (.int (1 : Int32)), (.int (0 : Int32))])) rfl (by rw [hml]; rfl) (argsL := [(.int (0 : Int32)), (.int (1 : Int32)), (.ref sv)]) (rest := []) (lenOf pd_4 rfl) rfl (by show 2 * 0 + _ ≤ _; exact Nat.le_of_eq rfl) (hb hby d18_5) (fun _ _ => ⟨rfl, e5, (by decide : 0 + 0 ≤ _), (by decide : 0 + 0 ≤ _)⟩)
  dsimp only [Pt.U, Pt.locs, Pt.cells, Pt.slots] at X6 l6 y6 z6 st6 hQ6
  subst l6 y6 z6
  obtain ⟨rfl, N6q, e6⟩ := hQ6
  have N6 := Fr.app N0 N6q
  have r6 : f19 = (0 : Int32) := by rw [f19] <;> decide
  rw [r6] at st6
  obtain ⟨fs, hr, hrun, hended, hW, hsame⟩ := X6.leave (v := none) (fun _ => rfl)
  subst hS0
  refine ⟨_, _, pre0 _ ?_, hrun, hended, _, _, rfl, ?_, ⟨_, rfl⟩, hW, hsame.mono (by decide) (by decide)⟩
  ·
   refine XS.iloadN X0.here hx rfl (hb hby d18_0) rfl ?_
   show AT p e below s₁ m 1 #[iv (0 : Int32), iv (1 : Int32)] [(.int (0 : Int32))] _
   refine XS.iloadN X0.here hx rfl (hb hby d18_1) rfl ?_
   show AT p e below s₁ m 2 #[iv (0 : Int32), iv (1 : Int32)] [(.int (1 : Int32)), (.int (0 : Int32))] _
   refine st5 _ ?_
   show AT p e below T5 m 5 #[iv (0 : Int32), iv (1 : Int32)] [(.ref sv), (.int (1 : Int32)), (.int (0 : Int32))] _
   refine st6 _ ?_
   show AT p e below T6 m 8 #[iv (0 : Int32), iv (1 : Int32)] [(.int (0 : Int32))] _
   refine XS.pop X6.here hx rfl (hb hby d18_8) rfl rfl ?_
   show AT p e below T6 m 9 #[iv (0 : Int32), iv (1 : Int32)] [] _
   exact X6.returnOut hx Bd.returns (hb hby d18_9) hr
  ·
   show Q18 Z  w_CS0 w_SF1 h0 n0 _ T6.heap _
   rw [e6]
   exact ⟨rfl, N6, rfl⟩

theorem d17_0 : decode jdk_43_method_2_code 0 = .ok (.iload_n 1, 1) := by decide +kernel
theorem d17_1 : decode jdk_43_method_2_code 1 = .ok (.aload_n 0, 1) := by decide +kernel
theorem d17_2 : decode jdk_43_method_2_code 2 = .ok (.arraylength, 1) := by decide +kernel
theorem d17_3 : decode jdk_43_method_2_code 3 = .ok (.invokestatic 9, 3) := by decide +kernel
theorem d17_6 : decode jdk_43_method_2_code 6 = .ok (.aload_n 0, 1) := by decide +kernel
theorem d17_7 : decode jdk_43_method_2_code 7 = .ok (.iload_n 1, 1) := by decide +kernel
theorem d17_8 : decode jdk_43_method_2_code 8 = .ok (.baload, 1) := by decide +kernel
theorem d17_9 : decode jdk_43_method_2_code 9 = .ok (.sipush 255, 3) := by decide +kernel
theorem d17_12 : decode jdk_43_method_2_code 12 = .ok (.iand, 1) := by decide +kernel
theorem d17_13 : decode jdk_43_method_2_code 13 = .ok (.i2c, 1) := by decide +kernel
theorem d17_14 : decode jdk_43_method_2_code 14 = .ok (.ireturn, 1) := by decide +kernel
theorem ef_17 (m : MethodId) (a0 : Addr) : entryFrame m #[(.ref a0), (.int (0 : Int32))] 2 = mkF m 0 #[rv a0, iv (0 : Int32)] [] := by first | (simp [entryFrame, mkF, argsToLocals, Value.category]; done) | rfl
def Q17 (Z : State) (a0 : Addr) (w_CS0 : Int32) (w_SF1 : Value) (ku : ClassId) (x0 : Int32) (h0 : Heap) (n0 : Nat) (v : Option Value) (h : Heap) (L : List Loc) : Prop := v = some (.int (nar .char ((x0 &&& (255 : Int32)).toUInt32.toUInt16.toUInt32.toInt32))) ∧ Fr n0 L ∧ h = h0
set_option maxRecDepth 65536 in
set_option maxHeartbeats 40000000 in
theorem rm17 (l : Launch) (Z : State) (ar : Array Value) (hw : ∀ d ∈ tables_1, d.before ar Z = true) (ws : List Jvm.Cond) (a0 : Addr) (w_CS0 : Int32) (w_SF1 : Value) (ku : ClassId) (x0 : Int32) (h0 : Heap) (n0 : Nat) (O0 : Old Z n0 h0) (HW : Wd Z w_CS0 w_SF1) (pf0 : Arv Z h0 a0 ku .byte (1 : Int32) [(.int x0)] (.int (0 : Int32))) :
    MetFree l y17 (head1 (Jvm.Cond.code y17 jdk_43_method_2_code 2 (some .char) :: ws) ({ frames := 2, cells := 0, slots := 0, locals := 27 } : Room)) (fun a U => a = #[(.ref a0), (.int (0 : Int32))] ∧ Z.Warmed39 U.vm ∧ U.heap = h0) (fun _ _ _ _ _ => True) (fun _ U o U' => ∃ v L, o = .returned v ∧ Q17 Z a0 w_CS0 w_SF1 ku x0 h0 n0 v U'.heap L ∧ FrameEnd U o U' L ({ frames := 2, cells := 0, slots := 0, locals := 27 } : Room).cells ({ frames := 2, cells := 0, slots := 0, locals := 27 } : Room).slots) := by
 refine MetFree.of_bodySF (plainFor_of_name pn_0) hisR ?_
 intro p e s m args below meth c s₁ Bd hml0 hP hK
 obtain ⟨rfl, hZ, hh⟩ := hP
 have hx := Bd.exec
 have hby := Bd.bytes
 have hml : c.maxLocals = 2 := hml0
 have hown : s.vm.findClass "java/lang/StringLatin1" = some m.cls := findClass_of_methodNamed Bd.named
 have hnm := (name_of_methodNamed Bd.named Bd.method).1
 have X0 : Stand p l e ({ frames := 2, cells := 0, slots := 0, locals := 27 } : Room) s m #[(.ref a0), (.int (0 : Int32))] below meth c s₁ [] 0 0 := Stand.of_body Bd
 have e0 : s₁.heap = h0 := by rw [← hh, Bd.state]; rfl
 have N0 := Fr.nil n0
 have Z0 : n0 ≤ h0.size := Nat.le_trans (Nat.le_of_eq O0.1.symm) O0.2.1
 obtain ⟨S0, hS0⟩ : ∃ z, z = s₁.setTop (entryFrame m #[(.ref a0), (.int (0 : Int32))] 2) := ⟨_, rfl⟩
 have pre0 : ∀ tg, AT p e below s₁ m 0 #[rv a0, iv (0 : Int32)] [] tg → Steps p.tables e below S0 tg := fun tg kg => by rw [hS0]; exact castTop (ef_17 m a0) kg
 obtain ⟨S_COMPACT_STRINGS, hz_w_CS0, S_SIOOBE_FORMATTER, ir_w_SF1⟩ := id HW
 obtain ⟨cl1, Ar1, q1, S1, N1, H1, G1⟩ := id pf0
 obtain ⟨_, _, ⟨T2, L2, k2, n2⟩, -, X2, ⟨Lc2, hQ2, l2, y2, z2⟩, st2⟩ := Jvm.LawKit.callS X0 hx (y := y18) hown (mvT hZ (ow hw 90 rfl)) (mvT hZ (ow hw 91 rfl)) (mvT hZ (ow hw 37 rfl)) (mvT hZ (ow hw 92 rfl)) (by decide) (backOf (W := 0) (rm18 l Z ar hw [] w_CS0 w_SF1 h0 n0 O0 HW) hZ (ow hw 92 rfl) (ow hw 37 rfl) (by decide) (by decide)) (g := (mkF m 3 #[rv a0, iv (0 : Int32)] [(.int (1 : Int32)), (.int (0 : Int32))])) rfl (by rw [hml]; rfl) (argsL := [(.int (0 : Int32)), (.int (1 : Int32))]) (rest := []) (lenOf pd_5 rfl) rfl (by show 2 * 0 + _ ≤ _; exact Nat.le_of_eq rfl) (hb hby d17_3) (fun _ _ => ⟨rfl, e0, (by decide : 0 + 0 ≤ _), (by decide : 0 + 0 ≤ _)⟩)
 dsimp only [Pt.U, Pt.locs, Pt.cells, Pt.slots] at X2 l2 y2 z2 st2 hQ2
 subst l2 y2 z2
 obtain ⟨rfl, N2q, e2⟩ := hQ2
 have N2 := Fr.app N0 N2q
 obtain ⟨cl3, Ar3, q3, S3, N3, H3, G3⟩ := id pf0
 have hin3 := own_in (0 : Int32) S3 ⟨by decide, by decide⟩
 have hat3 : cl3.slots[((0 : Int32)).toNatClampNeg]? = some (.int x0) := Has.at H3 hin3 rfl
 obtain ⟨fs, hr, hrun, hended, hW, hsame⟩ := X2.leave (v := some (.int (nar .char ((x0 &&& (255 : Int32)).toUInt32.toUInt16.toUInt32.toInt32)))) (fun h => by rw [Bd.returns] at h; cases h)
 subst hS0
 refine ⟨_, _, pre0 _ ?_, hrun, hended, _, _, rfl, ?_, ⟨_, rfl⟩, hW, hsame.mono (by decide) (by decide)⟩
 ·
  refine XS.iloadN X0.here hx rfl (hb hby d17_0) rfl ?_
  show AT p e below s₁ m 1 #[rv a0, iv (0 : Int32)] [(.int (0 : Int32))] _
  refine XS.aloadN X0.here hx rfl (hb hby d17_1) rfl rfl ?_
  show AT p e below s₁ m 2 #[rv a0, iv (0 : Int32)] [(.ref a0), (.int (0 : Int32))] _
  refine X0.arraylength hx (by rw [e0]; exact Ar1.1) (State.isArrayOf_alike hZ.alike Ar1.2.1) (g := (mkF m 2 #[rv a0, iv (0 : Int32)] [(.ref a0), (.int (0 : Int32))])) rfl rfl (hb hby d17_2) _ ?_
  rw [len_of S1 N1]
  show AT p e below s₁ m 3 #[rv a0, iv (0 : Int32)] [(.int (1 : Int32)), (.int (0 : Int32))] _
  refine st2 _ ?_
  show AT p e below T2 m 6 #[rv a0, iv (0 : Int32)] [] _
  refine XS.aloadN X2.here hx rfl (hb hby d17_6) rfl rfl ?_
  show AT p e below T2 m 7 #[rv a0, iv (0 : Int32)] [(.ref a0)] _
  refine XS.iloadN X2.here hx rfl (hb hby d17_7) rfl ?_
  show AT p e below T2 m 8 #[rv a0, iv (0 : Int32)] [(.int (0 : Int32)), (.ref a0)] _
  refine X2.baloadBytes hx (j := (0 : Int32)) (v := (.int x0)) (by rw [e2]; exact Ar3.1) (State.isArrayOf_alike hZ.alike Ar3.2.1) Ar3.2.2 hin3 hat3 (g := (mkF m 8 #[rv a0, iv (0 : Int32)] [(.int (0 : Int32)), (.ref a0)])) rfl rfl (hb hby d17_8) _ ?_
  show AT p e below T2 m 9 #[rv a0, iv (0 : Int32)] [(.int x0)] _
  refine XS.sipush X2.here hx rfl (hb hby d17_9) ?_
  show AT p e below T2 m 12 #[rv a0, iv (0 : Int32)] [(.int (255 : Int32)), (.int x0)] _
  refine XS.iand X2.here hx rfl (hb hby d17_12) rfl ?_
  show AT p e below T2 m 13 #[rv a0, iv (0 : Int32)] [(.int (x0 &&& (255 : Int32)))] _
  refine XS.i2c X2.here hx rfl (hb hby d17_13) rfl ?_
  show AT p e below T2 m 14 #[rv a0, iv (0 : Int32)] [(.int ((x0 &&& (255 : Int32)).toUInt32.toUInt16.toUInt32.toInt32))] _
  exact retN X2 hx (t := .char) Bd.returns (by simp) (hb hby d17_14) hr
 ·
  show Q17 Z a0 w_CS0 w_SF1 ku x0 h0 n0 _ T2.heap _
  rw [e2]
  exact ⟨rfl, N2, rfl⟩

theorem d15_0 : decode jdk_42_method_56_code 0 = .ok (.aload_n 0, 1) := by decide +kernel
theorem d15_1 : decode jdk_42_method_56_code 1 = .ok (.invokevirtual 492, 3) := by decide +kernel
theorem d15_4 : decode jdk_42_method_56_code 4 = .ok (.ifCond .eq 12, 3) := by decide +kernel
theorem d15_7 : decode jdk_42_method_56_code 7 = .ok (.aload_n 0, 1) := by decide +kernel
theorem d15_8 : decode jdk_42_method_56_code 8 = .ok (.getfield 9, 3) := by decide +kernel
theorem d15_11 : decode jdk_42_method_56_code 11 = .ok (.iload_n 1, 1) := by decide +kernel
theorem d15_12 : decode jdk_42_method_56_code 12 = .ok (.invokestatic 495, 3) := by decide +kernel
theorem d15_15 : decode jdk_42_method_56_code 15 = .ok (.ireturn, 1) := by decide +kernel
theorem ef_15 (m : MethodId) (a0 : Addr) : entryFrame m #[(.ref a0), (.int (0 : Int32))] 2 = mkF m 0 #[rv a0, iv (0 : Int32)] [] := by first | (simp [entryFrame, mkF, argsToLocals, Value.category]; done) | rfl
def Q15 (Z : State) (a0 : Addr) (w_CS0 : Int32) (w_SF1 : Value) (u : Addr) (ku : ClassId) (x0 : Int32) (h0 : Heap) (n0 : Nat) (v : Option Value) (h : Heap) (L : List Loc) : Prop := v = some (.int (nar .char (nar .char ((x0 &&& (255 : Int32)).toUInt32.toUInt16.toUInt32.toInt32)))) ∧ Fr n0 L ∧ h = h0
set_option maxRecDepth 65536 in
set_option maxHeartbeats 40000000 in
theorem rm15 (l : Launch) (Z : State) (ar : Array Value) (hw : ∀ d ∈ tables_1, d.before ar Z = true) (ws : List Jvm.Cond) (a0 : Addr) (w_CS0 : Int32) (w_SF1 : Value) (u : Addr) (ku : ClassId) (x0 : Int32) (h0 : Heap) (n0 : Nat) (O0 : Old Z n0 h0) (HW : Wd Z w_CS0 w_SF1) (pf0 : Exa Z h0 a0 "java/lang/String") (pf1 : Fld Z h0 a0 "java/lang/String" "coder" "B" (.int (0 : Int32))) (pf2 : Fld Z h0 a0 "java/lang/String" "value" "[B" (.ref u)) (pf3 : Arv Z h0 u ku .byte (1 : Int32) [(.int x0)] (.int (0 : Int32))) :
    MetFree l y15 (head1 (Jvm.Cond.code y15 jdk_42_method_56_code 2 (some .char) :: ws) ({ frames := 3, cells := 0, slots := 0, locals := 40 } : Room)) (fun a U => a = #[(.ref a0), (.int (0 : Int32))] ∧ Z.Warmed39 U.vm ∧ U.heap = h0) (fun _ _ _ _ _ => True) (fun _ U o U' => ∃ v L, o = .returned v ∧ Q15 Z a0 w_CS0 w_SF1 u ku x0 h0 n0 v U'.heap L ∧ FrameEnd U o U' L ({ frames := 3, cells := 0, slots := 0, locals := 40 } : Room).cells ({ frames := 3, cells := 0, slots := 0, locals := 40 } : Room).slots) := by
 refine MetFree.of_bodySF (plainFor_of_name pn_1) hisR ?_
 intro p e s m args below meth c s₁ Bd hml0 hP hK
 obtain ⟨rfl, hZ, hh⟩ := hP
 have hx := Bd.exec
 have hby := Bd.bytes
 have hml : c.maxLocals = 2 := hml0
 have hown : s.vm.findClass "java/lang/String" = some m.cls := findClass_of_methodNamed Bd.named
 have hnm := (name_of_methodNamed Bd.named Bd.method).1
 have X0 : Stand p l e ({ frames := 3, cells := 0, slots := 0, locals := 40 } : Room) s m #[(.ref a0), (.int (0 : Int32))] below meth c s₁ [] 0 0 := Stand.of_body Bd
 have e0 : s₁.heap = h0 := by rw [← hh, Bd.state]; rfl
 have N0 := Fr.nil n0
 have Z0 : n0 ≤ h0.size := Nat.le_trans (Nat.le_of_eq O0.1.symm) O0.2.1
 obtain ⟨S0, hS0⟩ : ∃ z, z = s₁.setTop (entryFrame m #[(.ref a0), (.int (0 : Int32))] 2) := ⟨_, rfl⟩
 have pre0 : ∀ tg, AT p e below s₁ m 0 #[rv a0, iv (0 : Int32)] [] tg → Steps p.tables e below S0 tg := fun tg kg => by rw [hS0]; exact castTop (ef_15 m a0) kg
 obtain ⟨S_COMPACT_STRINGS, hz_w_CS0, S_SIOOBE_FORMATTER, ir_w_SF1⟩ := id HW
 obtain ⟨cq1, kq1, q1a, q1b, q1c⟩ := isOf hZ e0 pf0
 obtain ⟨_, _, ⟨T1, L1, k1, n1⟩, -, X1, ⟨Lc1, hQ1, l1, y1, z1⟩, st1⟩ := X0.virtualBack hx (y := y16) (z := y16) hown (mvT hZ (ow hw 82 rfl)) (mvT hZ (ow hw 83 rfl)) (notFace_of_selects (args := #[]) (mvT hZ (ow hw 85 rfl))) (mvT hZ (ow hw 85 rfl)) (mvT hZ (ow hw 84 rfl)) (by decide) (backOf (W := 0) (rm16 l Z ar hw [] a0 w_CS0 w_SF1 h0 n0 O0 HW pf1) hZ (ow hw 86 rfl) (ow hw 37 rfl) (by decide) (by decide)) q1a q1c (g := (mkF m 1 #[rv a0, iv (0 : Int32)] [(.ref a0)])) rfl (by rw [hml]; rfl) (Steps.refl _) (argsL := []) (rest := []) (lenOf pd_6 rfl) rfl (by show 2 * 0 + _ ≤ _; exact Nat.le_of_eq rfl) (hb hby d15_1) (fun _ _ => ⟨rfl, e0, (by decide : 0 + 0 ≤ _), (by decide : 0 + 0 ≤ _)⟩)
 dsimp only [Pt.U, Pt.locs, Pt.cells, Pt.slots] at X1 l1 y1 z1 st1 hQ1
 subst l1 y1 z1
 obtain ⟨rfl, N1q, e1⟩ := hQ1
 have N1 := Fr.app N0 N1q
 obtain ⟨T2, X2, e2, st2⟩ := getF X1 hx hZ hown (host := "") (Or.inl (ow hw 54 rfl)) Via.refl e1 pf2 (g := (mkF m 8 #[rv a0, iv (0 : Int32)] [(.ref a0)])) rfl rfl (hb hby d15_8)
 obtain ⟨_, _, ⟨T3, L3, k3, n3⟩, -, X3, ⟨Lc3, hQ3, l3, y3, z3⟩, st3⟩ := Jvm.LawKit.callS X2 hx (y := y17) hown (mvT hZ (ow hw 87 rfl)) (mvT hZ (ow hw 88 rfl)) (mvT hZ (ow hw 42 rfl)) (mvT hZ (ow hw 89 rfl)) (by decide) (backOf (W := 0) (rm17 l Z ar hw [] u w_CS0 w_SF1 ku x0 h0 n0 O0 HW pf3) hZ (ow hw 89 rfl) (ow hw 42 rfl) (by decide) (by decide)) (g := (mkF m 12 #[rv a0, iv (0 : Int32)] [(.int (0 : Int32)), (.ref u)])) rfl (by rw [hml]; rfl) (argsL := [(.ref u), (.int (0 : Int32))]) (rest := []) (lenOf pd_7 rfl) rfl (by show 2 * 0 + _ ≤ _; exact Nat.le_of_eq rfl) (hb hby d15_12) (fun _ _ => ⟨rfl, e2, (by decide : 0 + 0 ≤ _), (by decide : 0 + 0 ≤ _)⟩)
 dsimp only [Pt.U, Pt.locs, Pt.cells, Pt.slots] at X3 l3 y3 z3 st3 hQ3
 subst l3 y3 z3
 obtain ⟨rfl, N3q, e3⟩ := hQ3
 have N3 := Fr.app N1 N3q
 obtain ⟨fs, hr, hrun, hended, hW, hsame⟩ := X3.leave (v := some (.int (nar .char (nar .char ((x0 &&& (255 : Int32)).toUInt32.toUInt16.toUInt32.toInt32))))) (fun h => by rw [Bd.returns] at h; cases h)
 subst hS0
 refine ⟨_, _, pre0 _ ?_, hrun, hended, _, _, rfl, ?_, ⟨_, rfl⟩, hW, hsame.mono (by decide) (by decide)⟩
 ·
  refine XS.aloadN X0.here hx rfl (hb hby d15_0) rfl rfl ?_
  show AT p e below s₁ m 1 #[rv a0, iv (0 : Int32)] [(.ref a0)] _
  refine st1.trans ?_
  show AT p e below T1 m 4 #[rv a0, iv (0 : Int32)] [(.int (1 : Int32))] _
  refine XS.ifNo X1.here hx rfl (hb hby d15_4) rfl (XT.i0_eq_f ((by decide) : ¬ ((1 : Int32) = (0 : Int32)))) ?_
  show AT p e below T1 m 7 #[rv a0, iv (0 : Int32)] [] _
  refine XS.aloadN X1.here hx rfl (hb hby d15_7) rfl rfl ?_
  show AT p e below T1 m 8 #[rv a0, iv (0 : Int32)] [(.ref a0)] _
  refine st2 _ ?_
  show AT p e below T2 m 11 #[rv a0, iv (0 : Int32)] [(.ref u)] _
  refine XS.iloadN X2.here hx rfl (hb hby d15_11) rfl ?_
  show AT p e below T2 m 12 #[rv a0, iv (0 : Int32)] [(.int (0 : Int32)), (.ref u)] _
  refine st3 _ ?_
  show AT p e below T3 m 15 #[rv a0, iv (0 : Int32)] [(.int (nar .char ((x0 &&& (255 : Int32)).toUInt32.toUInt16.toUInt32.toInt32)))] _
  exact retN X3 hx (t := .char) Bd.returns (by simp) (hb hby d15_15) hr
 ·
  show Q15 Z a0 w_CS0 w_SF1 u ku x0 h0 n0 _ T3.heap _
  rw [e3]
  exact ⟨rfl, N3, rfl⟩

theorem d1_0 : decode prog_10_method_1_code 0 = .ok (.aload_n 0, 1) := by decide +kernel
theorem d1_1 : decode prog_10_method_1_code 1 = .ok (.invokespecial 1, 3) := by decide +kernel
theorem d1_4 : decode prog_10_method_1_code 4 = .ok (.aload_n 0, 1) := by decide +kernel
theorem d1_5 : decode prog_10_method_1_code 5 = .ok (.sipush 1024, 3) := by decide +kernel
theorem d1_8 : decode prog_10_method_1_code 8 = .ok (.newarray .byte, 2) := by decide +kernel
theorem d1_10 : decode prog_10_method_1_code 10 = .ok (.putfield 7, 3) := by decide +kernel
theorem d1_13 : decode prog_10_method_1_code 13 = .ok (.return_, 1) := by decide +kernel
theorem ef_1 (m : MethodId) (a0 : Addr) : entryFrame m #[(.ref a0)] 1 = mkF m 0 #[rv a0] [] := by first | (simp [entryFrame, mkF, argsToLocals, Value.category]; done) | rfl
def Q1 (Z : State) (a0 : Addr) (h0 : Heap) (n0 : Nat) (v : Option Value) (h : Heap) (L : List Loc) : Prop := ∃ (b : Addr) (kb : ClassId), v = none ∧ Fr n0 L ∧ Keep h0 h [a0] ∧ Exa Z h a0 "com/example/polity/polity/io/saml/CanonicalXml" ∧ Fld Z h a0 "com/example/polity/polity/io/saml/CanonicalXml" "bytes" "[B" (.ref b) ∧ Fld Z h a0 "com/example/polity/polity/io/saml/CanonicalXml" "length" "I" (.int (0 : Int32)) ∧ Arv Z h b kb .byte (1024 : Int32) [(.int (0 : Int32)), (.int (0 : Int32)), (.int (0 : Int32)), (.int (0 : Int32)), (.int (0 : Int32)), (.int (0 : Int32)), (.int (0 : Int32)), (.int (0 : Int32))] (.int (0 : Int32)) ∧ Exa Z h b "[B" ∧ h0.size ≤ b ∧ a0 ≠ b
set_option maxRecDepth 65536 in
set_option maxHeartbeats 40000000 in
theorem rm1 (l : Launch) (Z : State) (ar : Array Value) (hw : ∀ d ∈ tables_1, d.before ar Z = true) (ws : List Jvm.Cond) (a0 : Addr) (h0 : Heap) (n0 : Nat) (O0 : Old Z n0 h0) (pf0 : Exa Z h0 a0 "com/example/polity/polity/io/saml/CanonicalXml") (pf1 : Fld Z h0 a0 "com/example/polity/polity/io/saml/CanonicalXml" "bytes" "[B" .null) (pf2 : Fld Z h0 a0 "com/example/polity/polity/io/saml/CanonicalXml" "length" "I" (.int (0 : Int32))) (pf3 : n0 ≤ a0) :
    MetFree l y1 (head1 (Jvm.Cond.code y1 prog_10_method_1_code 1 none :: ws) ({ frames := 1, cells := 1, slots := 1024, locals := 12 } : Room)) (fun a U => a = #[(.ref a0)] ∧ Z.Warmed39 U.vm ∧ U.heap = h0) (fun _ _ _ _ _ => True) (fun _ U o U' => ∃ v L, o = .returned v ∧ Q1 Z a0 h0 n0 v U'.heap L ∧ FrameEnd U o U' L ({ frames := 1, cells := 1, slots := 1024, locals := 12 } : Room).cells ({ frames := 1, cells := 1, slots := 1024, locals := 12 } : Room).slots) := by
 refine MetFree.of_bodySF (plainFor_of_name pn_3) hisR ?_
 intro p e s m args below meth c s₁ Bd hml0 hP hK
 obtain ⟨rfl, hZ, hh⟩ := hP
 have hx := Bd.exec
 have hby := Bd.bytes
 have hml : c.maxLocals = 1 := hml0
 have hown : s.vm.findClass "com/example/polity/polity/io/saml/CanonicalXml" = some m.cls := findClass_of_methodNamed Bd.named
 have hnm := (name_of_methodNamed Bd.named Bd.method).1
 have X0 : Stand p l e ({ frames := 1, cells := 1, slots := 1024, locals := 12 } : Room) s m #[(.ref a0)] below meth c s₁ [] 0 0 := Stand.of_body Bd
 have e0 : s₁.heap = h0 := by rw [← hh, Bd.state]; rfl
 have N0 := Fr.nil n0
 have Z0 : n0 ≤ h0.size := Nat.le_trans (Nat.le_of_eq O0.1.symm) O0.2.1
 obtain ⟨S0, hS0⟩ : ∃ z, z = s₁.setTop (entryFrame m #[(.ref a0)] 1) := ⟨_, rfl⟩
 have pre0 : ∀ tg, AT p e below s₁ m 0 #[rv a0] [] tg → Steps p.tables e below S0 tg := fun tg kg => by rw [hS0]; exact castTop (ef_1 m a0) kg
 obtain ⟨T1, X1, e1, st1⟩ := initO X0 hx hZ hown (ow hw 6 rfl) (ow hw 7 rfl) (ow hw 8 rfl) e0 (g := (mkF m 1 #[rv a0] [(.ref a0)])) rfl (by rw [hml]; rfl) rfl (hb hby d1_1) (by decide) (W := 0) (by show 2 * 0 + _ ≤ _; exact Nat.le_of_eq rfl) (by decide)
 obtain ⟨T2, h2, k2, X2, e2, E2, A2, B2, st2⟩ := newPE X1 hx hZ (ow hw 9 rfl) e1 (g := (mkF m 8 #[rv a0] [(.int (1024 : Int32)), (.ref a0)])) rfl (hb hby d1_8) rfl (by decide) (cap := 1024) (by decide) (by decide) (by decide) (by decide) (ad := "[B") (by decide)
 obtain ⟨b2, g2⟩ : ∃ z, z = h0.size := ⟨_, rfl⟩
 rw [← g2] at A2 B2 st2
 have ne2_3 : a0 ≠ b2 := Nat.ne_of_lt (Nat.lt_of_lt_of_le (pf0).lt (Nat.le_of_eq g2.symm))
 have gn2 : n0 ≤ b2 := Nat.le_trans (Nat.le_trans (Nat.le_of_eq O0.1.symm) O0.2.1) (Nat.le_of_eq g2.symm)
 have sz2 : h0.size ≤ b2 := Nat.le_trans (Keep.refl h0 [a0]).1 (Nat.le_of_eq g2.symm)
 have E2_4 := pf0.ext E2
 have F2_5 := pf1.ext E2
 have F2_6 := pf2.ext E2
 have K2 := (Keep.refl h0 [a0]).ext E2
 have O2 := O0.ext E2
 have V2_7 : Arv Z h2 b2 k2 .byte (1024 : Int32) [(.int (0 : Int32)), (.int (0 : Int32)), (.int (0 : Int32)), (.int (0 : Int32)), (.int (0 : Int32)), (.int (0 : Int32)), (.int (0 : Int32)), (.int (0 : Int32))] (.int (0 : Int32)) := (Arv.new A2 (by decide)).pad (pad_rep [] (.int (0 : Int32)) 8)
 obtain ⟨T8, h8, X8, e8, W8, st8⟩ := putF X2 hx hZ hown (host := "") (Or.inl (ow hw 10 rfl)) Via.refl e2 F2_5 E2_4 (Or.inl (ow hw 11 rfl)) (ow hw 1 rfl) (ty := (.array .byte)) (by decide) rfl rfl (g := (mkF m 10 #[rv a0] [(.ref b2), (.ref a0)])) rfl rfl (hb hby d1_10)
 have E8_9 := E2_4.wr W8
 have F8_10 : Fld Z h8 a0 "com/example/polity/polity/io/saml/CanonicalXml" "bytes" "[B" (.ref b2) := F2_5.same W8
 have F8_11 := F2_6.other W8 (Or.inr (slot_ne (Or.inl (ow hw 18 rfl)) (Or.inl (ow hw 11 rfl)) (by decide) (t := .int) (t' := (.array .byte)) (by decide) (by decide)))
 have V8_12 := V2_7.other W8 (Ne.symm ne2_3)
 have E8_13 := B2.wr W8
 have K8 := K2.wr W8 (Or.inl (List.mem_of_getElem? (i := 0) rfl))
 have O8 := O2.wr W8 pf3
 have N8 := Fr.snoc X8 N0 pf3
 obtain ⟨fs, hr, hrun, hended, hW, hsame⟩ := X8.leave (v := none) (fun _ => rfl)
 subst hS0
 refine ⟨_, _, pre0 _ ?_, hrun, hended, _, _, rfl, ?_, ⟨_, rfl⟩, hW, hsame.mono (by decide) (by decide)⟩
 ·
  refine XS.aloadN X0.here hx rfl (hb hby d1_0) rfl rfl ?_
  show AT p e below s₁ m 1 #[rv a0] [(.ref a0)] _
  refine st1 _ ?_
  show AT p e below T1 m 4 #[rv a0] [] _
  refine XS.aloadN X1.here hx rfl (hb hby d1_4) rfl rfl ?_
  show AT p e below T1 m 5 #[rv a0] [(.ref a0)] _
  refine XS.sipush X1.here hx rfl (hb hby d1_5) ?_
  show AT p e below T1 m 8 #[rv a0] [(.int (1024 : Int32)), (.ref a0)] _
  refine st2 _ ?_
  show AT p e below T2 m 10 #[rv a0] [(.ref b2), (.ref a0)] _
  refine st8 _ ?_
  show AT p e below T8 m 13 #[rv a0] [] _
  exact X8.returnOut hx Bd.returns (hb hby d1_13) hr
 ·
  show Q1 Z a0 h0 n0 _ T8.heap _
  rw [e8]
  exact ⟨b2, k2, rfl, N8, K8, E8_9, F8_10, F8_11, V8_12, E8_13, sz2, ne2_3⟩

theorem d5_0 : decode jdk_29_method_69_code 0 = .ok (.iload_n 0, 1) := by decide +kernel
theorem d5_1 : decode jdk_29_method_69_code 1 = .ok (.iload_n 1, 1) := by decide +kernel
theorem d5_2 : decode jdk_29_method_69_code 2 = .ok (.if_icmp .gt 7, 3) := by decide +kernel
theorem d5_5 : decode jdk_29_method_69_code 5 = .ok (.iload_n 0, 1) := by decide +kernel
theorem d5_6 : decode jdk_29_method_69_code 6 = .ok (.goto 4, 3) := by decide +kernel
theorem d5_9 : decode jdk_29_method_69_code 9 = .ok (.iload_n 1, 1) := by decide +kernel
theorem d5_10 : decode jdk_29_method_69_code 10 = .ok (.ireturn, 1) := by decide +kernel
theorem ef_5 (m : MethodId) (p0 : Int32) (p1 : Int32) : entryFrame m #[(.int p0), (.int p1)] 2 = mkF m 0 #[iv p0, iv p1] [] := by first | (simp [entryFrame, mkF, argsToLocals, Value.category]; done) | rfl
def f5 (p0 : Int32) (p1 : Int32) : Int32 := if p1 < p0 then p1 else p0
def Q5 (Z : State) (p0 : Int32) (p1 : Int32) (h0 : Heap) (n0 : Nat) (v : Option Value) (h : Heap) (L : List Loc) : Prop := v = some (.int (f5 p0 p1)) ∧ Fr n0 L ∧ h = h0
set_option maxRecDepth 65536 in
set_option maxHeartbeats 40000000 in
theorem rm5 (l : Launch) (Z : State) (ar : Array Value) (hw : ∀ d ∈ tables_1, d.before ar Z = true) (ws : List Jvm.Cond) (p0 : Int32) (p1 : Int32) (h0 : Heap) (n0 : Nat) (O0 : Old Z n0 h0) :
    MetFree l y5 (head1 (Jvm.Cond.code y5 jdk_29_method_69_code 2 (some .int) :: ws) ({ frames := 0, cells := 0, slots := 0, locals := 0 } : Room)) (fun a U => a = #[(.int p0), (.int p1)] ∧ Z.Warmed39 U.vm ∧ U.heap = h0) (fun _ _ _ _ _ => True) (fun _ U o U' => ∃ v L, o = .returned v ∧ Q5 Z p0 p1 h0 n0 v U'.heap L ∧ FrameEnd U o U' L ({ frames := 0, cells := 0, slots := 0, locals := 0 } : Room).cells ({ frames := 0, cells := 0, slots := 0, locals := 0 } : Room).slots) := by
 refine MetFree.of_bodySF (Jvm.Free.JP.mathPlain rfl (by decide +kernel)) hisR ?_
 intro p e s m args below meth c s₁ Bd hml0 hP hK
 obtain ⟨rfl, hZ, hh⟩ := hP
 have hx := Bd.exec
 have hby := Bd.bytes
 have hml : c.maxLocals = 2 := hml0
 have hown : s.vm.findClass "java/lang/Math" = some m.cls := findClass_of_methodNamed Bd.named
 have hnm := (name_of_methodNamed Bd.named Bd.method).1
 have X0 : Stand p l e ({ frames := 0, cells := 0, slots := 0, locals := 0 } : Room) s m #[(.int p0), (.int p1)] below meth c s₁ [] 0 0 := Stand.of_body Bd
 have e0 : s₁.heap = h0 := by rw [← hh, Bd.state]; rfl
 have N0 := Fr.nil n0
 have Z0 : n0 ≤ h0.size := Nat.le_trans (Nat.le_of_eq O0.1.symm) O0.2.1
 obtain ⟨S0, hS0⟩ : ∃ z, z = s₁.setTop (entryFrame m #[(.int p0), (.int p1)] 2) := ⟨_, rfl⟩
 have pre0 : ∀ tg, AT p e below s₁ m 0 #[iv p0, iv p1] [] tg → Steps p.tables e below S0 tg := fun tg kg => by rw [hS0]; exact castTop (ef_5 m p0 p1) kg
 have pre1 : ∀ tg, AT p e below s₁ m 2 #[iv p0, iv p1] [(.int p1), (.int p0)] tg → Steps p.tables e below S0 tg := fun tg kg => pre0 tg (by
  refine XS.iloadN X0.here hx rfl (hb hby d5_0) rfl ?_
  show AT p e below s₁ m 1 #[iv p0, iv p1] [(.int p0)] _
  refine XS.iloadN X0.here hx rfl (hb hby d5_1) rfl ?_
  exact kg)
 rcases Decidable.em (p1 < p0) with hc2 | hc2
 ·
  obtain ⟨fs, hr, hrun, hended, hW, hsame⟩ := X0.leave (v := some (.int p1)) (fun h => by rw [Bd.returns] at h; cases h)
  subst hS0
  refine ⟨_, _, pre1 _ ?_, hrun, hended, _, _, rfl, ?_, ⟨_, rfl⟩, hW, hsame.mono (by decide) (by decide)⟩
  ·
   refine XS.icmpYes X0.here hx rfl (pc0 := 2) (pc' := 9) rfl (hb hby d5_2) rfl (XT.ii_gt_t hc2) (by decide) (by decide) ?_
   show AT p e below s₁ m 9 #[iv p0, iv p1] [] _
   refine XS.iloadN X0.here hx rfl (hb hby d5_9) rfl ?_
   show AT p e below s₁ m 10 #[iv p0, iv p1] [(.int p1)] _
   exact retOut X0 hx (t := .int) (i := .ireturn) Bd.returns rfl (Or.inl ⟨rfl, Or.inl rfl, _, rfl⟩) (hb hby d5_10) hr
  ·
   show Q5 Z p0 p1 h0 n0 _ s₁.heap _
   rw [e0]
   exact ⟨(by rw [f5, if_pos hc2]), N0, rfl⟩
 ·
  obtain ⟨fs, hr, hrun, hended, hW, hsame⟩ := X0.leave (v := some (.int p0)) (fun h => by rw [Bd.returns] at h; cases h)
  subst hS0
  refine ⟨_, _, pre1 _ ?_, hrun, hended, _, _, rfl, ?_, ⟨_, rfl⟩, hW, hsame.mono (by decide) (by decide)⟩
  ·
   refine XS.icmpNo X0.here hx rfl (hb hby d5_2) rfl (XT.ii_gt_f hc2) ?_
   show AT p e below s₁ m 5 #[iv p0, iv p1] [] _
   refine XS.iloadN X0.here hx rfl (hb hby d5_5) rfl ?_
   show AT p e below s₁ m 6 #[iv p0, iv p1] [(.int p0)] _
   refine XS.goto X0.here hx rfl (pc0 := 6) (pc' := 10) rfl (hb hby d5_6) (by decide) (by decide) ?_
   show AT p e below s₁ m 10 #[iv p0, iv p1] [(.int p0)] _
   exact retOut X0 hx (t := .int) (i := .ireturn) Bd.returns rfl (Or.inl ⟨rfl, Or.inl rfl, _, rfl⟩) (hb hby d5_10) hr
  ·
   show Q5 Z p0 p1 h0 n0 _ s₁.heap _
   rw [e0]
   exact ⟨(by rw [f5, if_neg hc2]), N0, rfl⟩

theorem d4_0 : decode jdk_65_method_121_code 0 = .ok (.iload_n 1, 1) := by decide +kernel
theorem d4_1 : decode jdk_65_method_121_code 1 = .ok (.aload_n 0, 1) := by decide +kernel
theorem d4_2 : decode jdk_65_method_121_code 2 = .ok (.arraylength, 1) := by decide +kernel
theorem d4_3 : decode jdk_65_method_121_code 3 = .ok (.if_icmp .ne 11, 3) := by decide +kernel
theorem d4_14 : decode jdk_65_method_121_code 14 = .ok (.iload_n 1, 1) := by decide +kernel
theorem d4_15 : decode jdk_65_method_121_code 15 = .ok (.newarray .byte, 2) := by decide +kernel
theorem d4_17 : decode jdk_65_method_121_code 17 = .ok (.astore_n 2, 1) := by decide +kernel
theorem d4_18 : decode jdk_65_method_121_code 18 = .ok (.aload_n 0, 1) := by decide +kernel
theorem d4_19 : decode jdk_65_method_121_code 19 = .ok (.iconst 0, 1) := by decide +kernel
theorem d4_20 : decode jdk_65_method_121_code 20 = .ok (.aload_n 2, 1) := by decide +kernel
theorem d4_21 : decode jdk_65_method_121_code 21 = .ok (.iconst 0, 1) := by decide +kernel
theorem d4_22 : decode jdk_65_method_121_code 22 = .ok (.aload_n 0, 1) := by decide +kernel
theorem d4_23 : decode jdk_65_method_121_code 23 = .ok (.arraylength, 1) := by decide +kernel
theorem d4_24 : decode jdk_65_method_121_code 24 = .ok (.iload_n 1, 1) := by decide +kernel
theorem d4_25 : decode jdk_65_method_121_code 25 = .ok (.invokestatic 304, 3) := by decide +kernel
theorem d4_28 : decode jdk_65_method_121_code 28 = .ok (.invokestatic 150, 3) := by decide +kernel
theorem d4_31 : decode jdk_65_method_121_code 31 = .ok (.aload_n 2, 1) := by decide +kernel
theorem d4_32 : decode jdk_65_method_121_code 32 = .ok (.areturn, 1) := by decide +kernel
theorem ef_4_0 (m : MethodId) (a0 : Addr) : entryFrame m #[(.ref a0), (.int (0 : Int32))] 3 = mkF m 0 #[rv a0, iv (0 : Int32), un] [] := by first | (simp [entryFrame, mkF, argsToLocals, Value.category]; done) | rfl
def Q4_0 (Z : State) (a0 : Addr) (kw : ClassId) (x0 : Int32) (x1 : Int32) (x2 : Int32) (x3 : Int32) (x4 : Int32) (x5 : Int32) (x6 : Int32) (x7 : Int32) (h0 : Heap) (n0 : Nat) (v : Option Value) (h : Heap) (L : List Loc) : Prop := ∃ (b : Addr) (kb : ClassId), v = some (.ref b) ∧ Fr n0 L ∧ Keep h0 h [] ∧ Arv Z h b kb .byte (0 : Int32) [] (.int (0 : Int32)) ∧ Exa Z h b "[B" ∧ h0.size ≤ b
set_option maxRecDepth 65536 in
set_option maxHeartbeats 40000000 in
theorem rm4_0 (l : Launch) (Z : State) (ar : Array Value) (hw : ∀ d ∈ tables_1, d.before ar Z = true) (ws : List Jvm.Cond) (a0 : Addr) (kw : ClassId) (x0 : Int32) (x1 : Int32) (x2 : Int32) (x3 : Int32) (x4 : Int32) (x5 : Int32) (x6 : Int32) (x7 : Int32) (h0 : Heap) (n0 : Nat) (O0 : Old Z n0 h0) (pf0 : Arv Z h0 a0 kw .byte (1024 : Int32) [(.int x0), (.int x1), (.int x2), (.int x3), (.int x4), (.int x5), (.int x6), (.int x7)] (.int (0 : Int32))) :
    MetFree l y4 (head1 (Jvm.Cond.code y4 jdk_65_method_121_code 3 (some (.array .byte)) :: ws) ({ frames := 1, cells := 1, slots := 0, locals := 18 } : Room)) (fun a U => a = #[(.ref a0), (.int (0 : Int32))] ∧ Z.Warmed39 U.vm ∧ U.heap = h0) (fun _ _ _ _ _ => True) (fun _ U o U' => ∃ v L, o = .returned v ∧ Q4_0 Z a0 kw x0 x1 x2 x3 x4 x5 x6 x7 h0 n0 v U'.heap L ∧ FrameEnd U o U' L ({ frames := 1, cells := 1, slots := 0, locals := 18 } : Room).cells ({ frames := 1, cells := 1, slots := 0, locals := 18 } : Room).slots) := by
 refine MetFree.of_bodySF (plainFor_of_name pn_4) hisR ?_
 intro p e s m args below meth c s₁ Bd hml0 hP hK
 obtain ⟨rfl, hZ, hh⟩ := hP
 have hx := Bd.exec
 have hby := Bd.bytes
 have hml : c.maxLocals = 3 := hml0
 have hown : s.vm.findClass "java/util/Arrays" = some m.cls := findClass_of_methodNamed Bd.named
 have hnm := (name_of_methodNamed Bd.named Bd.method).1
 have X0 : Stand p l e ({ frames := 1, cells := 1, slots := 0, locals := 18 } : Room) s m #[(.ref a0), (.int (0 : Int32))] below meth c s₁ [] 0 0 := Stand.of_body Bd
 have e0 : s₁.heap = h0 := by rw [← hh, Bd.state]; rfl
 have N0 := Fr.nil n0
 have Z0 : n0 ≤ h0.size := Nat.le_trans (Nat.le_of_eq O0.1.symm) O0.2.1
 obtain ⟨S0, hS0⟩ : ∃ z, z = s₁.setTop (entryFrame m #[(.ref a0), (.int (0 : Int32))] 3) := ⟨_, rfl⟩
 have pre0 : ∀ tg, AT p e below s₁ m 0 #[rv a0, iv (0 : Int32), un] [] tg → Steps p.tables e below S0 tg := fun tg kg => by rw [hS0]; exact castTop (ef_4_0 m a0) kg
 obtain ⟨cl1, Ar1, q1, S1, N1, H1, G1⟩ := id pf0
 obtain ⟨T2, h2, k2, X2, e2, E2, A2, B2, st2⟩ := newPE X0 hx hZ (ow hw 9 rfl) e0 (g := (mkF m 15 #[rv a0, iv (0 : Int32), un] [(.int (0 : Int32))])) rfl (hb hby d4_15) rfl (by decide) (cap := 0) (by decide) (by decide) (by decide) (by decide) (ad := "[B") (by decide)
 obtain ⟨b2, g2⟩ : ∃ z, z = h0.size := ⟨_, rfl⟩
 rw [← g2] at A2 B2 st2
 have ne2_3 : a0 ≠ b2 := Nat.ne_of_lt (Nat.lt_of_lt_of_le (pf0).lt (Nat.le_of_eq g2.symm))
 have gn2 : n0 ≤ b2 := Nat.le_trans (Nat.le_trans (Nat.le_of_eq O0.1.symm) O0.2.1) (Nat.le_of_eq g2.symm)
 have sz2 : h0.size ≤ b2 := Nat.le_trans (Keep.refl h0 []).1 (Nat.le_of_eq g2.symm)
 have V2_4 := pf0.ext E2
 have K2 := (Keep.refl h0 []).ext E2
 have O2 := O0.ext E2
 have V2_5 : Arv Z h2 b2 k2 .byte (0 : Int32) [] (.int (0 : Int32)) := (Arv.new A2 (by decide))
 obtain ⟨cl6, Ar6, q6, S6, N6, H6, G6⟩ := id V2_4
 obtain ⟨_, _, ⟨T7, L7, k7, n7⟩, -, X7, ⟨Lc7, hQ7, l7, y7, z7⟩, st7⟩ := Jvm.LawKit.callS X2 hx (y := y5) hown (mvT hZ (ow hw 23 rfl)) (mvT hZ (ow hw 24 rfl)) (mvT hZ (ow hw 25 rfl)) (mvT hZ (ow hw 26 rfl)) (by decide) (backOf (W := 4) (rm5 l Z ar hw [] (1024 : Int32) (0 : Int32) h2 n0 O2) hZ (ow hw 26 rfl) (ow hw 25 rfl) (by decide) (by decide)) (g := (mkF m 25 #[rv a0, iv (0 : Int32), rv b2] [(.int (0 : Int32)), (.int (1024 : Int32)), (.int (0 : Int32)), (.ref b2), (.int (0 : Int32)), (.ref a0)])) rfl (by rw [hml]; rfl) (argsL := [(.int (1024 : Int32)), (.int (0 : Int32))]) (rest := [(.int (0 : Int32)), (.ref b2), (.int (0 : Int32)), (.ref a0)]) (lenOf pd_8 rfl) rfl (by show 2 * 0 + _ ≤ _; exact Nat.le_of_eq rfl) (hb hby d4_25) (fun _ _ => ⟨rfl, e2, (by decide : 1 + 0 ≤ _), (by decide : 0 + 0 ≤ _)⟩)
 dsimp only [Pt.U, Pt.locs, Pt.cells, Pt.slots] at X7 l7 y7 z7 st7 hQ7
 subst l7 y7 z7
 obtain ⟨rfl, N7q, e7⟩ := hQ7
 have N7 := Fr.app N0 N7q
 have r7 : (f5 (1024 : Int32) (0 : Int32)) = (0 : Int32) := by rw [f5, if_pos ((by decide) : (0 : Int32) < (1024 : Int32))] <;> decide
 rw [r7] at st7
 obtain ⟨T8, h8, L8, X8, e8, N8, Kq8, Vq8, st8⟩ := cpA X7 hx hZ hown (ow hw 27 rfl) (ow hw 30 rfl) (ow hw 28 rfl) (ow hw 29 rfl) e7 V2_4 V2_5 (us := []) (Or.inl ⟨rfl, rfl⟩) (sp := (0 : Int32)) (dp := (0 : Int32)) (nn := (0 : Int32)) (by decide) (by decide) (by decide) (by decide) (by decide) rfl (Nat.le_of_ble_eq_true rfl) N7 gn2 (g := (mkF m 28 #[rv a0, iv (0 : Int32), rv b2] [(.int (0 : Int32)), (.int (0 : Int32)), (.ref b2), (.int (0 : Int32)), (.ref a0)])) rfl (by rw [hml]; rfl) rfl (hb hby d4_28) (by decide) (W := 0) (by show 2 * 0 + _ ≤ _; exact Nat.le_of_eq rfl) (by decide)
 have V8_9 : Arv Z h8 b2 k2 .byte (0 : Int32) [] (.int (0 : Int32)) := Vq8
 have V8_10 := V2_4.keep Kq8 (ninS ne2_3 nin0)
 have E8_11 := B2.keep Kq8
 have K8 := K2.trans Kq8 (allS (Or.inr sz2) all0)
 have O8 := O2.keep Kq8 (allS gn2 all0)
 obtain ⟨fs, hr, hrun, hended, hW, hsame⟩ := X8.leave (v := some (.ref b2)) (fun h => by rw [Bd.returns] at h; cases h)
 subst hS0
 refine ⟨_, _, pre0 _ ?_, hrun, hended, _, _, rfl, ?_, ⟨_, rfl⟩, hW, hsame.mono (by decide) (by decide)⟩
 ·
  refine XS.iloadN X0.here hx rfl (hb hby d4_0) rfl ?_
  show AT p e below s₁ m 1 #[rv a0, iv (0 : Int32), un] [(.int (0 : Int32))] _
  refine XS.aloadN X0.here hx rfl (hb hby d4_1) rfl rfl ?_
  show AT p e below s₁ m 2 #[rv a0, iv (0 : Int32), un] [(.ref a0), (.int (0 : Int32))] _
  refine X0.arraylength hx (by rw [e0]; exact Ar1.1) (State.isArrayOf_alike hZ.alike Ar1.2.1) (g := (mkF m 2 #[rv a0, iv (0 : Int32), un] [(.ref a0), (.int (0 : Int32))])) rfl rfl (hb hby d4_2) _ ?_
  rw [len_of S1 N1]
  show AT p e below s₁ m 3 #[rv a0, iv (0 : Int32), un] [(.int (1024 : Int32)), (.int (0 : Int32))] _
  refine XS.icmpYes X0.here hx rfl (pc0 := 3) (pc' := 14) rfl (hb hby d4_3) rfl (XT.ii_ne_t ((by decide) : ¬ ((0 : Int32) = (1024 : Int32)))) (by decide) (by decide) ?_
  show AT p e below s₁ m 14 #[rv a0, iv (0 : Int32), un] [] _
  refine XS.iloadN X0.here hx rfl (hb hby d4_14) rfl ?_
  show AT p e below s₁ m 15 #[rv a0, iv (0 : Int32), un] [(.int (0 : Int32))] _
  refine st2 _ ?_
  show AT p e below T2 m 17 #[rv a0, iv (0 : Int32), un] [(.ref b2)] _
  refine XS.astoreN X2.here hx rfl (hb hby d4_17) rfl rfl (l' := #[rv a0, iv (0 : Int32), rv b2]) rfl ?_
  show AT p e below T2 m 18 #[rv a0, iv (0 : Int32), rv b2] [] _
  refine XS.aloadN X2.here hx rfl (hb hby d4_18) rfl rfl ?_
  show AT p e below T2 m 19 #[rv a0, iv (0 : Int32), rv b2] [(.ref a0)] _
  refine XS.iconst X2.here hx rfl (hb hby d4_19) ?_
  show AT p e below T2 m 20 #[rv a0, iv (0 : Int32), rv b2] [(.int (0 : Int32)), (.ref a0)] _
  refine XS.aloadN X2.here hx rfl (hb hby d4_20) rfl rfl ?_
  show AT p e below T2 m 21 #[rv a0, iv (0 : Int32), rv b2] [(.ref b2), (.int (0 : Int32)), (.ref a0)] _
  refine XS.iconst X2.here hx rfl (hb hby d4_21) ?_
  show AT p e below T2 m 22 #[rv a0, iv (0 : Int32), rv b2] [(.int (0 : Int32)), (.ref b2), (.int (0 : Int32)), (.ref a0)] _
  refine XS.aloadN X2.here hx rfl (hb hby d4_22) rfl rfl ?_
  show AT p e below T2 m 23 #[rv a0, iv (0 : Int32), rv b2] [(.ref a0), (.int (0 : Int32)), (.ref b2), (.int (0 : Int32)), (.ref a0)] _
  refine X2.arraylength hx (by rw [e2]; exact Ar6.1) (State.isArrayOf_alike hZ.alike Ar6.2.1) (g := (mkF m 23 #[rv a0, iv (0 : Int32), rv b2] [(.ref a0), (.int (0 : Int32)), (.ref b2), (.int (0 : Int32)), (.ref a0)])) rfl rfl (hb hby d4_23) _ ?_
  rw [len_of S6 N6]
  show AT p e below T2 m 24 #[rv a0, iv (0 : Int32), rv b2] [(.int (1024 : Int32)), (.int (0 : Int32)), (.ref b2), (.int (0 : Int32)), (.ref a0)] _
  refine XS.iloadN X2.here hx rfl (hb hby d4_24) rfl ?_
  show AT p e below T2 m 25 #[rv a0, iv (0 : Int32), rv b2] [(.int (0 : Int32)), (.int (1024 : Int32)), (.int (0 : Int32)), (.ref b2), (.int (0 : Int32)), (.ref a0)] _
  refine st7 _ ?_
  show AT p e below T7 m 28 #[rv a0, iv (0 : Int32), rv b2] [(.int (0 : Int32)), (.int (0 : Int32)), (.ref b2), (.int (0 : Int32)), (.ref a0)] _
  refine st8 _ ?_
  show AT p e below T8 m 31 #[rv a0, iv (0 : Int32), rv b2] [] _
  refine XS.aloadN X8.here hx rfl (hb hby d4_31) rfl rfl ?_
  show AT p e below T8 m 32 #[rv a0, iv (0 : Int32), rv b2] [(.ref b2)] _
  exact retOut X8 hx (t := (.array .byte)) (i := .areturn) Bd.returns rfl (Or.inr (Or.inr (Or.inr (Or.inr ⟨rfl, rfl, rfl⟩)))) (hb hby d4_32) hr
 ·
  show Q4_0 Z a0 kw x0 x1 x2 x3 x4 x5 x6 x7 h0 n0 _ T8.heap _
  rw [e8]
  exact ⟨b2, k2, rfl, N8, K8, V8_9, E8_11, sz2⟩

theorem d3_0 : decode prog_10_method_7_code 0 = .ok (.aload_n 0, 1) := by decide +kernel
theorem d3_1 : decode prog_10_method_7_code 1 = .ok (.getfield 7, 3) := by decide +kernel
theorem d3_4 : decode prog_10_method_7_code 4 = .ok (.aload_n 0, 1) := by decide +kernel
theorem d3_5 : decode prog_10_method_7_code 5 = .ok (.getfield 36, 3) := by decide +kernel
theorem d3_8 : decode prog_10_method_7_code 8 = .ok (.invokestatic 55, 3) := by decide +kernel
theorem d3_11 : decode prog_10_method_7_code 11 = .ok (.areturn, 1) := by decide +kernel
theorem ef_3_0 (m : MethodId) (a0 : Addr) : entryFrame m #[(.ref a0)] 1 = mkF m 0 #[rv a0] [] := by first | (simp [entryFrame, mkF, argsToLocals, Value.category]; done) | rfl
def Q3_0 (Z : State) (a0 : Addr) (w : Addr) (kw : ClassId) (x0 : Int32) (x1 : Int32) (x2 : Int32) (x3 : Int32) (x4 : Int32) (x5 : Int32) (x6 : Int32) (x7 : Int32) (h0 : Heap) (n0 : Nat) (v : Option Value) (h : Heap) (L : List Loc) : Prop := ∃ (b : Addr) (kb : ClassId), v = some (.ref b) ∧ Fr n0 L ∧ Keep h0 h [] ∧ Arv Z h b kb .byte (0 : Int32) [] (.int (0 : Int32)) ∧ Exa Z h b "[B" ∧ h0.size ≤ b
set_option maxRecDepth 65536 in
set_option maxHeartbeats 40000000 in
theorem rm3_0 (l : Launch) (Z : State) (ar : Array Value) (hw : ∀ d ∈ tables_1, d.before ar Z = true) (ws : List Jvm.Cond) (a0 : Addr) (w : Addr) (kw : ClassId) (x0 : Int32) (x1 : Int32) (x2 : Int32) (x3 : Int32) (x4 : Int32) (x5 : Int32) (x6 : Int32) (x7 : Int32) (h0 : Heap) (n0 : Nat) (O0 : Old Z n0 h0) (pf0 : Exa Z h0 a0 "com/example/polity/polity/io/saml/CanonicalXml") (pf1 : Fld Z h0 a0 "com/example/polity/polity/io/saml/CanonicalXml" "bytes" "[B" (.ref w)) (pf2 : Arv Z h0 w kw .byte (1024 : Int32) [(.int x0), (.int x1), (.int x2), (.int x3), (.int x4), (.int x5), (.int x6), (.int x7)] (.int (0 : Int32))) (pf3 : Fld Z h0 a0 "com/example/polity/polity/io/saml/CanonicalXml" "length" "I" (.int (0 : Int32))) :
    MetFree l y3 (head1 (Jvm.Cond.code y3 prog_10_method_7_code 1 (some (.array .byte)) :: ws) ({ frames := 2, cells := 1, slots := 0, locals := 32 } : Room)) (fun a U => a = #[(.ref a0)] ∧ Z.Warmed39 U.vm ∧ U.heap = h0) (fun _ _ _ _ _ => True) (fun _ U o U' => ∃ v L, o = .returned v ∧ Q3_0 Z a0 w kw x0 x1 x2 x3 x4 x5 x6 x7 h0 n0 v U'.heap L ∧ FrameEnd U o U' L ({ frames := 2, cells := 1, slots := 0, locals := 32 } : Room).cells ({ frames := 2, cells := 1, slots := 0, locals := 32 } : Room).slots) := by
 refine MetFree.of_bodySF (plainFor_of_name pn_3) hisR ?_
 intro p e s m args below meth c s₁ Bd hml0 hP hK
 obtain ⟨rfl, hZ, hh⟩ := hP
 have hx := Bd.exec
 have hby := Bd.bytes
 have hml : c.maxLocals = 1 := hml0
 have hown : s.vm.findClass "com/example/polity/polity/io/saml/CanonicalXml" = some m.cls := findClass_of_methodNamed Bd.named
 have hnm := (name_of_methodNamed Bd.named Bd.method).1
 have X0 : Stand p l e ({ frames := 2, cells := 1, slots := 0, locals := 32 } : Room) s m #[(.ref a0)] below meth c s₁ [] 0 0 := Stand.of_body Bd
 have e0 : s₁.heap = h0 := by rw [← hh, Bd.state]; rfl
 have N0 := Fr.nil n0
 have Z0 : n0 ≤ h0.size := Nat.le_trans (Nat.le_of_eq O0.1.symm) O0.2.1
 obtain ⟨S0, hS0⟩ : ∃ z, z = s₁.setTop (entryFrame m #[(.ref a0)] 1) := ⟨_, rfl⟩
 have pre0 : ∀ tg, AT p e below s₁ m 0 #[rv a0] [] tg → Steps p.tables e below S0 tg := fun tg kg => by rw [hS0]; exact castTop (ef_3_0 m a0) kg
 obtain ⟨T1, X1, e1, st1⟩ := getF X0 hx hZ hown (host := "") (Or.inl (ow hw 10 rfl)) Via.refl e0 pf1 (g := (mkF m 1 #[rv a0] [(.ref a0)])) rfl rfl (hb hby d3_1)
 obtain ⟨T2, X2, e2, st2⟩ := getF X1 hx hZ hown (host := "") (Or.inl (ow hw 17 rfl)) Via.refl e1 pf3 (g := (mkF m 5 #[rv a0] [(.ref a0), (.ref w)])) rfl rfl (hb hby d3_5)
 obtain ⟨_, _, ⟨T3, L3, k3, n3⟩, -, X3, ⟨Lc3, hQ3, l3, y3, z3⟩, st3⟩ := Jvm.LawKit.callS X2 hx (y := y4) hown (mvT hZ (ow hw 19 rfl)) (mvT hZ (ow hw 20 rfl)) (mvT hZ (ow hw 21 rfl)) (mvT hZ (ow hw 22 rfl)) (by decide) (backOf (W := 0) (rm4_0 l Z ar hw [] w kw x0 x1 x2 x3 x4 x5 x6 x7 h0 n0 O0 pf2) hZ (ow hw 22 rfl) (ow hw 21 rfl) (by decide) (by decide)) (g := (mkF m 8 #[rv a0] [(.int (0 : Int32)), (.ref w)])) rfl (by rw [hml]; rfl) (argsL := [(.ref w), (.int (0 : Int32))]) (rest := []) (lenOf pd_9 rfl) rfl (by show 2 * 0 + _ ≤ _; exact Nat.le_of_eq rfl) (hb hby d3_8) (fun _ _ => ⟨rfl, e2, (by decide : 0 + 1 ≤ _), (by decide : 0 + 0 ≤ _)⟩)
 dsimp only [Pt.U, Pt.locs, Pt.cells, Pt.slots] at X3 l3 y3 z3 st3 hQ3
 subst l3 y3 z3
 obtain ⟨b_3, kb_3, rfl, N3q, Kq3, u3_0, u3_1, u3_2⟩ := hQ3
 have N3 := Fr.app N0 N3q
 have E3_4 := pf0.keep Kq3
 have F3_5 := pf1.keep Kq3 nin0
 have V3_6 := pf2.keep Kq3 nin0
 have F3_7 := pf3.keep Kq3 nin0
 have K3 := (Keep.refl h0 []).trans Kq3 all0
 have O3 := O0.keep Kq3 all0
 have sz8 : h0.size ≤ b_3 := Nat.le_trans (Keep.refl h0 []).1 u3_2
 have gn8 : n0 ≤ b_3 := Nat.le_trans (Nat.le_trans (Nat.le_of_eq O0.1.symm) O0.2.1) u3_2
 have ne9 : a0 ≠ b_3 := Nat.ne_of_lt (Nat.lt_of_lt_of_le (pf0).lt u3_2)
 have ne10 : w ≠ b_3 := Nat.ne_of_lt (Nat.lt_of_lt_of_le (pf2).lt u3_2)
 obtain ⟨fs, hr, hrun, hended, hW, hsame⟩ := X3.leave (v := some (.ref b_3)) (fun h => by rw [Bd.returns] at h; cases h)
 subst hS0
 refine ⟨_, _, pre0 _ ?_, hrun, hended, _, _, rfl, ?_, ⟨_, rfl⟩, hW, hsame.mono (by decide) (by decide)⟩
 ·
  refine XS.aloadN X0.here hx rfl (hb hby d3_0) rfl rfl ?_
  show AT p e below s₁ m 1 #[rv a0] [(.ref a0)] _
  refine st1 _ ?_
  show AT p e below T1 m 4 #[rv a0] [(.ref w)] _
  refine XS.aloadN X1.here hx rfl (hb hby d3_4) rfl rfl ?_
  show AT p e below T1 m 5 #[rv a0] [(.ref a0), (.ref w)] _
  refine st2 _ ?_
  show AT p e below T2 m 8 #[rv a0] [(.int (0 : Int32)), (.ref w)] _
  refine st3 _ ?_
  show AT p e below T3 m 11 #[rv a0] [(.ref b_3)] _
  exact retOut X3 hx (t := (.array .byte)) (i := .areturn) Bd.returns rfl (Or.inr (Or.inr (Or.inr (Or.inr ⟨rfl, rfl, rfl⟩)))) (hb hby d3_11) hr
 ·
  show Q3_0 Z a0 w kw x0 x1 x2 x3 x4 x5 x6 x7 h0 n0 _ T3.heap _
  exact ⟨b_3, kb_3, rfl, N3, K3, u3_0, u3_1, sz8⟩

theorem d14_0 : decode prog_10_method_12_code 0 = .ok (.aload_n 0, 1) := by decide +kernel
theorem d14_1 : decode prog_10_method_12_code 1 = .ok (.getfield 7, 3) := by decide +kernel
theorem d14_4 : decode prog_10_method_12_code 4 = .ok (.arraylength, 1) := by decide +kernel
theorem d14_5 : decode prog_10_method_12_code 5 = .ok (.aload_n 0, 1) := by decide +kernel
theorem d14_6 : decode prog_10_method_12_code 6 = .ok (.getfield 36, 3) := by decide +kernel
theorem d14_9 : decode prog_10_method_12_code 9 = .ok (.isub, 1) := by decide +kernel
theorem d14_10 : decode prog_10_method_12_code 10 = .ok (.iload_n 1, 1) := by decide +kernel
theorem d14_11 : decode prog_10_method_12_code 11 = .ok (.if_icmp .ge 30, 3) := by decide +kernel
theorem d14_41 : decode prog_10_method_12_code 41 = .ok (.return_, 1) := by decide +kernel
theorem ef_14_0 (m : MethodId) (a0 : Addr) : entryFrame m #[(.ref a0), (.int (1 : Int32))] 2 = mkF m 0 #[rv a0, iv (1 : Int32)] [] := by first | (simp [entryFrame, mkF, argsToLocals, Value.category]; done) | rfl
def Q14_0 (Z : State) (a0 : Addr) (w : Addr) (kw : ClassId) (x0 : Int32) (x1 : Int32) (x2 : Int32) (x3 : Int32) (x4 : Int32) (x5 : Int32) (x6 : Int32) (x7 : Int32) (h0 : Heap) (n0 : Nat) (v : Option Value) (h : Heap) (L : List Loc) : Prop := v = none ∧ Fr n0 L ∧ h = h0
set_option maxRecDepth 65536 in
set_option maxHeartbeats 40000000 in
theorem rm14_0 (l : Launch) (Z : State) (ar : Array Value) (hw : ∀ d ∈ tables_1, d.before ar Z = true) (ws : List Jvm.Cond) (a0 : Addr) (w : Addr) (kw : ClassId) (x0 : Int32) (x1 : Int32) (x2 : Int32) (x3 : Int32) (x4 : Int32) (x5 : Int32) (x6 : Int32) (x7 : Int32) (h0 : Heap) (n0 : Nat) (O0 : Old Z n0 h0) (pf0 : Exa Z h0 a0 "com/example/polity/polity/io/saml/CanonicalXml") (pf1 : Fld Z h0 a0 "com/example/polity/polity/io/saml/CanonicalXml" "bytes" "[B" (.ref w)) (pf2 : Arv Z h0 w kw .byte (1024 : Int32) [(.int x0), (.int x1), (.int x2), (.int x3), (.int x4), (.int x5), (.int x6), (.int x7)] (.int (0 : Int32))) (pf3 : Fld Z h0 a0 "com/example/polity/polity/io/saml/CanonicalXml" "length" "I" (.int (0 : Int32))) :
    MetFree l y14 (head1 (Jvm.Cond.code y14 prog_10_method_12_code 2 none :: ws) ({ frames := 0, cells := 0, slots := 0, locals := 0 } : Room)) (fun a U => a = #[(.ref a0), (.int (1 : Int32))] ∧ Z.Warmed39 U.vm ∧ U.heap = h0) (fun _ _ _ _ _ => True) (fun _ U o U' => ∃ v L, o = .returned v ∧ Q14_0 Z a0 w kw x0 x1 x2 x3 x4 x5 x6 x7 h0 n0 v U'.heap L ∧ FrameEnd U o U' L ({ frames := 0, cells := 0, slots := 0, locals := 0 } : Room).cells ({ frames := 0, cells := 0, slots := 0, locals := 0 } : Room).slots) := by
 refine MetFree.of_bodySF (plainFor_of_name pn_3) hisR ?_
 intro p e s m args below meth c s₁ Bd hml0 hP hK
 obtain ⟨rfl, hZ, hh⟩ := hP
 have hx := Bd.exec
 have hby := Bd.bytes
 have hml : c.maxLocals = 2 := hml0
 have hown : s.vm.findClass "com/example/polity/polity/io/saml/CanonicalXml" = some m.cls := findClass_of_methodNamed Bd.named
 have hnm := (name_of_methodNamed Bd.named Bd.method).1
 have X0 : Stand p l e ({ frames := 0, cells := 0, slots := 0, locals := 0 } : Room) s m #[(.ref a0), (.int (1 : Int32))] below meth c s₁ [] 0 0 := Stand.of_body Bd
 have e0 : s₁.heap = h0 := by rw [← hh, Bd.state]; rfl
 have N0 := Fr.nil n0
 have Z0 : n0 ≤ h0.size := Nat.le_trans (Nat.le_of_eq O0.1.symm) O0.2.1
 obtain ⟨S0, hS0⟩ : ∃ z, z = s₁.setTop (entryFrame m #[(.ref a0), (.int (1 : Int32))] 2) := ⟨_, rfl⟩
 have pre0 : ∀ tg, AT p e below s₁ m 0 #[rv a0, iv (1 : Int32)] [] tg → Steps p.tables e below S0 tg := fun tg kg => by rw [hS0]; exact castTop (ef_14_0 m a0) kg
 obtain ⟨T1, X1, e1, st1⟩ := getF X0 hx hZ hown (host := "") (Or.inl (ow hw 10 rfl)) Via.refl e0 pf1 (g := (mkF m 1 #[rv a0, iv (1 : Int32)] [(.ref a0)])) rfl rfl (hb hby d14_1)
 obtain ⟨cl2, Ar2, q2, S2, N2, H2, G2⟩ := id pf2
 obtain ⟨T3, X3, e3, st3⟩ := getF X1 hx hZ hown (host := "") (Or.inl (ow hw 17 rfl)) Via.refl e1 pf3 (g := (mkF m 6 #[rv a0, iv (1 : Int32)] [(.ref a0), (.int (1024 : Int32))])) rfl rfl (hb hby d14_6)
 obtain ⟨fs, hr, hrun, hended, hW, hsame⟩ := X3.leave (v := none) (fun _ => rfl)
 subst hS0
 refine ⟨_, _, pre0 _ ?_, hrun, hended, _, _, rfl, ?_, ⟨_, rfl⟩, hW, hsame.mono (by decide) (by decide)⟩
 ·
  refine XS.aloadN X0.here hx rfl (hb hby d14_0) rfl rfl ?_
  show AT p e below s₁ m 1 #[rv a0, iv (1 : Int32)] [(.ref a0)] _
  refine st1 _ ?_
  show AT p e below T1 m 4 #[rv a0, iv (1 : Int32)] [(.ref w)] _
  refine X1.arraylength hx (by rw [e1]; exact Ar2.1) (State.isArrayOf_alike hZ.alike Ar2.2.1) (g := (mkF m 4 #[rv a0, iv (1 : Int32)] [(.ref w)])) rfl rfl (hb hby d14_4) _ ?_
  rw [len_of S2 N2]
  show AT p e below T1 m 5 #[rv a0, iv (1 : Int32)] [(.int (1024 : Int32))] _
  refine XS.aloadN X1.here hx rfl (hb hby d14_5) rfl rfl ?_
  show AT p e below T1 m 6 #[rv a0, iv (1 : Int32)] [(.ref a0), (.int (1024 : Int32))] _
  refine st3 _ ?_
  show AT p e below T3 m 9 #[rv a0, iv (1 : Int32)] [(.int (0 : Int32)), (.int (1024 : Int32))] _
  refine XS.isub X3.here hx rfl (hb hby d14_9) rfl ?_
  show AT p e below T3 m 10 #[rv a0, iv (1 : Int32)] [(.int (1024 : Int32))] _
  refine XS.iloadN X3.here hx rfl (hb hby d14_10) rfl ?_
  show AT p e below T3 m 11 #[rv a0, iv (1 : Int32)] [(.int (1 : Int32)), (.int (1024 : Int32))] _
  refine XS.icmpYes X3.here hx rfl (pc0 := 11) (pc' := 41) rfl (hb hby d14_11) rfl (XT.ii_ge_t ((by decide) : ¬ ((1024 : Int32) < (1 : Int32)))) (by decide) (by decide) ?_
  show AT p e below T3 m 41 #[rv a0, iv (1 : Int32)] [] _
  exact X3.returnOut hx Bd.returns (hb hby d14_41) hr
 ·
  show Q14_0 Z a0 w kw x0 x1 x2 x3 x4 x5 x6 x7 h0 n0 _ T3.heap _
  rw [e3]
  exact ⟨rfl, N0, rfl⟩

theorem d11_0 : decode prog_10_method_2_code 0 = .ok (.aload_n 0, 1) := by decide +kernel
theorem d11_1 : decode prog_10_method_2_code 1 = .ok (.aload_n 1, 1) := by decide +kernel
theorem d11_2 : decode prog_10_method_2_code 2 = .ok (.invokevirtual 13, 3) := by decide +kernel
theorem d11_5 : decode prog_10_method_2_code 5 = .ok (.invokevirtual 19, 3) := by decide +kernel
theorem d11_8 : decode prog_10_method_2_code 8 = .ok (.iconst 0, 1) := by decide +kernel
theorem d11_9 : decode prog_10_method_2_code 9 = .ok (.istore_n 2, 1) := by decide +kernel
theorem d11_10 : decode prog_10_method_2_code 10 = .ok (.iload_n 2, 1) := by decide +kernel
theorem d11_11 : decode prog_10_method_2_code 11 = .ok (.aload_n 1, 1) := by decide +kernel
theorem d11_12 : decode prog_10_method_2_code 12 = .ok (.invokevirtual 13, 3) := by decide +kernel
theorem d11_15 : decode prog_10_method_2_code 15 = .ok (.if_icmp .ge 53, 3) := by decide +kernel
theorem d11_18 : decode prog_10_method_2_code 18 = .ok (.aload_n 1, 1) := by decide +kernel
theorem d11_19 : decode prog_10_method_2_code 19 = .ok (.iload_n 2, 1) := by decide +kernel
theorem d11_20 : decode prog_10_method_2_code 20 = .ok (.invokevirtual 23, 3) := by decide +kernel
theorem d11_23 : decode prog_10_method_2_code 23 = .ok (.istore_n 3, 1) := by decide +kernel
theorem d11_24 : decode prog_10_method_2_code 24 = .ok (.iload_n 3, 1) := by decide +kernel
theorem d11_25 : decode prog_10_method_2_code 25 = .ok (.bipush 127, 2) := by decide +kernel
theorem d11_27 : decode prog_10_method_2_code 27 = .ok (.if_icmp .le 17, 3) := by decide +kernel
theorem d11_44 : decode prog_10_method_2_code 44 = .ok (.aload_n 0, 1) := by decide +kernel
theorem d11_45 : decode prog_10_method_2_code 45 = .ok (.getfield 7, 3) := by decide +kernel
theorem d11_48 : decode prog_10_method_2_code 48 = .ok (.aload_n 0, 1) := by decide +kernel
theorem d11_49 : decode prog_10_method_2_code 49 = .ok (.dup, 1) := by decide +kernel
theorem d11_50 : decode prog_10_method_2_code 50 = .ok (.getfield 36, 3) := by decide +kernel
theorem d11_53 : decode prog_10_method_2_code 53 = .ok (.dup_x1, 1) := by decide +kernel
theorem d11_54 : decode prog_10_method_2_code 54 = .ok (.iconst 1, 1) := by decide +kernel
theorem d11_55 : decode prog_10_method_2_code 55 = .ok (.iadd, 1) := by decide +kernel
theorem d11_56 : decode prog_10_method_2_code 56 = .ok (.putfield 36, 3) := by decide +kernel
theorem d11_59 : decode prog_10_method_2_code 59 = .ok (.iload_n 3, 1) := by decide +kernel
theorem d11_60 : decode prog_10_method_2_code 60 = .ok (.i2b, 1) := by decide +kernel
theorem d11_61 : decode prog_10_method_2_code 61 = .ok (.bastore, 1) := by decide +kernel
theorem d11_62 : decode prog_10_method_2_code 62 = .ok (.iinc 2 1, 3) := by decide +kernel
theorem d11_65 : decode prog_10_method_2_code 65 = .ok (.goto (-55), 3) := by decide +kernel
theorem d11_68 : decode prog_10_method_2_code 68 = .ok (.aload_n 0, 1) := by decide +kernel
theorem d11_69 : decode prog_10_method_2_code 69 = .ok (.areturn, 1) := by decide +kernel
theorem ef_11_0 (m : MethodId) (a0 : Addr) (a1 : Addr) : entryFrame m #[(.ref a0), (.ref a1)] 4 = mkF m 0 #[rv a0, rv a1, un, un] [] := by first | (simp [entryFrame, mkF, argsToLocals, Value.category]; done) | rfl
def Q11_0 (Z : State) (a0 : Addr) (a1 : Addr) (w_CS0 : Int32) (w_SF1 : Value) (w : Addr) (kw : ClassId) (x0 : Int32) (x1 : Int32) (x2 : Int32) (x3 : Int32) (x4 : Int32) (x5 : Int32) (x6 : Int32) (x7 : Int32) (u : Addr) (ku : ClassId) (y0 : Int32) (h0 : Heap) (n0 : Nat) (v : Option Value) (h : Heap) (L : List Loc) : Prop := v = some (.ref a0) ∧ Fr n0 L ∧ Keep h0 h [a0, w] ∧ Exa Z h a0 "com/example/polity/polity/io/saml/CanonicalXml" ∧ Fld Z h a0 "com/example/polity/polity/io/saml/CanonicalXml" "bytes" "[B" (.ref w) ∧ Fld Z h a0 "com/example/polity/polity/io/saml/CanonicalXml" "length" "I" (.int (1 : Int32)) ∧ Arv Z h w kw .byte (1024 : Int32) [(.int (nar .byte ((nar .char (nar .char ((y0 &&& (255 : Int32)).toUInt32.toUInt16.toUInt32.toInt32))).toInt8.toInt32))), (.int x1), (.int x2), (.int x3), (.int x4), (.int x5), (.int x6), (.int x7)] (.int (0 : Int32))
set_option maxRecDepth 65536 in
set_option maxHeartbeats 40000000 in
theorem rm11_0 (l : Launch) (Z : State) (ar : Array Value) (hw : ∀ d ∈ tables_1, d.before ar Z = true) (ws : List Jvm.Cond) (a0 : Addr) (a1 : Addr) (w_CS0 : Int32) (w_SF1 : Value) (w : Addr) (kw : ClassId) (x0 : Int32) (x1 : Int32) (x2 : Int32) (x3 : Int32) (x4 : Int32) (x5 : Int32) (x6 : Int32) (x7 : Int32) (u : Addr) (ku : ClassId) (y0 : Int32) (h0 : Heap) (n0 : Nat) (O0 : Old Z n0 h0) (HW : Wd Z w_CS0 w_SF1) (pf0 : Exa Z h0 a0 "com/example/polity/polity/io/saml/CanonicalXml") (pf1 : Fld Z h0 a0 "com/example/polity/polity/io/saml/CanonicalXml" "bytes" "[B" (.ref w)) (pf2 : Arv Z h0 w kw .byte (1024 : Int32) [(.int x0), (.int x1), (.int x2), (.int x3), (.int x4), (.int x5), (.int x6), (.int x7)] (.int (0 : Int32))) (pf3 : Fld Z h0 a0 "com/example/polity/polity/io/saml/CanonicalXml" "length" "I" (.int (0 : Int32))) (pf4 : n0 ≤ a0) (pf5 : n0 ≤ w) (pf6 : a0 ≠ w) (pf7 : Exa Z h0 a1 "java/lang/String") (pf8 : Fld Z h0 a1 "java/lang/String" "coder" "B" (.int (0 : Int32))) (pf9 : Fld Z h0 a1 "java/lang/String" "value" "[B" (.ref u)) (pf10 : Arv Z h0 u ku .byte (1 : Int32) [(.int y0)] (.int (0 : Int32))) (pf11 : a1 ≠ a0) (pf12 : u ≠ w) (pf13 : u ≠ a0) (pf14 : a1 ≠ w) (l1 : ¬ (127 : Int32) < (nar .char (nar .char ((y0 &&& (255 : Int32)).toUInt32.toUInt16.toUInt32.toInt32)))) :
    MetFree l y11 (head1 (Jvm.Cond.code y11 prog_10_method_2_code 4 (some (.object "com/example/polity/polity/io/saml/CanonicalXml")) :: ws) ({ frames := 4, cells := 0, slots := 0, locals := 53 } : Room)) (fun a U => a = #[(.ref a0), (.ref a1)] ∧ Z.Warmed39 U.vm ∧ U.heap = h0) (fun _ _ _ _ _ => True) (fun _ U o U' => ∃ v L, o = .returned v ∧ Q11_0 Z a0 a1 w_CS0 w_SF1 w kw x0 x1 x2 x3 x4 x5 x6 x7 u ku y0 h0 n0 v U'.heap L ∧ FrameEnd U o U' L ({ frames := 4, cells := 0, slots := 0, locals := 53 } : Room).cells ({ frames := 4, cells := 0, slots := 0, locals := 53 } : Room).slots) := by
 refine MetFree.of_bodySF (plainFor_of_name pn_3) hisR ?_
 intro p e s m args below meth c s₁ Bd hml0 hP hK
 obtain ⟨rfl, hZ, hh⟩ := hP
 have hx := Bd.exec
 have hby := Bd.bytes
 have hml : c.maxLocals = 4 := hml0
 have hown : s.vm.findClass "com/example/polity/polity/io/saml/CanonicalXml" = some m.cls := findClass_of_methodNamed Bd.named
 have hnm := (name_of_methodNamed Bd.named Bd.method).1
 have X0 : Stand p l e ({ frames := 4, cells := 0, slots := 0, locals := 53 } : Room) s m #[(.ref a0), (.ref a1)] below meth c s₁ [] 0 0 := Stand.of_body Bd
 have e0 : s₁.heap = h0 := by rw [← hh, Bd.state]; rfl
 have N0 := Fr.nil n0
 have Z0 : n0 ≤ h0.size := Nat.le_trans (Nat.le_of_eq O0.1.symm) O0.2.1
 obtain ⟨S0, hS0⟩ : ∃ z, z = s₁.setTop (entryFrame m #[(.ref a0), (.ref a1)] 4) := ⟨_, rfl⟩
 have pre0 : ∀ tg, AT p e below s₁ m 0 #[rv a0, rv a1, un, un] [] tg → Steps p.tables e below S0 tg := fun tg kg => by rw [hS0]; exact castTop (ef_11_0 m a0 a1) kg
 obtain ⟨S_COMPACT_STRINGS, hz_w_CS0, S_SIOOBE_FORMATTER, ir_w_SF1⟩ := id HW
 obtain ⟨cq1, kq1, q1a, q1b, q1c⟩ := isOf hZ e0 pf7
 obtain ⟨_, _, ⟨T1, L1, k1, n1⟩, -, X1, ⟨Lc1, hQ1, l1, y1, z1⟩, st1⟩ := X0.virtualBack hx (y := y12) (z := y12) hown (mvT hZ (ow hw 63 rfl)) (mvT hZ (ow hw 64 rfl)) (notFace_of_selects (args := #[]) (mvT hZ (ow hw 66 rfl))) (mvT hZ (ow hw 66 rfl)) (mvT hZ (ow hw 65 rfl)) (by decide) (backOf (W := 1) (rm12 l Z ar hw [] a1 w_CS0 w_SF1 u ku y0 h0 n0 O0 HW pf7 pf8 pf9 pf10) hZ (ow hw 67 rfl) (ow hw 37 rfl) (by decide) (by decide)) q1a q1c (g := (mkF m 2 #[rv a0, rv a1, un, un] [(.ref a1), (.ref a0)])) rfl (by rw [hml]; rfl) (Steps.refl _) (argsL := []) (rest := [(.ref a0)]) (lenOf pd_10 rfl) rfl (by show 2 * 0 + _ ≤ _; exact Nat.le_of_eq rfl) (hb hby d11_2) (fun _ _ => ⟨rfl, e0, (by decide : 0 + 0 ≤ _), (by decide : 0 + 0 ≤ _)⟩)
 dsimp only [Pt.U, Pt.locs, Pt.cells, Pt.slots] at X1 l1 y1 z1 st1 hQ1
 subst l1 y1 z1
 obtain ⟨rfl, N1q, e1⟩ := hQ1
 have N1 := Fr.app N0 N1q
 obtain ⟨cq2, q2, q2'⟩ := pf0.cell
 obtain ⟨_, _, ⟨T2, L2, k2, n2⟩, -, X2, ⟨Lc2, hQ2, l2, y2, z2⟩, st2⟩ := X1.privateBack hx (y := y14) hown (mvT hZ (ow hw 73 rfl)) (mvT hZ (ow hw 74 rfl)) (own_selP hZ (ow hw 1 rfl) (ow hw 75 rfl) (ow hw 74 rfl) (by decide)) (Cond.privateMethod_at (mvP hZ (ow hw 75 rfl) (args := #[]))) (mvT hZ (ow hw 76 rfl)) (by decide) (backOf (W := 0) (rm14_0 l Z ar hw [] a0 w kw x0 x1 x2 x3 x4 x5 x6 x7 h0 n0 O0 pf0 pf1 pf2 pf3) hZ (ow hw 76 rfl) (ow hw 2 rfl) (by decide) (by decide)) (g := (mkF m 5 #[rv a0, rv a1, un, un] [(.int (1 : Int32)), (.ref a0)])) rfl (by rw [hml]; rfl) (Steps.refl _) (a := a0) (by rw [e1]; exact q2) q2' (argsL := [(.int (1 : Int32))]) (rest := []) (lenOf pd_11 rfl) rfl (by show 2 * 0 + _ ≤ _; exact Nat.le_of_eq rfl) (hb hby d11_5) (fun _ _ => ⟨rfl, e1, (by decide : 0 + 0 ≤ _), (by decide : 0 + 0 ≤ _)⟩)
 dsimp only [Pt.U, Pt.locs, Pt.cells, Pt.slots] at X2 l2 y2 z2 st2 hQ2
 subst l2 y2 z2
 obtain ⟨rfl, N2q, e2⟩ := hQ2
 have N2 := Fr.app N1 N2q
 obtain ⟨cq3, kq3, q3a, q3b, q3c⟩ := isOf hZ e2 pf7
 obtain ⟨_, _, ⟨T3, L3, k3, n3⟩, -, X3, ⟨Lc3, hQ3, l3, y3, z3⟩, st3⟩ := X2.virtualBack hx (y := y12) (z := y12) hown (mvT hZ (ow hw 63 rfl)) (mvT hZ (ow hw 64 rfl)) (notFace_of_selects (args := #[]) (mvT hZ (ow hw 66 rfl))) (mvT hZ (ow hw 66 rfl)) (mvT hZ (ow hw 65 rfl)) (by decide) (backOf (W := 1) (rm12 l Z ar hw [] a1 w_CS0 w_SF1 u ku y0 h0 n0 O0 HW pf7 pf8 pf9 pf10) hZ (ow hw 67 rfl) (ow hw 37 rfl) (by decide) (by decide)) q3a q3c (g := (mkF m 12 #[rv a0, rv a1, iv (0 : Int32), un] [(.ref a1), (.int (0 : Int32))])) rfl (by rw [hml]; rfl) (Steps.refl _) (argsL := []) (rest := [(.int (0 : Int32))]) (lenOf pd_10 rfl) rfl (by show 2 * 0 + _ ≤ _; exact Nat.le_of_eq rfl) (hb hby d11_12) (fun _ _ => ⟨rfl, e2, (by decide : 0 + 0 ≤ _), (by decide : 0 + 0 ≤ _)⟩)
 dsimp only [Pt.U, Pt.locs, Pt.cells, Pt.slots] at X3 l3 y3 z3 st3 hQ3
 subst l3 y3 z3
 obtain ⟨rfl, N3q, e3⟩ := hQ3
 have N3 := Fr.app N2 N3q
 obtain ⟨cq4, kq4, q4a, q4b, q4c⟩ := isOf hZ e3 pf7
 obtain ⟨_, _, ⟨T4, L4, k4, n4⟩, -, X4, ⟨Lc4, hQ4, l4, y4, z4⟩, st4⟩ := X3.virtualBack hx (y := y15) (z := y15) hown (mvT hZ (ow hw 77 rfl)) (mvT hZ (ow hw 78 rfl)) (notFace_of_selects (args := #[]) (mvT hZ (ow hw 80 rfl))) (mvT hZ (ow hw 80 rfl)) (mvT hZ (ow hw 79 rfl)) (by decide) (backOf (W := 0) (rm15 l Z ar hw [] a1 w_CS0 w_SF1 u ku y0 h0 n0 O0 HW pf7 pf8 pf9 pf10) hZ (ow hw 81 rfl) (ow hw 37 rfl) (by decide) (by decide)) q4a q4c (g := (mkF m 20 #[rv a0, rv a1, iv (0 : Int32), un] [(.int (0 : Int32)), (.ref a1)])) rfl (by rw [hml]; rfl) (Steps.refl _) (argsL := [(.int (0 : Int32))]) (rest := []) (lenOf pd_12 rfl) rfl (by show 2 * 0 + _ ≤ _; exact Nat.le_of_eq rfl) (hb hby d11_20) (fun _ _ => ⟨rfl, e3, (by decide : 0 + 0 ≤ _), (by decide : 0 + 0 ≤ _)⟩)
 dsimp only [Pt.U, Pt.locs, Pt.cells, Pt.slots] at X4 l4 y4 z4 st4 hQ4
 subst l4 y4 z4
 obtain ⟨rfl, N4q, e4⟩ := hQ4
 have N4 := Fr.app N3 N4q
 obtain ⟨T5, X5, e5, st5⟩ := getF X4 hx hZ hown (host := "") (Or.inl (ow hw 10 rfl)) Via.refl e4 pf1 (g := (mkF m 45 #[rv a0, rv a1, iv (0 : Int32), iv (nar .char (nar .char ((y0 &&& (255 : Int32)).toUInt32.toUInt16.toUInt32.toInt32)))] [(.ref a0)])) rfl rfl (hb hby d11_45)
 obtain ⟨T6, X6, e6, st6⟩ := getF X5 hx hZ hown (host := "") (Or.inl (ow hw 17 rfl)) Via.refl e5 pf3 (g := (mkF m 50 #[rv a0, rv a1, iv (0 : Int32), iv (nar .char (nar .char ((y0 &&& (255 : Int32)).toUInt32.toUInt16.toUInt32.toInt32)))] [(.ref a0), (.ref a0), (.ref w)])) rfl rfl (hb hby d11_50)
 obtain ⟨T7, h7, X7, e7, W7, st7⟩ := putF X6 hx hZ hown (host := "") (Or.inl (ow hw 17 rfl)) Via.refl e6 pf3 pf0 (Or.inl (ow hw 18 rfl)) (ow hw 1 rfl) (ty := .int) (by decide) rfl rfl (g := (mkF m 56 #[rv a0, rv a1, iv (0 : Int32), iv (nar .char (nar .char ((y0 &&& (255 : Int32)).toUInt32.toUInt16.toUInt32.toInt32)))] [(.int (1 : Int32)), (.ref a0), (.int (0 : Int32)), (.ref w)])) rfl rfl (hb hby d11_56)
 have E7_8 := pf0.wr W7
 have F7_9 := pf1.other W7 (Or.inr (slot_ne (Or.inl (ow hw 11 rfl)) (Or.inl (ow hw 18 rfl)) (by decide) (t := (.array .byte)) (t' := .int) (by decide) (by decide)))
 have V7_10 := pf2.other W7 (Ne.symm pf6)
 have F7_11 : Fld Z h7 a0 "com/example/polity/polity/io/saml/CanonicalXml" "length" "I" (.int (1 : Int32)) := pf3.same W7
 have E7_12 := pf7.wr W7
 have F7_13 := pf8.other W7 (Or.inl pf11)
 have F7_14 := pf9.other W7 (Or.inl pf11)
 have V7_15 := pf10.other W7 pf13
 have K7 := (Keep.refl h0 [a0, w]).wr W7 (Or.inl (List.mem_of_getElem? (i := 0) rfl))
 have O7 := O0.wr W7 pf4
 have N7 := Fr.snoc X7 N4 pf4
 obtain ⟨cl16, Ar16, q16, S16, M16, H16, G16⟩ := id V7_10
 have hin16 := own_in (0 : Int32) S16 ⟨by decide, by decide⟩
 obtain ⟨T16, h16, X16, e16, W16, st16⟩ := stB X7 hx hZ e7 Ar16 (j := (0 : Int32)) hin16 (g := (mkF m 61 #[rv a0, rv a1, iv (0 : Int32), iv (nar .char (nar .char ((y0 &&& (255 : Int32)).toUInt32.toUInt16.toUInt32.toInt32)))] [(.int ((nar .char (nar .char ((y0 &&& (255 : Int32)).toUInt32.toUInt16.toUInt32.toInt32))).toInt8.toInt32)), (.int (0 : Int32)), (.ref w)])) rfl rfl (hb hby d11_61)
 have V16_17 : Arv Z h16 w kw .byte (1024 : Int32) [(.int (nar .byte ((nar .char (nar .char ((y0 &&& (255 : Int32)).toUInt32.toUInt16.toUInt32.toInt32))).toInt8.toInt32))), (.int x1), (.int x2), (.int x3), (.int x4), (.int x5), (.int x6), (.int x7)] (.int (0 : Int32)) := Arv.set Ar16 q16 S16 M16 H16 G16 (fits_nar_byte _) W16 0 rfl (Nat.le_of_ble_eq_true rfl)
 have E16_18 := E7_8.wr W16
 have F16_19 := F7_9.other W16 (Or.inl pf6)
 have F16_20 := F7_11.other W16 (Or.inl pf6)
 have E16_21 := E7_12.wr W16
 have F16_22 := F7_13.other W16 (Or.inl pf14)
 have F16_23 := F7_14.other W16 (Or.inl pf14)
 have V16_24 := V7_15.other W16 pf12
 have K16 := K7.wr W16 (Or.inl (List.mem_of_getElem? (i := 1) rfl))
 have O16 := O7.wr W16 pf5
 have N16 := Fr.snoc X16 N7 pf5
 obtain ⟨cq25, kq25, q25a, q25b, q25c⟩ := isOf hZ e16 E16_21
 obtain ⟨_, _, ⟨T25, L25, k25, n25⟩, -, X25, ⟨Lc25, hQ25, l25, y25, z25⟩, st25⟩ := X16.virtualBack hx (y := y12) (z := y12) hown (mvT hZ (ow hw 63 rfl)) (mvT hZ (ow hw 64 rfl)) (notFace_of_selects (args := #[]) (mvT hZ (ow hw 66 rfl))) (mvT hZ (ow hw 66 rfl)) (mvT hZ (ow hw 65 rfl)) (by decide) (backOf (W := 1) (rm12 l Z ar hw [] a1 w_CS0 w_SF1 u ku y0 h16 n0 O16 HW E16_21 F16_22 F16_23 V16_24) hZ (ow hw 67 rfl) (ow hw 37 rfl) (by decide) (by decide)) q25a q25c (g := (mkF m 12 #[rv a0, rv a1, iv (1 : Int32), iv (nar .char (nar .char ((y0 &&& (255 : Int32)).toUInt32.toUInt16.toUInt32.toInt32)))] [(.ref a1), (.int (1 : Int32))])) rfl (by rw [hml]; rfl) (Steps.refl _) (argsL := []) (rest := [(.int (1 : Int32))]) (lenOf pd_10 rfl) rfl (by show 2 * 0 + _ ≤ _; exact Nat.le_of_eq rfl) (hb hby d11_12) (fun _ _ => ⟨rfl, e16, (by decide : 0 + 0 ≤ _), (by decide : 0 + 0 ≤ _)⟩)
 dsimp only [Pt.U, Pt.locs, Pt.cells, Pt.slots] at X25 l25 y25 z25 st25 hQ25
 subst l25 y25 z25
 obtain ⟨rfl, N25q, e25⟩ := hQ25
 have N25 := Fr.app N16 N25q
 obtain ⟨fs, hr, hrun, hended, hW, hsame⟩ := X25.leave (v := some (.ref a0)) (fun h => by rw [Bd.returns] at h; cases h)
 subst hS0
 refine ⟨_, _, pre0 _ ?_, hrun, hended, _, _, rfl, ?_, ⟨_, rfl⟩, hW, hsame.mono (by decide) (by decide)⟩
 ·
  refine XS.aloadN X0.here hx rfl (hb hby d11_0) rfl rfl ?_
  show AT p e below s₁ m 1 #[rv a0, rv a1, un, un] [(.ref a0)] _
  refine XS.aloadN X0.here hx rfl (hb hby d11_1) rfl rfl ?_
  show AT p e below s₁ m 2 #[rv a0, rv a1, un, un] [(.ref a1), (.ref a0)] _
  refine st1.trans ?_
  show AT p e below T1 m 5 #[rv a0, rv a1, un, un] [(.int (1 : Int32)), (.ref a0)] _
  refine st2.trans ?_
  show AT p e below T2 m 8 #[rv a0, rv a1, un, un] [] _
  refine XS.iconst X2.here hx rfl (hb hby d11_8) ?_
  show AT p e below T2 m 9 #[rv a0, rv a1, un, un] [(.int (0 : Int32))] _
  refine XS.istoreN X2.here hx rfl (hb hby d11_9) rfl (l' := #[rv a0, rv a1, iv (0 : Int32), un]) rfl ?_
  show AT p e below T2 m 10 #[rv a0, rv a1, iv (0 : Int32), un] [] _
  refine XS.iloadN X2.here hx rfl (hb hby d11_10) rfl ?_
  show AT p e below T2 m 11 #[rv a0, rv a1, iv (0 : Int32), un] [(.int (0 : Int32))] _
  refine XS.aloadN X2.here hx rfl (hb hby d11_11) rfl rfl ?_
  show AT p e below T2 m 12 #[rv a0, rv a1, iv (0 : Int32), un] [(.ref a1), (.int (0 : Int32))] _
  refine st3.trans ?_
  show AT p e below T3 m 15 #[rv a0, rv a1, iv (0 : Int32), un] [(.int (1 : Int32)), (.int (0 : Int32))] _
  refine XS.icmpNo X3.here hx rfl (hb hby d11_15) rfl (XT.ii_ge_f ((by decide) : (0 : Int32) < (1 : Int32))) ?_
  show AT p e below T3 m 18 #[rv a0, rv a1, iv (0 : Int32), un] [] _
  refine XS.aloadN X3.here hx rfl (hb hby d11_18) rfl rfl ?_
  show AT p e below T3 m 19 #[rv a0, rv a1, iv (0 : Int32), un] [(.ref a1)] _
  refine XS.iloadN X3.here hx rfl (hb hby d11_19) rfl ?_
  show AT p e below T3 m 20 #[rv a0, rv a1, iv (0 : Int32), un] [(.int (0 : Int32)), (.ref a1)] _
  refine st4.trans ?_
  show AT p e below T4 m 23 #[rv a0, rv a1, iv (0 : Int32), un] [(.int (nar .char (nar .char ((y0 &&& (255 : Int32)).toUInt32.toUInt16.toUInt32.toInt32))))] _
  refine XS.istoreN X4.here hx rfl (hb hby d11_23) rfl (l' := #[rv a0, rv a1, iv (0 : Int32), iv (nar .char (nar .char ((y0 &&& (255 : Int32)).toUInt32.toUInt16.toUInt32.toInt32)))]) rfl ?_
  show AT p e below T4 m 24 #[rv a0, rv a1, iv (0 : Int32), iv (nar .char (nar .char ((y0 &&& (255 : Int32)).toUInt32.toUInt16.toUInt32.toInt32)))] [] _
  refine XS.iloadN X4.here hx rfl (hb hby d11_24) rfl ?_
  show AT p e below T4 m 25 #[rv a0, rv a1, iv (0 : Int32), iv (nar .char (nar .char ((y0 &&& (255 : Int32)).toUInt32.toUInt16.toUInt32.toInt32)))] [(.int (nar .char (nar .char ((y0 &&& (255 : Int32)).toUInt32.toUInt16.toUInt32.toInt32))))] _
  refine XS.bipush X4.here hx rfl (hb hby d11_25) ?_
  show AT p e below T4 m 27 #[rv a0, rv a1, iv (0 : Int32), iv (nar .char (nar .char ((y0 &&& (255 : Int32)).toUInt32.toUInt16.toUInt32.toInt32)))] [(.int (127 : Int32)), (.int (nar .char (nar .char ((y0 &&& (255 : Int32)).toUInt32.toUInt16.toUInt32.toInt32))))] _
  refine XS.icmpYes X4.here hx rfl (pc0 := 27) (pc' := 44) rfl (hb hby d11_27) rfl (XT.ii_le_t (l1 : ¬ ((127 : Int32) < (nar .char (nar .char ((y0 &&& (255 : Int32)).toUInt32.toUInt16.toUInt32.toInt32)))))) (by decide) (by decide) ?_
  show AT p e below T4 m 44 #[rv a0, rv a1, iv (0 : Int32), iv (nar .char (nar .char ((y0 &&& (255 : Int32)).toUInt32.toUInt16.toUInt32.toInt32)))] [] _
  refine XS.aloadN X4.here hx rfl (hb hby d11_44) rfl rfl ?_
  show AT p e below T4 m 45 #[rv a0, rv a1, iv (0 : Int32), iv (nar .char (nar .char ((y0 &&& (255 : Int32)).toUInt32.toUInt16.toUInt32.toInt32)))] [(.ref a0)] _
  refine st5 _ ?_
  show AT p e below T5 m 48 #[rv a0, rv a1, iv (0 : Int32), iv (nar .char (nar .char ((y0 &&& (255 : Int32)).toUInt32.toUInt16.toUInt32.toInt32)))] [(.ref w)] _
  refine XS.aloadN X5.here hx rfl (hb hby d11_48) rfl rfl ?_
  show AT p e below T5 m 49 #[rv a0, rv a1, iv (0 : Int32), iv (nar .char (nar .char ((y0 &&& (255 : Int32)).toUInt32.toUInt16.toUInt32.toInt32)))] [(.ref a0), (.ref w)] _
  refine XS.dup X5.here hx rfl (hb hby d11_49) rfl rfl ?_
  show AT p e below T5 m 50 #[rv a0, rv a1, iv (0 : Int32), iv (nar .char (nar .char ((y0 &&& (255 : Int32)).toUInt32.toUInt16.toUInt32.toInt32)))] [(.ref a0), (.ref a0), (.ref w)] _
  refine st6 _ ?_
  show AT p e below T6 m 53 #[rv a0, rv a1, iv (0 : Int32), iv (nar .char (nar .char ((y0 &&& (255 : Int32)).toUInt32.toUInt16.toUInt32.toInt32)))] [(.int (0 : Int32)), (.ref a0), (.ref w)] _
  refine XS.dupX1 X6.here hx rfl (hb hby d11_53) rfl rfl rfl ?_
  show AT p e below T6 m 54 #[rv a0, rv a1, iv (0 : Int32), iv (nar .char (nar .char ((y0 &&& (255 : Int32)).toUInt32.toUInt16.toUInt32.toInt32)))] [(.int (0 : Int32)), (.ref a0), (.int (0 : Int32)), (.ref w)] _
  refine XS.iconst X6.here hx rfl (hb hby d11_54) ?_
  show AT p e below T6 m 55 #[rv a0, rv a1, iv (0 : Int32), iv (nar .char (nar .char ((y0 &&& (255 : Int32)).toUInt32.toUInt16.toUInt32.toInt32)))] [(.int (1 : Int32)), (.int (0 : Int32)), (.ref a0), (.int (0 : Int32)), (.ref w)] _
  refine XS.iadd X6.here hx rfl (hb hby d11_55) rfl ?_
  show AT p e below T6 m 56 #[rv a0, rv a1, iv (0 : Int32), iv (nar .char (nar .char ((y0 &&& (255 : Int32)).toUInt32.toUInt16.toUInt32.toInt32)))] [(.int (1 : Int32)), (.ref a0), (.int (0 : Int32)), (.ref w)] _
  refine st7 _ ?_
  show AT p e below T7 m 59 #[rv a0, rv a1, iv (0 : Int32), iv (nar .char (nar .char ((y0 &&& (255 : Int32)).toUInt32.toUInt16.toUInt32.toInt32)))] [(.int (0 : Int32)), (.ref w)] _
  refine XS.iloadN X7.here hx rfl (hb hby d11_59) rfl ?_
  show AT p e below T7 m 60 #[rv a0, rv a1, iv (0 : Int32), iv (nar .char (nar .char ((y0 &&& (255 : Int32)).toUInt32.toUInt16.toUInt32.toInt32)))] [(.int (nar .char (nar .char ((y0 &&& (255 : Int32)).toUInt32.toUInt16.toUInt32.toInt32)))), (.int (0 : Int32)), (.ref w)] _
  refine XS.i2b X7.here hx rfl (hb hby d11_60) rfl ?_
  show AT p e below T7 m 61 #[rv a0, rv a1, iv (0 : Int32), iv (nar .char (nar .char ((y0 &&& (255 : Int32)).toUInt32.toUInt16.toUInt32.toInt32)))] [(.int ((nar .char (nar .char ((y0 &&& (255 : Int32)).toUInt32.toUInt16.toUInt32.toInt32))).toInt8.toInt32)), (.int (0 : Int32)), (.ref w)] _
  refine st16 _ ?_
  show AT p e below T16 m 62 #[rv a0, rv a1, iv (0 : Int32), iv (nar .char (nar .char ((y0 &&& (255 : Int32)).toUInt32.toUInt16.toUInt32.toInt32)))] [] _
  refine XS.iinc X16.here hx rfl (hb hby d11_62) rfl (l' := #[rv a0, rv a1, iv (1 : Int32), iv (nar .char (nar .char ((y0 &&& (255 : Int32)).toUInt32.toUInt16.toUInt32.toInt32)))]) rfl ?_
  show AT p e below T16 m 65 #[rv a0, rv a1, iv (1 : Int32), iv (nar .char (nar .char ((y0 &&& (255 : Int32)).toUInt32.toUInt16.toUInt32.toInt32)))] [] _
  refine XS.goto X16.here hx rfl (pc0 := 65) (pc' := 10) rfl (hb hby d11_65) (by decide) (by decide) ?_
  show AT p e below T16 m 10 #[rv a0, rv a1, iv (1 : Int32), iv (nar .char (nar .char ((y0 &&& (255 : Int32)).toUInt32.toUInt16.toUInt32.toInt32)))] [] _
  refine XS.iloadN X16.here hx rfl (hb hby d11_10) rfl ?_
  show AT p e below T16 m 11 #[rv a0, rv a1, iv (1 : Int32), iv (nar .char (nar .char ((y0 &&& (255 : Int32)).toUInt32.toUInt16.toUInt32.toInt32)))] [(.int (1 : Int32))] _
  refine XS.aloadN X16.here hx rfl (hb hby d11_11) rfl rfl ?_
  show AT p e below T16 m 12 #[rv a0, rv a1, iv (1 : Int32), iv (nar .char (nar .char ((y0 &&& (255 : Int32)).toUInt32.toUInt16.toUInt32.toInt32)))] [(.ref a1), (.int (1 : Int32))] _
  refine st25.trans ?_
  show AT p e below T25 m 15 #[rv a0, rv a1, iv (1 : Int32), iv (nar .char (nar .char ((y0 &&& (255 : Int32)).toUInt32.toUInt16.toUInt32.toInt32)))] [(.int (1 : Int32)), (.int (1 : Int32))] _
  refine XS.icmpYes X25.here hx rfl (pc0 := 15) (pc' := 68) rfl (hb hby d11_15) rfl (XT.ii_ge_t ((by decide) : ¬ ((1 : Int32) < (1 : Int32)))) (by decide) (by decide) ?_
  show AT p e below T25 m 68 #[rv a0, rv a1, iv (1 : Int32), iv (nar .char (nar .char ((y0 &&& (255 : Int32)).toUInt32.toUInt16.toUInt32.toInt32)))] [] _
  refine XS.aloadN X25.here hx rfl (hb hby d11_68) rfl rfl ?_
  show AT p e below T25 m 69 #[rv a0, rv a1, iv (1 : Int32), iv (nar .char (nar .char ((y0 &&& (255 : Int32)).toUInt32.toUInt16.toUInt32.toInt32)))] [(.ref a0)] _
  exact retOut X25 hx (t := (.object "com/example/polity/polity/io/saml/CanonicalXml")) (i := .areturn) Bd.returns rfl (Or.inr (Or.inr (Or.inr (Or.inr ⟨rfl, rfl, rfl⟩)))) (hb hby d11_69) hr
 ·
  show Q11_0 Z a0 a1 w_CS0 w_SF1 w kw x0 x1 x2 x3 x4 x5 x6 x7 u ku y0 h0 n0 _ T25.heap _
  rw [e25]
  exact ⟨rfl, N25, K16, E16_18, F16_19, F16_20, V16_17⟩

theorem d6_0 : decode method_3_code 0 = .ok (.aload_n 0, 1) := by decide +kernel
theorem d6_1 : decode method_3_code 1 = .ok (.arraylength, 1) := by decide +kernel
theorem d6_2 : decode method_3_code 2 = .ok (.iload_n 1, 1) := by decide +kernel
theorem d6_3 : decode method_3_code 3 = .ok (.if_icmp .eq 5, 3) := by decide +kernel
theorem d6_8 : decode method_3_code 8 = .ok (.iload_n 1, 1) := by decide +kernel
theorem d6_9 : decode method_3_code 9 = .ok (.iconst 1, 1) := by decide +kernel
theorem d6_10 : decode method_3_code 10 = .ok (.if_icmp .lt 13, 3) := by decide +kernel
theorem d6_23 : decode method_3_code 23 = .ok (.iload_n 1, 1) := by decide +kernel
theorem d6_24 : decode method_3_code 24 = .ok (.iconst 2, 1) := by decide +kernel
theorem d6_25 : decode method_3_code 25 = .ok (.if_icmp .lt 13, 3) := by decide +kernel
theorem d6_38 : decode method_3_code 38 = .ok (.iload_n 1, 1) := by decide +kernel
theorem d6_39 : decode method_3_code 39 = .ok (.iconst 3, 1) := by decide +kernel
theorem d6_40 : decode method_3_code 40 = .ok (.if_icmp .lt 14, 3) := by decide +kernel
theorem d6_54 : decode method_3_code 54 = .ok (.iconst 1, 1) := by decide +kernel
theorem d6_55 : decode method_3_code 55 = .ok (.ireturn, 1) := by decide +kernel
theorem ef_6_0 (m : MethodId) (a0 : Addr) (p2 : Int32) (p3 : Int32) (p4 : Int32) : entryFrame m #[(.ref a0), (.int (0 : Int32)), (.int p2), (.int p3), (.int p4)] 5 = mkF m 0 #[rv a0, iv (0 : Int32), iv p2, iv p3, iv p4] [] := by first | (simp [entryFrame, mkF, argsToLocals, Value.category]; done) | rfl
def Q6_0 (Z : State) (a0 : Addr) (p2 : Int32) (p3 : Int32) (p4 : Int32) (kb : ClassId) (h0 : Heap) (n0 : Nat) (v : Option Value) (h : Heap) (L : List Loc) : Prop := v = some (.int (1 : Int32)) ∧ Fr n0 L ∧ h = h0
set_option maxRecDepth 65536 in
set_option maxHeartbeats 40000000 in
theorem rm6_0 (l : Launch) (Z : State) (ar : Array Value) (hw : ∀ d ∈ tables_1, d.before ar Z = true) (ws : List Jvm.Cond) (a0 : Addr) (p2 : Int32) (p3 : Int32) (p4 : Int32) (kb : ClassId) (h0 : Heap) (n0 : Nat) (O0 : Old Z n0 h0) (pf0 : Arv Z h0 a0 kb .byte (0 : Int32) [] (.int (0 : Int32))) :
    MetFree l y6 (head1 (Jvm.Cond.code y6 method_3_code 5 (some .boolean) :: ws) ({ frames := 0, cells := 0, slots := 0, locals := 0 } : Room)) (fun a U => a = #[(.ref a0), (.int (0 : Int32)), (.int p2), (.int p3), (.int p4)] ∧ Z.Warmed39 U.vm ∧ U.heap = h0) (fun _ _ _ _ _ => True) (fun _ U o U' => ∃ v L, o = .returned v ∧ Q6_0 Z a0 p2 p3 p4 kb h0 n0 v U'.heap L ∧ FrameEnd U o U' L ({ frames := 0, cells := 0, slots := 0, locals := 0 } : Room).cells ({ frames := 0, cells := 0, slots := 0, locals := 0 } : Room).slots) := by
 refine MetFree.of_bodySF (plainFor_of_name pn_5) hisR ?_
 intro p e s m args below meth c s₁ Bd hml0 hP hK
 obtain ⟨rfl, hZ, hh⟩ := hP
 have hx := Bd.exec
 have hby := Bd.bytes
 have hml : c.maxLocals = 5 := hml0
 have hown : s.vm.findClass "com/example/polity/polity/io/saml/CanonicalXmlToByteArrayPinLaw" = some m.cls := findClass_of_methodNamed Bd.named
 have hnm := (name_of_methodNamed Bd.named Bd.method).1
 have X0 : Stand p l e ({ frames := 0, cells := 0, slots := 0, locals := 0 } : Room) s m #[(.ref a0), (.int (0 : Int32)), (.int p2), (.int p3), (.int p4)] below meth c s₁ [] 0 0 := Stand.of_body Bd
 have e0 : s₁.heap = h0 := by rw [← hh, Bd.state]; rfl
 have N0 := Fr.nil n0
 have Z0 : n0 ≤ h0.size := Nat.le_trans (Nat.le_of_eq O0.1.symm) O0.2.1
 obtain ⟨S0, hS0⟩ : ∃ z, z = s₁.setTop (entryFrame m #[(.ref a0), (.int (0 : Int32)), (.int p2), (.int p3), (.int p4)] 5) := ⟨_, rfl⟩
 have pre0 : ∀ tg, AT p e below s₁ m 0 #[rv a0, iv (0 : Int32), iv p2, iv p3, iv p4] [] tg → Steps p.tables e below S0 tg := fun tg kg => by rw [hS0]; exact castTop (ef_6_0 m a0 p2 p3 p4) kg
 obtain ⟨cl1, Ar1, q1, S1, N1, H1, G1⟩ := id pf0
 obtain ⟨fs, hr, hrun, hended, hW, hsame⟩ := X0.leave (v := some (.int (1 : Int32))) (fun h => by rw [Bd.returns] at h; cases h)
 subst hS0
 refine ⟨_, _, pre0 _ ?_, hrun, hended, _, _, rfl, ?_, ⟨_, rfl⟩, hW, hsame.mono (by decide) (by decide)⟩
 ·
  refine XS.aloadN X0.here hx rfl (hb hby d6_0) rfl rfl ?_
  show AT p e below s₁ m 1 #[rv a0, iv (0 : Int32), iv p2, iv p3, iv p4] [(.ref a0)] _
  refine X0.arraylength hx (by rw [e0]; exact Ar1.1) (State.isArrayOf_alike hZ.alike Ar1.2.1) (g := (mkF m 1 #[rv a0, iv (0 : Int32), iv p2, iv p3, iv p4] [(.ref a0)])) rfl rfl (hb hby d6_1) _ ?_
  rw [len_of S1 N1]
  show AT p e below s₁ m 2 #[rv a0, iv (0 : Int32), iv p2, iv p3, iv p4] [(.int (0 : Int32))] _
  refine XS.iloadN X0.here hx rfl (hb hby d6_2) rfl ?_
  show AT p e below s₁ m 3 #[rv a0, iv (0 : Int32), iv p2, iv p3, iv p4] [(.int (0 : Int32)), (.int (0 : Int32))] _
  refine XS.icmpYes X0.here hx rfl (pc0 := 3) (pc' := 8) rfl (hb hby d6_3) rfl (XT.ii_eq_t ((by decide) : (0 : Int32) = (0 : Int32))) (by decide) (by decide) ?_
  show AT p e below s₁ m 8 #[rv a0, iv (0 : Int32), iv p2, iv p3, iv p4] [] _
  refine XS.iloadN X0.here hx rfl (hb hby d6_8) rfl ?_
  show AT p e below s₁ m 9 #[rv a0, iv (0 : Int32), iv p2, iv p3, iv p4] [(.int (0 : Int32))] _
  refine XS.iconst X0.here hx rfl (hb hby d6_9) ?_
  show AT p e below s₁ m 10 #[rv a0, iv (0 : Int32), iv p2, iv p3, iv p4] [(.int (1 : Int32)), (.int (0 : Int32))] _
  refine XS.icmpYes X0.here hx rfl (pc0 := 10) (pc' := 23) rfl (hb hby d6_10) rfl (XT.ii_lt_t ((by decide) : (0 : Int32) < (1 : Int32))) (by decide) (by decide) ?_
  show AT p e below s₁ m 23 #[rv a0, iv (0 : Int32), iv p2, iv p3, iv p4] [] _
  refine XS.iloadN X0.here hx rfl (hb hby d6_23) rfl ?_
  show AT p e below s₁ m 24 #[rv a0, iv (0 : Int32), iv p2, iv p3, iv p4] [(.int (0 : Int32))] _
  refine XS.iconst X0.here hx rfl (hb hby d6_24) ?_
  show AT p e below s₁ m 25 #[rv a0, iv (0 : Int32), iv p2, iv p3, iv p4] [(.int (2 : Int32)), (.int (0 : Int32))] _
  refine XS.icmpYes X0.here hx rfl (pc0 := 25) (pc' := 38) rfl (hb hby d6_25) rfl (XT.ii_lt_t ((by decide) : (0 : Int32) < (2 : Int32))) (by decide) (by decide) ?_
  show AT p e below s₁ m 38 #[rv a0, iv (0 : Int32), iv p2, iv p3, iv p4] [] _
  refine XS.iloadN X0.here hx rfl (hb hby d6_38) rfl ?_
  show AT p e below s₁ m 39 #[rv a0, iv (0 : Int32), iv p2, iv p3, iv p4] [(.int (0 : Int32))] _
  refine XS.iconst X0.here hx rfl (hb hby d6_39) ?_
  show AT p e below s₁ m 40 #[rv a0, iv (0 : Int32), iv p2, iv p3, iv p4] [(.int (3 : Int32)), (.int (0 : Int32))] _
  refine XS.icmpYes X0.here hx rfl (pc0 := 40) (pc' := 54) rfl (hb hby d6_40) rfl (XT.ii_lt_t ((by decide) : (0 : Int32) < (3 : Int32))) (by decide) (by decide) ?_
  show AT p e below s₁ m 54 #[rv a0, iv (0 : Int32), iv p2, iv p3, iv p4] [] _
  refine XS.iconst X0.here hx rfl (hb hby d6_54) ?_
  show AT p e below s₁ m 55 #[rv a0, iv (0 : Int32), iv p2, iv p3, iv p4] [(.int (1 : Int32))] _
  exact retN X0 hx (t := .boolean) Bd.returns (by simp) (hb hby d6_55) hr
 ·
  show Q6_0 Z a0 p2 p3 p4 kb h0 n0 _ s₁.heap _
  rw [e0]
  exact ⟨rfl, N0, rfl⟩

theorem ef_4_1 (m : MethodId) (a0 : Addr) : entryFrame m #[(.ref a0), (.int (1 : Int32))] 3 = mkF m 0 #[rv a0, iv (1 : Int32), un] [] := by first | (simp [entryFrame, mkF, argsToLocals, Value.category]; done) | rfl
def Q4_1 (Z : State) (a0 : Addr) (kw : ClassId) (x0 : Int32) (x1 : Int32) (x2 : Int32) (x3 : Int32) (x4 : Int32) (x5 : Int32) (x6 : Int32) (x7 : Int32) (h0 : Heap) (n0 : Nat) (v : Option Value) (h : Heap) (L : List Loc) : Prop := ∃ (b : Addr) (kb : ClassId), v = some (.ref b) ∧ Fr n0 L ∧ Keep h0 h [] ∧ Arv Z h b kb .byte (1 : Int32) [(.int x0)] (.int (0 : Int32)) ∧ Exa Z h b "[B" ∧ h0.size ≤ b
set_option maxRecDepth 65536 in
set_option maxHeartbeats 40000000 in
theorem rm4_1 (l : Launch) (Z : State) (ar : Array Value) (hw : ∀ d ∈ tables_1, d.before ar Z = true) (ws : List Jvm.Cond) (a0 : Addr) (kw : ClassId) (x0 : Int32) (x1 : Int32) (x2 : Int32) (x3 : Int32) (x4 : Int32) (x5 : Int32) (x6 : Int32) (x7 : Int32) (h0 : Heap) (n0 : Nat) (O0 : Old Z n0 h0) (pf0 : Arv Z h0 a0 kw .byte (1024 : Int32) [(.int x0), (.int x1), (.int x2), (.int x3), (.int x4), (.int x5), (.int x6), (.int x7)] (.int (0 : Int32))) :
    MetFree l y4 (head1 (Jvm.Cond.code y4 jdk_65_method_121_code 3 (some (.array .byte)) :: ws) ({ frames := 1, cells := 1, slots := 1, locals := 18 } : Room)) (fun a U => a = #[(.ref a0), (.int (1 : Int32))] ∧ Z.Warmed39 U.vm ∧ U.heap = h0) (fun _ _ _ _ _ => True) (fun _ U o U' => ∃ v L, o = .returned v ∧ Q4_1 Z a0 kw x0 x1 x2 x3 x4 x5 x6 x7 h0 n0 v U'.heap L ∧ FrameEnd U o U' L ({ frames := 1, cells := 1, slots := 1, locals := 18 } : Room).cells ({ frames := 1, cells := 1, slots := 1, locals := 18 } : Room).slots) := by
 refine MetFree.of_bodySF (plainFor_of_name pn_4) hisR ?_
 intro p e s m args below meth c s₁ Bd hml0 hP hK
 obtain ⟨rfl, hZ, hh⟩ := hP
 have hx := Bd.exec
 have hby := Bd.bytes
 have hml : c.maxLocals = 3 := hml0
 have hown : s.vm.findClass "java/util/Arrays" = some m.cls := findClass_of_methodNamed Bd.named
 have hnm := (name_of_methodNamed Bd.named Bd.method).1
 have X0 : Stand p l e ({ frames := 1, cells := 1, slots := 1, locals := 18 } : Room) s m #[(.ref a0), (.int (1 : Int32))] below meth c s₁ [] 0 0 := Stand.of_body Bd
 have e0 : s₁.heap = h0 := by rw [← hh, Bd.state]; rfl
 have N0 := Fr.nil n0
 have Z0 : n0 ≤ h0.size := Nat.le_trans (Nat.le_of_eq O0.1.symm) O0.2.1
 obtain ⟨S0, hS0⟩ : ∃ z, z = s₁.setTop (entryFrame m #[(.ref a0), (.int (1 : Int32))] 3) := ⟨_, rfl⟩
 have pre0 : ∀ tg, AT p e below s₁ m 0 #[rv a0, iv (1 : Int32), un] [] tg → Steps p.tables e below S0 tg := fun tg kg => by rw [hS0]; exact castTop (ef_4_1 m a0) kg
 obtain ⟨cl1, Ar1, q1, S1, N1, H1, G1⟩ := id pf0
 obtain ⟨T2, h2, k2, X2, e2, E2, A2, B2, st2⟩ := newPE X0 hx hZ (ow hw 9 rfl) e0 (g := (mkF m 15 #[rv a0, iv (1 : Int32), un] [(.int (1 : Int32))])) rfl (hb hby d4_15) rfl (by decide) (cap := 1) (by decide) (by decide) (by decide) (by decide) (ad := "[B") (by decide)
 obtain ⟨b2, g2⟩ : ∃ z, z = h0.size := ⟨_, rfl⟩
 rw [← g2] at A2 B2 st2
 have ne2_3 : a0 ≠ b2 := Nat.ne_of_lt (Nat.lt_of_lt_of_le (pf0).lt (Nat.le_of_eq g2.symm))
 have gn2 : n0 ≤ b2 := Nat.le_trans (Nat.le_trans (Nat.le_of_eq O0.1.symm) O0.2.1) (Nat.le_of_eq g2.symm)
 have sz2 : h0.size ≤ b2 := Nat.le_trans (Keep.refl h0 []).1 (Nat.le_of_eq g2.symm)
 have V2_4 := pf0.ext E2
 have K2 := (Keep.refl h0 []).ext E2
 have O2 := O0.ext E2
 have V2_5 : Arv Z h2 b2 k2 .byte (1 : Int32) [(.int (0 : Int32))] (.int (0 : Int32)) := (Arv.new A2 (by decide)).pad (pad_rep [] (.int (0 : Int32)) 1)
 obtain ⟨cl6, Ar6, q6, S6, N6, H6, G6⟩ := id V2_4
 obtain ⟨_, _, ⟨T7, L7, k7, n7⟩, -, X7, ⟨Lc7, hQ7, l7, y7, z7⟩, st7⟩ := Jvm.LawKit.callS X2 hx (y := y5) hown (mvT hZ (ow hw 23 rfl)) (mvT hZ (ow hw 24 rfl)) (mvT hZ (ow hw 25 rfl)) (mvT hZ (ow hw 26 rfl)) (by decide) (backOf (W := 4) (rm5 l Z ar hw [] (1024 : Int32) (1 : Int32) h2 n0 O2) hZ (ow hw 26 rfl) (ow hw 25 rfl) (by decide) (by decide)) (g := (mkF m 25 #[rv a0, iv (1 : Int32), rv b2] [(.int (1 : Int32)), (.int (1024 : Int32)), (.int (0 : Int32)), (.ref b2), (.int (0 : Int32)), (.ref a0)])) rfl (by rw [hml]; rfl) (argsL := [(.int (1024 : Int32)), (.int (1 : Int32))]) (rest := [(.int (0 : Int32)), (.ref b2), (.int (0 : Int32)), (.ref a0)]) (lenOf pd_8 rfl) rfl (by show 2 * 0 + _ ≤ _; exact Nat.le_of_eq rfl) (hb hby d4_25) (fun _ _ => ⟨rfl, e2, (by decide : 1 + 0 ≤ _), (by decide : 1 + 0 ≤ _)⟩)
 dsimp only [Pt.U, Pt.locs, Pt.cells, Pt.slots] at X7 l7 y7 z7 st7 hQ7
 subst l7 y7 z7
 obtain ⟨rfl, N7q, e7⟩ := hQ7
 have N7 := Fr.app N0 N7q
 have r7 : (f5 (1024 : Int32) (1 : Int32)) = (1 : Int32) := by rw [f5, if_pos ((by decide) : (1 : Int32) < (1024 : Int32))] <;> decide
 rw [r7] at st7
 obtain ⟨T8, h8, L8, X8, e8, N8, Kq8, Vq8, st8⟩ := cpA X7 hx hZ hown (ow hw 27 rfl) (ow hw 30 rfl) (ow hw 28 rfl) (ow hw 29 rfl) e7 V2_4 V2_5 (us := [(.int x0)]) (Or.inl ⟨rfl, rfl⟩) (sp := (0 : Int32)) (dp := (0 : Int32)) (nn := (1 : Int32)) (by decide) (by decide) (by decide) (by decide) (by decide) rfl (Nat.le_of_ble_eq_true rfl) N7 gn2 (g := (mkF m 28 #[rv a0, iv (1 : Int32), rv b2] [(.int (1 : Int32)), (.int (0 : Int32)), (.ref b2), (.int (0 : Int32)), (.ref a0)])) rfl (by rw [hml]; rfl) rfl (hb hby d4_28) (by decide) (W := 0) (by show 2 * 0 + _ ≤ _; exact Nat.le_of_eq rfl) (by decide)
 have V8_9 : Arv Z h8 b2 k2 .byte (1 : Int32) [(.int x0)] (.int (0 : Int32)) := Vq8
 have V8_10 := V2_4.keep Kq8 (ninS ne2_3 nin0)
 have E8_11 := B2.keep Kq8
 have K8 := K2.trans Kq8 (allS (Or.inr sz2) all0)
 have O8 := O2.keep Kq8 (allS gn2 all0)
 obtain ⟨fs, hr, hrun, hended, hW, hsame⟩ := X8.leave (v := some (.ref b2)) (fun h => by rw [Bd.returns] at h; cases h)
 subst hS0
 refine ⟨_, _, pre0 _ ?_, hrun, hended, _, _, rfl, ?_, ⟨_, rfl⟩, hW, hsame.mono (by decide) (by decide)⟩
 ·
  refine XS.iloadN X0.here hx rfl (hb hby d4_0) rfl ?_
  show AT p e below s₁ m 1 #[rv a0, iv (1 : Int32), un] [(.int (1 : Int32))] _
  refine XS.aloadN X0.here hx rfl (hb hby d4_1) rfl rfl ?_
  show AT p e below s₁ m 2 #[rv a0, iv (1 : Int32), un] [(.ref a0), (.int (1 : Int32))] _
  refine X0.arraylength hx (by rw [e0]; exact Ar1.1) (State.isArrayOf_alike hZ.alike Ar1.2.1) (g := (mkF m 2 #[rv a0, iv (1 : Int32), un] [(.ref a0), (.int (1 : Int32))])) rfl rfl (hb hby d4_2) _ ?_
  rw [len_of S1 N1]
  show AT p e below s₁ m 3 #[rv a0, iv (1 : Int32), un] [(.int (1024 : Int32)), (.int (1 : Int32))] _
  refine XS.icmpYes X0.here hx rfl (pc0 := 3) (pc' := 14) rfl (hb hby d4_3) rfl (XT.ii_ne_t ((by decide) : ¬ ((1 : Int32) = (1024 : Int32)))) (by decide) (by decide) ?_
  show AT p e below s₁ m 14 #[rv a0, iv (1 : Int32), un] [] _
  refine XS.iloadN X0.here hx rfl (hb hby d4_14) rfl ?_
  show AT p e below s₁ m 15 #[rv a0, iv (1 : Int32), un] [(.int (1 : Int32))] _
  refine st2 _ ?_
  show AT p e below T2 m 17 #[rv a0, iv (1 : Int32), un] [(.ref b2)] _
  refine XS.astoreN X2.here hx rfl (hb hby d4_17) rfl rfl (l' := #[rv a0, iv (1 : Int32), rv b2]) rfl ?_
  show AT p e below T2 m 18 #[rv a0, iv (1 : Int32), rv b2] [] _
  refine XS.aloadN X2.here hx rfl (hb hby d4_18) rfl rfl ?_
  show AT p e below T2 m 19 #[rv a0, iv (1 : Int32), rv b2] [(.ref a0)] _
  refine XS.iconst X2.here hx rfl (hb hby d4_19) ?_
  show AT p e below T2 m 20 #[rv a0, iv (1 : Int32), rv b2] [(.int (0 : Int32)), (.ref a0)] _
  refine XS.aloadN X2.here hx rfl (hb hby d4_20) rfl rfl ?_
  show AT p e below T2 m 21 #[rv a0, iv (1 : Int32), rv b2] [(.ref b2), (.int (0 : Int32)), (.ref a0)] _
  refine XS.iconst X2.here hx rfl (hb hby d4_21) ?_
  show AT p e below T2 m 22 #[rv a0, iv (1 : Int32), rv b2] [(.int (0 : Int32)), (.ref b2), (.int (0 : Int32)), (.ref a0)] _
  refine XS.aloadN X2.here hx rfl (hb hby d4_22) rfl rfl ?_
  show AT p e below T2 m 23 #[rv a0, iv (1 : Int32), rv b2] [(.ref a0), (.int (0 : Int32)), (.ref b2), (.int (0 : Int32)), (.ref a0)] _
  refine X2.arraylength hx (by rw [e2]; exact Ar6.1) (State.isArrayOf_alike hZ.alike Ar6.2.1) (g := (mkF m 23 #[rv a0, iv (1 : Int32), rv b2] [(.ref a0), (.int (0 : Int32)), (.ref b2), (.int (0 : Int32)), (.ref a0)])) rfl rfl (hb hby d4_23) _ ?_
  rw [len_of S6 N6]
  show AT p e below T2 m 24 #[rv a0, iv (1 : Int32), rv b2] [(.int (1024 : Int32)), (.int (0 : Int32)), (.ref b2), (.int (0 : Int32)), (.ref a0)] _
  refine XS.iloadN X2.here hx rfl (hb hby d4_24) rfl ?_
  show AT p e below T2 m 25 #[rv a0, iv (1 : Int32), rv b2] [(.int (1 : Int32)), (.int (1024 : Int32)), (.int (0 : Int32)), (.ref b2), (.int (0 : Int32)), (.ref a0)] _
  refine st7 _ ?_
  show AT p e below T7 m 28 #[rv a0, iv (1 : Int32), rv b2] [(.int (1 : Int32)), (.int (0 : Int32)), (.ref b2), (.int (0 : Int32)), (.ref a0)] _
  refine st8 _ ?_
  show AT p e below T8 m 31 #[rv a0, iv (1 : Int32), rv b2] [] _
  refine XS.aloadN X8.here hx rfl (hb hby d4_31) rfl rfl ?_
  show AT p e below T8 m 32 #[rv a0, iv (1 : Int32), rv b2] [(.ref b2)] _
  exact retOut X8 hx (t := (.array .byte)) (i := .areturn) Bd.returns rfl (Or.inr (Or.inr (Or.inr (Or.inr ⟨rfl, rfl, rfl⟩)))) (hb hby d4_32) hr
 ·
  show Q4_1 Z a0 kw x0 x1 x2 x3 x4 x5 x6 x7 h0 n0 _ T8.heap _
  rw [e8]
  exact ⟨b2, k2, rfl, N8, K8, V8_9, E8_11, sz2⟩

theorem ef_3_1 (m : MethodId) (a0 : Addr) : entryFrame m #[(.ref a0)] 1 = mkF m 0 #[rv a0] [] := by first | (simp [entryFrame, mkF, argsToLocals, Value.category]; done) | rfl
def Q3_1 (Z : State) (a0 : Addr) (w : Addr) (kw : ClassId) (x0 : Int32) (x1 : Int32) (x2 : Int32) (x3 : Int32) (x4 : Int32) (x5 : Int32) (x6 : Int32) (x7 : Int32) (h0 : Heap) (n0 : Nat) (v : Option Value) (h : Heap) (L : List Loc) : Prop := ∃ (b : Addr) (kb : ClassId), v = some (.ref b) ∧ Fr n0 L ∧ Keep h0 h [] ∧ Arv Z h b kb .byte (1 : Int32) [(.int x0)] (.int (0 : Int32)) ∧ Exa Z h b "[B" ∧ h0.size ≤ b
set_option maxRecDepth 65536 in
set_option maxHeartbeats 40000000 in
theorem rm3_1 (l : Launch) (Z : State) (ar : Array Value) (hw : ∀ d ∈ tables_1, d.before ar Z = true) (ws : List Jvm.Cond) (a0 : Addr) (w : Addr) (kw : ClassId) (x0 : Int32) (x1 : Int32) (x2 : Int32) (x3 : Int32) (x4 : Int32) (x5 : Int32) (x6 : Int32) (x7 : Int32) (h0 : Heap) (n0 : Nat) (O0 : Old Z n0 h0) (pf0 : Exa Z h0 a0 "com/example/polity/polity/io/saml/CanonicalXml") (pf1 : Fld Z h0 a0 "com/example/polity/polity/io/saml/CanonicalXml" "bytes" "[B" (.ref w)) (pf2 : Arv Z h0 w kw .byte (1024 : Int32) [(.int x0), (.int x1), (.int x2), (.int x3), (.int x4), (.int x5), (.int x6), (.int x7)] (.int (0 : Int32))) (pf3 : Fld Z h0 a0 "com/example/polity/polity/io/saml/CanonicalXml" "length" "I" (.int (1 : Int32))) :
    MetFree l y3 (head1 (Jvm.Cond.code y3 prog_10_method_7_code 1 (some (.array .byte)) :: ws) ({ frames := 2, cells := 1, slots := 1, locals := 32 } : Room)) (fun a U => a = #[(.ref a0)] ∧ Z.Warmed39 U.vm ∧ U.heap = h0) (fun _ _ _ _ _ => True) (fun _ U o U' => ∃ v L, o = .returned v ∧ Q3_1 Z a0 w kw x0 x1 x2 x3 x4 x5 x6 x7 h0 n0 v U'.heap L ∧ FrameEnd U o U' L ({ frames := 2, cells := 1, slots := 1, locals := 32 } : Room).cells ({ frames := 2, cells := 1, slots := 1, locals := 32 } : Room).slots) := by
 refine MetFree.of_bodySF (plainFor_of_name pn_3) hisR ?_
 intro p e s m args below meth c s₁ Bd hml0 hP hK
 obtain ⟨rfl, hZ, hh⟩ := hP
 have hx := Bd.exec
 have hby := Bd.bytes
 have hml : c.maxLocals = 1 := hml0
 have hown : s.vm.findClass "com/example/polity/polity/io/saml/CanonicalXml" = some m.cls := findClass_of_methodNamed Bd.named
 have hnm := (name_of_methodNamed Bd.named Bd.method).1
 have X0 : Stand p l e ({ frames := 2, cells := 1, slots := 1, locals := 32 } : Room) s m #[(.ref a0)] below meth c s₁ [] 0 0 := Stand.of_body Bd
 have e0 : s₁.heap = h0 := by rw [← hh, Bd.state]; rfl
 have N0 := Fr.nil n0
 have Z0 : n0 ≤ h0.size := Nat.le_trans (Nat.le_of_eq O0.1.symm) O0.2.1
 obtain ⟨S0, hS0⟩ : ∃ z, z = s₁.setTop (entryFrame m #[(.ref a0)] 1) := ⟨_, rfl⟩
 have pre0 : ∀ tg, AT p e below s₁ m 0 #[rv a0] [] tg → Steps p.tables e below S0 tg := fun tg kg => by rw [hS0]; exact castTop (ef_3_1 m a0) kg
 obtain ⟨T1, X1, e1, st1⟩ := getF X0 hx hZ hown (host := "") (Or.inl (ow hw 10 rfl)) Via.refl e0 pf1 (g := (mkF m 1 #[rv a0] [(.ref a0)])) rfl rfl (hb hby d3_1)
 obtain ⟨T2, X2, e2, st2⟩ := getF X1 hx hZ hown (host := "") (Or.inl (ow hw 17 rfl)) Via.refl e1 pf3 (g := (mkF m 5 #[rv a0] [(.ref a0), (.ref w)])) rfl rfl (hb hby d3_5)
 obtain ⟨_, _, ⟨T3, L3, k3, n3⟩, -, X3, ⟨Lc3, hQ3, l3, y3, z3⟩, st3⟩ := Jvm.LawKit.callS X2 hx (y := y4) hown (mvT hZ (ow hw 19 rfl)) (mvT hZ (ow hw 20 rfl)) (mvT hZ (ow hw 21 rfl)) (mvT hZ (ow hw 22 rfl)) (by decide) (backOf (W := 0) (rm4_1 l Z ar hw [] w kw x0 x1 x2 x3 x4 x5 x6 x7 h0 n0 O0 pf2) hZ (ow hw 22 rfl) (ow hw 21 rfl) (by decide) (by decide)) (g := (mkF m 8 #[rv a0] [(.int (1 : Int32)), (.ref w)])) rfl (by rw [hml]; rfl) (argsL := [(.ref w), (.int (1 : Int32))]) (rest := []) (lenOf pd_9 rfl) rfl (by show 2 * 0 + _ ≤ _; exact Nat.le_of_eq rfl) (hb hby d3_8) (fun _ _ => ⟨rfl, e2, (by decide : 0 + 1 ≤ _), (by decide : 0 + 1 ≤ _)⟩)
 dsimp only [Pt.U, Pt.locs, Pt.cells, Pt.slots] at X3 l3 y3 z3 st3 hQ3
 subst l3 y3 z3
 obtain ⟨b_3, kb_3, rfl, N3q, Kq3, u3_0, u3_1, u3_2⟩ := hQ3
 have N3 := Fr.app N0 N3q
 have E3_4 := pf0.keep Kq3
 have F3_5 := pf1.keep Kq3 nin0
 have V3_6 := pf2.keep Kq3 nin0
 have F3_7 := pf3.keep Kq3 nin0
 have K3 := (Keep.refl h0 []).trans Kq3 all0
 have O3 := O0.keep Kq3 all0
 have sz8 : h0.size ≤ b_3 := Nat.le_trans (Keep.refl h0 []).1 u3_2
 have gn8 : n0 ≤ b_3 := Nat.le_trans (Nat.le_trans (Nat.le_of_eq O0.1.symm) O0.2.1) u3_2
 have ne9 : a0 ≠ b_3 := Nat.ne_of_lt (Nat.lt_of_lt_of_le (pf0).lt u3_2)
 have ne10 : w ≠ b_3 := Nat.ne_of_lt (Nat.lt_of_lt_of_le (pf2).lt u3_2)
 obtain ⟨fs, hr, hrun, hended, hW, hsame⟩ := X3.leave (v := some (.ref b_3)) (fun h => by rw [Bd.returns] at h; cases h)
 subst hS0
 refine ⟨_, _, pre0 _ ?_, hrun, hended, _, _, rfl, ?_, ⟨_, rfl⟩, hW, hsame.mono (by decide) (by decide)⟩
 ·
  refine XS.aloadN X0.here hx rfl (hb hby d3_0) rfl rfl ?_
  show AT p e below s₁ m 1 #[rv a0] [(.ref a0)] _
  refine st1 _ ?_
  show AT p e below T1 m 4 #[rv a0] [(.ref w)] _
  refine XS.aloadN X1.here hx rfl (hb hby d3_4) rfl rfl ?_
  show AT p e below T1 m 5 #[rv a0] [(.ref a0), (.ref w)] _
  refine st2 _ ?_
  show AT p e below T2 m 8 #[rv a0] [(.int (1 : Int32)), (.ref w)] _
  refine st3 _ ?_
  show AT p e below T3 m 11 #[rv a0] [(.ref b_3)] _
  exact retOut X3 hx (t := (.array .byte)) (i := .areturn) Bd.returns rfl (Or.inr (Or.inr (Or.inr (Or.inr ⟨rfl, rfl, rfl⟩)))) (hb hby d3_11) hr
 ·
  show Q3_1 Z a0 w kw x0 x1 x2 x3 x4 x5 x6 x7 h0 n0 _ T3.heap _
  exact ⟨b_3, kb_3, rfl, N3, K3, u3_0, u3_1, sz8⟩

theorem ef_14_1 (m : MethodId) (a0 : Addr) : entryFrame m #[(.ref a0), (.int (1 : Int32))] 2 = mkF m 0 #[rv a0, iv (1 : Int32)] [] := by first | (simp [entryFrame, mkF, argsToLocals, Value.category]; done) | rfl
def Q14_1 (Z : State) (a0 : Addr) (w : Addr) (kw : ClassId) (x0 : Int32) (x1 : Int32) (x2 : Int32) (x3 : Int32) (x4 : Int32) (x5 : Int32) (x6 : Int32) (x7 : Int32) (h0 : Heap) (n0 : Nat) (v : Option Value) (h : Heap) (L : List Loc) : Prop := v = none ∧ Fr n0 L ∧ h = h0
set_option maxRecDepth 65536 in
set_option maxHeartbeats 40000000 in
theorem rm14_1 (l : Launch) (Z : State) (ar : Array Value) (hw : ∀ d ∈ tables_1, d.before ar Z = true) (ws : List Jvm.Cond) (a0 : Addr) (w : Addr) (kw : ClassId) (x0 : Int32) (x1 : Int32) (x2 : Int32) (x3 : Int32) (x4 : Int32) (x5 : Int32) (x6 : Int32) (x7 : Int32) (h0 : Heap) (n0 : Nat) (O0 : Old Z n0 h0) (pf0 : Exa Z h0 a0 "com/example/polity/polity/io/saml/CanonicalXml") (pf1 : Fld Z h0 a0 "com/example/polity/polity/io/saml/CanonicalXml" "bytes" "[B" (.ref w)) (pf2 : Arv Z h0 w kw .byte (1024 : Int32) [(.int x0), (.int x1), (.int x2), (.int x3), (.int x4), (.int x5), (.int x6), (.int x7)] (.int (0 : Int32))) (pf3 : Fld Z h0 a0 "com/example/polity/polity/io/saml/CanonicalXml" "length" "I" (.int (1 : Int32))) :
    MetFree l y14 (head1 (Jvm.Cond.code y14 prog_10_method_12_code 2 none :: ws) ({ frames := 0, cells := 0, slots := 0, locals := 0 } : Room)) (fun a U => a = #[(.ref a0), (.int (1 : Int32))] ∧ Z.Warmed39 U.vm ∧ U.heap = h0) (fun _ _ _ _ _ => True) (fun _ U o U' => ∃ v L, o = .returned v ∧ Q14_1 Z a0 w kw x0 x1 x2 x3 x4 x5 x6 x7 h0 n0 v U'.heap L ∧ FrameEnd U o U' L ({ frames := 0, cells := 0, slots := 0, locals := 0 } : Room).cells ({ frames := 0, cells := 0, slots := 0, locals := 0 } : Room).slots) := by
 refine MetFree.of_bodySF (plainFor_of_name pn_3) hisR ?_
 intro p e s m args below meth c s₁ Bd hml0 hP hK
 obtain ⟨rfl, hZ, hh⟩ := hP
 have hx := Bd.exec
 have hby := Bd.bytes
 have hml : c.maxLocals = 2 := hml0
 have hown : s.vm.findClass "com/example/polity/polity/io/saml/CanonicalXml" = some m.cls := findClass_of_methodNamed Bd.named
 have hnm := (name_of_methodNamed Bd.named Bd.method).1
 have X0 : Stand p l e ({ frames := 0, cells := 0, slots := 0, locals := 0 } : Room) s m #[(.ref a0), (.int (1 : Int32))] below meth c s₁ [] 0 0 := Stand.of_body Bd
 have e0 : s₁.heap = h0 := by rw [← hh, Bd.state]; rfl
 have N0 := Fr.nil n0
 have Z0 : n0 ≤ h0.size := Nat.le_trans (Nat.le_of_eq O0.1.symm) O0.2.1
 obtain ⟨S0, hS0⟩ : ∃ z, z = s₁.setTop (entryFrame m #[(.ref a0), (.int (1 : Int32))] 2) := ⟨_, rfl⟩
 have pre0 : ∀ tg, AT p e below s₁ m 0 #[rv a0, iv (1 : Int32)] [] tg → Steps p.tables e below S0 tg := fun tg kg => by rw [hS0]; exact castTop (ef_14_1 m a0) kg
 obtain ⟨T1, X1, e1, st1⟩ := getF X0 hx hZ hown (host := "") (Or.inl (ow hw 10 rfl)) Via.refl e0 pf1 (g := (mkF m 1 #[rv a0, iv (1 : Int32)] [(.ref a0)])) rfl rfl (hb hby d14_1)
 obtain ⟨cl2, Ar2, q2, S2, N2, H2, G2⟩ := id pf2
 obtain ⟨T3, X3, e3, st3⟩ := getF X1 hx hZ hown (host := "") (Or.inl (ow hw 17 rfl)) Via.refl e1 pf3 (g := (mkF m 6 #[rv a0, iv (1 : Int32)] [(.ref a0), (.int (1024 : Int32))])) rfl rfl (hb hby d14_6)
 obtain ⟨fs, hr, hrun, hended, hW, hsame⟩ := X3.leave (v := none) (fun _ => rfl)
 subst hS0
 refine ⟨_, _, pre0 _ ?_, hrun, hended, _, _, rfl, ?_, ⟨_, rfl⟩, hW, hsame.mono (by decide) (by decide)⟩
 ·
  refine XS.aloadN X0.here hx rfl (hb hby d14_0) rfl rfl ?_
  show AT p e below s₁ m 1 #[rv a0, iv (1 : Int32)] [(.ref a0)] _
  refine st1 _ ?_
  show AT p e below T1 m 4 #[rv a0, iv (1 : Int32)] [(.ref w)] _
  refine X1.arraylength hx (by rw [e1]; exact Ar2.1) (State.isArrayOf_alike hZ.alike Ar2.2.1) (g := (mkF m 4 #[rv a0, iv (1 : Int32)] [(.ref w)])) rfl rfl (hb hby d14_4) _ ?_
  rw [len_of S2 N2]
  show AT p e below T1 m 5 #[rv a0, iv (1 : Int32)] [(.int (1024 : Int32))] _
  refine XS.aloadN X1.here hx rfl (hb hby d14_5) rfl rfl ?_
  show AT p e below T1 m 6 #[rv a0, iv (1 : Int32)] [(.ref a0), (.int (1024 : Int32))] _
  refine st3 _ ?_
  show AT p e below T3 m 9 #[rv a0, iv (1 : Int32)] [(.int (1 : Int32)), (.int (1024 : Int32))] _
  refine XS.isub X3.here hx rfl (hb hby d14_9) rfl ?_
  show AT p e below T3 m 10 #[rv a0, iv (1 : Int32)] [(.int (1023 : Int32))] _
  refine XS.iloadN X3.here hx rfl (hb hby d14_10) rfl ?_
  show AT p e below T3 m 11 #[rv a0, iv (1 : Int32)] [(.int (1 : Int32)), (.int (1023 : Int32))] _
  refine XS.icmpYes X3.here hx rfl (pc0 := 11) (pc' := 41) rfl (hb hby d14_11) rfl (XT.ii_ge_t ((by decide) : ¬ ((1023 : Int32) < (1 : Int32)))) (by decide) (by decide) ?_
  show AT p e below T3 m 41 #[rv a0, iv (1 : Int32)] [] _
  exact X3.returnOut hx Bd.returns (hb hby d14_41) hr
 ·
  show Q14_1 Z a0 w kw x0 x1 x2 x3 x4 x5 x6 x7 h0 n0 _ T3.heap _
  rw [e3]
  exact ⟨rfl, N0, rfl⟩

theorem ef_11_1 (m : MethodId) (a0 : Addr) (a1 : Addr) : entryFrame m #[(.ref a0), (.ref a1)] 4 = mkF m 0 #[rv a0, rv a1, un, un] [] := by first | (simp [entryFrame, mkF, argsToLocals, Value.category]; done) | rfl
def Q11_1 (Z : State) (a0 : Addr) (a1 : Addr) (w_CS0 : Int32) (w_SF1 : Value) (w : Addr) (kw : ClassId) (x0 : Int32) (x1 : Int32) (x2 : Int32) (x3 : Int32) (x4 : Int32) (x5 : Int32) (x6 : Int32) (x7 : Int32) (u : Addr) (ku : ClassId) (y0 : Int32) (h0 : Heap) (n0 : Nat) (v : Option Value) (h : Heap) (L : List Loc) : Prop := v = some (.ref a0) ∧ Fr n0 L ∧ Keep h0 h [a0, w] ∧ Exa Z h a0 "com/example/polity/polity/io/saml/CanonicalXml" ∧ Fld Z h a0 "com/example/polity/polity/io/saml/CanonicalXml" "bytes" "[B" (.ref w) ∧ Fld Z h a0 "com/example/polity/polity/io/saml/CanonicalXml" "length" "I" (.int (2 : Int32)) ∧ Arv Z h w kw .byte (1024 : Int32) [(.int x0), (.int (nar .byte ((nar .char (nar .char ((y0 &&& (255 : Int32)).toUInt32.toUInt16.toUInt32.toInt32))).toInt8.toInt32))), (.int x2), (.int x3), (.int x4), (.int x5), (.int x6), (.int x7)] (.int (0 : Int32))
set_option maxRecDepth 65536 in
set_option maxHeartbeats 40000000 in
theorem rm11_1 (l : Launch) (Z : State) (ar : Array Value) (hw : ∀ d ∈ tables_1, d.before ar Z = true) (ws : List Jvm.Cond) (a0 : Addr) (a1 : Addr) (w_CS0 : Int32) (w_SF1 : Value) (w : Addr) (kw : ClassId) (x0 : Int32) (x1 : Int32) (x2 : Int32) (x3 : Int32) (x4 : Int32) (x5 : Int32) (x6 : Int32) (x7 : Int32) (u : Addr) (ku : ClassId) (y0 : Int32) (h0 : Heap) (n0 : Nat) (O0 : Old Z n0 h0) (HW : Wd Z w_CS0 w_SF1) (pf0 : Exa Z h0 a0 "com/example/polity/polity/io/saml/CanonicalXml") (pf1 : Fld Z h0 a0 "com/example/polity/polity/io/saml/CanonicalXml" "bytes" "[B" (.ref w)) (pf2 : Arv Z h0 w kw .byte (1024 : Int32) [(.int x0), (.int x1), (.int x2), (.int x3), (.int x4), (.int x5), (.int x6), (.int x7)] (.int (0 : Int32))) (pf3 : Fld Z h0 a0 "com/example/polity/polity/io/saml/CanonicalXml" "length" "I" (.int (1 : Int32))) (pf4 : n0 ≤ a0) (pf5 : n0 ≤ w) (pf6 : a0 ≠ w) (pf7 : Exa Z h0 a1 "java/lang/String") (pf8 : Fld Z h0 a1 "java/lang/String" "coder" "B" (.int (0 : Int32))) (pf9 : Fld Z h0 a1 "java/lang/String" "value" "[B" (.ref u)) (pf10 : Arv Z h0 u ku .byte (1 : Int32) [(.int y0)] (.int (0 : Int32))) (pf11 : a1 ≠ a0) (pf12 : u ≠ w) (pf13 : u ≠ a0) (pf14 : a1 ≠ w) (l1 : ¬ (127 : Int32) < (nar .char (nar .char ((y0 &&& (255 : Int32)).toUInt32.toUInt16.toUInt32.toInt32)))) :
    MetFree l y11 (head1 (Jvm.Cond.code y11 prog_10_method_2_code 4 (some (.object "com/example/polity/polity/io/saml/CanonicalXml")) :: ws) ({ frames := 4, cells := 0, slots := 0, locals := 53 } : Room)) (fun a U => a = #[(.ref a0), (.ref a1)] ∧ Z.Warmed39 U.vm ∧ U.heap = h0) (fun _ _ _ _ _ => True) (fun _ U o U' => ∃ v L, o = .returned v ∧ Q11_1 Z a0 a1 w_CS0 w_SF1 w kw x0 x1 x2 x3 x4 x5 x6 x7 u ku y0 h0 n0 v U'.heap L ∧ FrameEnd U o U' L ({ frames := 4, cells := 0, slots := 0, locals := 53 } : Room).cells ({ frames := 4, cells := 0, slots := 0, locals := 53 } : Room).slots) := by
 refine MetFree.of_bodySF (plainFor_of_name pn_3) hisR ?_
 intro p e s m args below meth c s₁ Bd hml0 hP hK
 obtain ⟨rfl, hZ, hh⟩ := hP
 have hx := Bd.exec
 have hby := Bd.bytes
 have hml : c.maxLocals = 4 := hml0
 have hown : s.vm.findClass "com/example/polity/polity/io/saml/CanonicalXml" = some m.cls := findClass_of_methodNamed Bd.named
 have hnm := (name_of_methodNamed Bd.named Bd.method).1
 have X0 : Stand p l e ({ frames := 4, cells := 0, slots := 0, locals := 53 } : Room) s m #[(.ref a0), (.ref a1)] below meth c s₁ [] 0 0 := Stand.of_body Bd
 have e0 : s₁.heap = h0 := by rw [← hh, Bd.state]; rfl
 have N0 := Fr.nil n0
 have Z0 : n0 ≤ h0.size := Nat.le_trans (Nat.le_of_eq O0.1.symm) O0.2.1
 obtain ⟨S0, hS0⟩ : ∃ z, z = s₁.setTop (entryFrame m #[(.ref a0), (.ref a1)] 4) := ⟨_, rfl⟩
 have pre0 : ∀ tg, AT p e below s₁ m 0 #[rv a0, rv a1, un, un] [] tg → Steps p.tables e below S0 tg := fun tg kg => by rw [hS0]; exact castTop (ef_11_1 m a0 a1) kg
 obtain ⟨S_COMPACT_STRINGS, hz_w_CS0, S_SIOOBE_FORMATTER, ir_w_SF1⟩ := id HW
 obtain ⟨cq1, kq1, q1a, q1b, q1c⟩ := isOf hZ e0 pf7
 obtain ⟨_, _, ⟨T1, L1, k1, n1⟩, -, X1, ⟨Lc1, hQ1, l1, y1, z1⟩, st1⟩ := X0.virtualBack hx (y := y12) (z := y12) hown (mvT hZ (ow hw 63 rfl)) (mvT hZ (ow hw 64 rfl)) (notFace_of_selects (args := #[]) (mvT hZ (ow hw 66 rfl))) (mvT hZ (ow hw 66 rfl)) (mvT hZ (ow hw 65 rfl)) (by decide) (backOf (W := 1) (rm12 l Z ar hw [] a1 w_CS0 w_SF1 u ku y0 h0 n0 O0 HW pf7 pf8 pf9 pf10) hZ (ow hw 67 rfl) (ow hw 37 rfl) (by decide) (by decide)) q1a q1c (g := (mkF m 2 #[rv a0, rv a1, un, un] [(.ref a1), (.ref a0)])) rfl (by rw [hml]; rfl) (Steps.refl _) (argsL := []) (rest := [(.ref a0)]) (lenOf pd_10 rfl) rfl (by show 2 * 0 + _ ≤ _; exact Nat.le_of_eq rfl) (hb hby d11_2) (fun _ _ => ⟨rfl, e0, (by decide : 0 + 0 ≤ _), (by decide : 0 + 0 ≤ _)⟩)
 dsimp only [Pt.U, Pt.locs, Pt.cells, Pt.slots] at X1 l1 y1 z1 st1 hQ1
 subst l1 y1 z1
 obtain ⟨rfl, N1q, e1⟩ := hQ1
 have N1 := Fr.app N0 N1q
 obtain ⟨cq2, q2, q2'⟩ := pf0.cell
 obtain ⟨_, _, ⟨T2, L2, k2, n2⟩, -, X2, ⟨Lc2, hQ2, l2, y2, z2⟩, st2⟩ := X1.privateBack hx (y := y14) hown (mvT hZ (ow hw 73 rfl)) (mvT hZ (ow hw 74 rfl)) (own_selP hZ (ow hw 1 rfl) (ow hw 75 rfl) (ow hw 74 rfl) (by decide)) (Cond.privateMethod_at (mvP hZ (ow hw 75 rfl) (args := #[]))) (mvT hZ (ow hw 76 rfl)) (by decide) (backOf (W := 0) (rm14_1 l Z ar hw [] a0 w kw x0 x1 x2 x3 x4 x5 x6 x7 h0 n0 O0 pf0 pf1 pf2 pf3) hZ (ow hw 76 rfl) (ow hw 2 rfl) (by decide) (by decide)) (g := (mkF m 5 #[rv a0, rv a1, un, un] [(.int (1 : Int32)), (.ref a0)])) rfl (by rw [hml]; rfl) (Steps.refl _) (a := a0) (by rw [e1]; exact q2) q2' (argsL := [(.int (1 : Int32))]) (rest := []) (lenOf pd_11 rfl) rfl (by show 2 * 0 + _ ≤ _; exact Nat.le_of_eq rfl) (hb hby d11_5) (fun _ _ => ⟨rfl, e1, (by decide : 0 + 0 ≤ _), (by decide : 0 + 0 ≤ _)⟩)
 dsimp only [Pt.U, Pt.locs, Pt.cells, Pt.slots] at X2 l2 y2 z2 st2 hQ2
 subst l2 y2 z2
 obtain ⟨rfl, N2q, e2⟩ := hQ2
 have N2 := Fr.app N1 N2q
 obtain ⟨cq3, kq3, q3a, q3b, q3c⟩ := isOf hZ e2 pf7
 obtain ⟨_, _, ⟨T3, L3, k3, n3⟩, -, X3, ⟨Lc3, hQ3, l3, y3, z3⟩, st3⟩ := X2.virtualBack hx (y := y12) (z := y12) hown (mvT hZ (ow hw 63 rfl)) (mvT hZ (ow hw 64 rfl)) (notFace_of_selects (args := #[]) (mvT hZ (ow hw 66 rfl))) (mvT hZ (ow hw 66 rfl)) (mvT hZ (ow hw 65 rfl)) (by decide) (backOf (W := 1) (rm12 l Z ar hw [] a1 w_CS0 w_SF1 u ku y0 h0 n0 O0 HW pf7 pf8 pf9 pf10) hZ (ow hw 67 rfl) (ow hw 37 rfl) (by decide) (by decide)) q3a q3c (g := (mkF m 12 #[rv a0, rv a1, iv (0 : Int32), un] [(.ref a1), (.int (0 : Int32))])) rfl (by rw [hml]; rfl) (Steps.refl _) (argsL := []) (rest := [(.int (0 : Int32))]) (lenOf pd_10 rfl) rfl (by show 2 * 0 + _ ≤ _; exact Nat.le_of_eq rfl) (hb hby d11_12) (fun _ _ => ⟨rfl, e2, (by decide : 0 + 0 ≤ _), (by decide : 0 + 0 ≤ _)⟩)
 dsimp only [Pt.U, Pt.locs, Pt.cells, Pt.slots] at X3 l3 y3 z3 st3 hQ3
 subst l3 y3 z3
 obtain ⟨rfl, N3q, e3⟩ := hQ3
 have N3 := Fr.app N2 N3q
 obtain ⟨cq4, kq4, q4a, q4b, q4c⟩ := isOf hZ e3 pf7
 obtain ⟨_, _, ⟨T4, L4, k4, n4⟩, -, X4, ⟨Lc4, hQ4, l4, y4, z4⟩, st4⟩ := X3.virtualBack hx (y := y15) (z := y15) hown (mvT hZ (ow hw 77 rfl)) (mvT hZ (ow hw 78 rfl)) (notFace_of_selects (args := #[]) (mvT hZ (ow hw 80 rfl))) (mvT hZ (ow hw 80 rfl)) (mvT hZ (ow hw 79 rfl)) (by decide) (backOf (W := 0) (rm15 l Z ar hw [] a1 w_CS0 w_SF1 u ku y0 h0 n0 O0 HW pf7 pf8 pf9 pf10) hZ (ow hw 81 rfl) (ow hw 37 rfl) (by decide) (by decide)) q4a q4c (g := (mkF m 20 #[rv a0, rv a1, iv (0 : Int32), un] [(.int (0 : Int32)), (.ref a1)])) rfl (by rw [hml]; rfl) (Steps.refl _) (argsL := [(.int (0 : Int32))]) (rest := []) (lenOf pd_12 rfl) rfl (by show 2 * 0 + _ ≤ _; exact Nat.le_of_eq rfl) (hb hby d11_20) (fun _ _ => ⟨rfl, e3, (by decide : 0 + 0 ≤ _), (by decide : 0 + 0 ≤ _)⟩)
 dsimp only [Pt.U, Pt.locs, Pt.cells, Pt.slots] at X4 l4 y4 z4 st4 hQ4
 subst l4 y4 z4
 obtain ⟨rfl, N4q, e4⟩ := hQ4
 have N4 := Fr.app N3 N4q
 obtain ⟨T5, X5, e5, st5⟩ := getF X4 hx hZ hown (host := "") (Or.inl (ow hw 10 rfl)) Via.refl e4 pf1 (g := (mkF m 45 #[rv a0, rv a1, iv (0 : Int32), iv (nar .char (nar .char ((y0 &&& (255 : Int32)).toUInt32.toUInt16.toUInt32.toInt32)))] [(.ref a0)])) rfl rfl (hb hby d11_45)
 obtain ⟨T6, X6, e6, st6⟩ := getF X5 hx hZ hown (host := "") (Or.inl (ow hw 17 rfl)) Via.refl e5 pf3 (g := (mkF m 50 #[rv a0, rv a1, iv (0 : Int32), iv (nar .char (nar .char ((y0 &&& (255 : Int32)).toUInt32.toUInt16.toUInt32.toInt32)))] [(.ref a0), (.ref a0), (.ref w)])) rfl rfl (hb hby d11_50)
 obtain ⟨T7, h7, X7, e7, W7, st7⟩ := putF X6 hx hZ hown (host := "") (Or.inl (ow hw 17 rfl)) Via.refl e6 pf3 pf0 (Or.inl (ow hw 18 rfl)) (ow hw 1 rfl) (ty := .int) (by decide) rfl rfl (g := (mkF m 56 #[rv a0, rv a1, iv (0 : Int32), iv (nar .char (nar .char ((y0 &&& (255 : Int32)).toUInt32.toUInt16.toUInt32.toInt32)))] [(.int (2 : Int32)), (.ref a0), (.int (1 : Int32)), (.ref w)])) rfl rfl (hb hby d11_56)
 have E7_8 := pf0.wr W7
 have F7_9 := pf1.other W7 (Or.inr (slot_ne (Or.inl (ow hw 11 rfl)) (Or.inl (ow hw 18 rfl)) (by decide) (t := (.array .byte)) (t' := .int) (by decide) (by decide)))
 have V7_10 := pf2.other W7 (Ne.symm pf6)
 have F7_11 : Fld Z h7 a0 "com/example/polity/polity/io/saml/CanonicalXml" "length" "I" (.int (2 : Int32)) := pf3.same W7
 have E7_12 := pf7.wr W7
 have F7_13 := pf8.other W7 (Or.inl pf11)
 have F7_14 := pf9.other W7 (Or.inl pf11)
 have V7_15 := pf10.other W7 pf13
 have K7 := (Keep.refl h0 [a0, w]).wr W7 (Or.inl (List.mem_of_getElem? (i := 0) rfl))
 have O7 := O0.wr W7 pf4
 have N7 := Fr.snoc X7 N4 pf4
 obtain ⟨cl16, Ar16, q16, S16, M16, H16, G16⟩ := id V7_10
 have hin16 := own_in (1 : Int32) S16 ⟨by decide, by decide⟩
 obtain ⟨T16, h16, X16, e16, W16, st16⟩ := stB X7 hx hZ e7 Ar16 (j := (1 : Int32)) hin16 (g := (mkF m 61 #[rv a0, rv a1, iv (0 : Int32), iv (nar .char (nar .char ((y0 &&& (255 : Int32)).toUInt32.toUInt16.toUInt32.toInt32)))] [(.int ((nar .char (nar .char ((y0 &&& (255 : Int32)).toUInt32.toUInt16.toUInt32.toInt32))).toInt8.toInt32)), (.int (1 : Int32)), (.ref w)])) rfl rfl (hb hby d11_61)
 have V16_17 : Arv Z h16 w kw .byte (1024 : Int32) [(.int x0), (.int (nar .byte ((nar .char (nar .char ((y0 &&& (255 : Int32)).toUInt32.toUInt16.toUInt32.toInt32))).toInt8.toInt32))), (.int x2), (.int x3), (.int x4), (.int x5), (.int x6), (.int x7)] (.int (0 : Int32)) := Arv.set Ar16 q16 S16 M16 H16 G16 (fits_nar_byte _) W16 1 rfl (Nat.le_of_ble_eq_true rfl)
 have E16_18 := E7_8.wr W16
 have F16_19 := F7_9.other W16 (Or.inl pf6)
 have F16_20 := F7_11.other W16 (Or.inl pf6)
 have E16_21 := E7_12.wr W16
 have F16_22 := F7_13.other W16 (Or.inl pf14)
 have F16_23 := F7_14.other W16 (Or.inl pf14)
 have V16_24 := V7_15.other W16 pf12
 have K16 := K7.wr W16 (Or.inl (List.mem_of_getElem? (i := 1) rfl))
 have O16 := O7.wr W16 pf5
 have N16 := Fr.snoc X16 N7 pf5
 obtain ⟨cq25, kq25, q25a, q25b, q25c⟩ := isOf hZ e16 E16_21
 obtain ⟨_, _, ⟨T25, L25, k25, n25⟩, -, X25, ⟨Lc25, hQ25, l25, y25, z25⟩, st25⟩ := X16.virtualBack hx (y := y12) (z := y12) hown (mvT hZ (ow hw 63 rfl)) (mvT hZ (ow hw 64 rfl)) (notFace_of_selects (args := #[]) (mvT hZ (ow hw 66 rfl))) (mvT hZ (ow hw 66 rfl)) (mvT hZ (ow hw 65 rfl)) (by decide) (backOf (W := 1) (rm12 l Z ar hw [] a1 w_CS0 w_SF1 u ku y0 h16 n0 O16 HW E16_21 F16_22 F16_23 V16_24) hZ (ow hw 67 rfl) (ow hw 37 rfl) (by decide) (by decide)) q25a q25c (g := (mkF m 12 #[rv a0, rv a1, iv (1 : Int32), iv (nar .char (nar .char ((y0 &&& (255 : Int32)).toUInt32.toUInt16.toUInt32.toInt32)))] [(.ref a1), (.int (1 : Int32))])) rfl (by rw [hml]; rfl) (Steps.refl _) (argsL := []) (rest := [(.int (1 : Int32))]) (lenOf pd_10 rfl) rfl (by show 2 * 0 + _ ≤ _; exact Nat.le_of_eq rfl) (hb hby d11_12) (fun _ _ => ⟨rfl, e16, (by decide : 0 + 0 ≤ _), (by decide : 0 + 0 ≤ _)⟩)
 dsimp only [Pt.U, Pt.locs, Pt.cells, Pt.slots] at X25 l25 y25 z25 st25 hQ25
 subst l25 y25 z25
 obtain ⟨rfl, N25q, e25⟩ := hQ25
 have N25 := Fr.app N16 N25q
 obtain ⟨fs, hr, hrun, hended, hW, hsame⟩ := X25.leave (v := some (.ref a0)) (fun h => by rw [Bd.returns] at h; cases h)
 subst hS0
 refine ⟨_, _, pre0 _ ?_, hrun, hended, _, _, rfl, ?_, ⟨_, rfl⟩, hW, hsame.mono (by decide) (by decide)⟩
 ·
  refine XS.aloadN X0.here hx rfl (hb hby d11_0) rfl rfl ?_
  show AT p e below s₁ m 1 #[rv a0, rv a1, un, un] [(.ref a0)] _
  refine XS.aloadN X0.here hx rfl (hb hby d11_1) rfl rfl ?_
  show AT p e below s₁ m 2 #[rv a0, rv a1, un, un] [(.ref a1), (.ref a0)] _
  refine st1.trans ?_
  show AT p e below T1 m 5 #[rv a0, rv a1, un, un] [(.int (1 : Int32)), (.ref a0)] _
  refine st2.trans ?_
  show AT p e below T2 m 8 #[rv a0, rv a1, un, un] [] _
  refine XS.iconst X2.here hx rfl (hb hby d11_8) ?_
  show AT p e below T2 m 9 #[rv a0, rv a1, un, un] [(.int (0 : Int32))] _
  refine XS.istoreN X2.here hx rfl (hb hby d11_9) rfl (l' := #[rv a0, rv a1, iv (0 : Int32), un]) rfl ?_
  show AT p e below T2 m 10 #[rv a0, rv a1, iv (0 : Int32), un] [] _
  refine XS.iloadN X2.here hx rfl (hb hby d11_10) rfl ?_
  show AT p e below T2 m 11 #[rv a0, rv a1, iv (0 : Int32), un] [(.int (0 : Int32))] _
  refine XS.aloadN X2.here hx rfl (hb hby d11_11) rfl rfl ?_
  show AT p e below T2 m 12 #[rv a0, rv a1, iv (0 : Int32), un] [(.ref a1), (.int (0 : Int32))] _
  refine st3.trans ?_
  show AT p e below T3 m 15 #[rv a0, rv a1, iv (0 : Int32), un] [(.int (1 : Int32)), (.int (0 : Int32))] _
  refine XS.icmpNo X3.here hx rfl (hb hby d11_15) rfl (XT.ii_ge_f ((by decide) : (0 : Int32) < (1 : Int32))) ?_
  show AT p e below T3 m 18 #[rv a0, rv a1, iv (0 : Int32), un] [] _
  refine XS.aloadN X3.here hx rfl (hb hby d11_18) rfl rfl ?_
  show AT p e below T3 m 19 #[rv a0, rv a1, iv (0 : Int32), un] [(.ref a1)] _
  refine XS.iloadN X3.here hx rfl (hb hby d11_19) rfl ?_
  show AT p e below T3 m 20 #[rv a0, rv a1, iv (0 : Int32), un] [(.int (0 : Int32)), (.ref a1)] _
  refine st4.trans ?_
  show AT p e below T4 m 23 #[rv a0, rv a1, iv (0 : Int32), un] [(.int (nar .char (nar .char ((y0 &&& (255 : Int32)).toUInt32.toUInt16.toUInt32.toInt32))))] _
  refine XS.istoreN X4.here hx rfl (hb hby d11_23) rfl (l' := #[rv a0, rv a1, iv (0 : Int32), iv (nar .char (nar .char ((y0 &&& (255 : Int32)).toUInt32.toUInt16.toUInt32.toInt32)))]) rfl ?_
  show AT p e below T4 m 24 #[rv a0, rv a1, iv (0 : Int32), iv (nar .char (nar .char ((y0 &&& (255 : Int32)).toUInt32.toUInt16.toUInt32.toInt32)))] [] _
  refine XS.iloadN X4.here hx rfl (hb hby d11_24) rfl ?_
  show AT p e below T4 m 25 #[rv a0, rv a1, iv (0 : Int32), iv (nar .char (nar .char ((y0 &&& (255 : Int32)).toUInt32.toUInt16.toUInt32.toInt32)))] [(.int (nar .char (nar .char ((y0 &&& (255 : Int32)).toUInt32.toUInt16.toUInt32.toInt32))))] _
  refine XS.bipush X4.here hx rfl (hb hby d11_25) ?_
  show AT p e below T4 m 27 #[rv a0, rv a1, iv (0 : Int32), iv (nar .char (nar .char ((y0 &&& (255 : Int32)).toUInt32.toUInt16.toUInt32.toInt32)))] [(.int (127 : Int32)), (.int (nar .char (nar .char ((y0 &&& (255 : Int32)).toUInt32.toUInt16.toUInt32.toInt32))))] _
  refine XS.icmpYes X4.here hx rfl (pc0 := 27) (pc' := 44) rfl (hb hby d11_27) rfl (XT.ii_le_t (l1 : ¬ ((127 : Int32) < (nar .char (nar .char ((y0 &&& (255 : Int32)).toUInt32.toUInt16.toUInt32.toInt32)))))) (by decide) (by decide) ?_
  show AT p e below T4 m 44 #[rv a0, rv a1, iv (0 : Int32), iv (nar .char (nar .char ((y0 &&& (255 : Int32)).toUInt32.toUInt16.toUInt32.toInt32)))] [] _
  refine XS.aloadN X4.here hx rfl (hb hby d11_44) rfl rfl ?_
  show AT p e below T4 m 45 #[rv a0, rv a1, iv (0 : Int32), iv (nar .char (nar .char ((y0 &&& (255 : Int32)).toUInt32.toUInt16.toUInt32.toInt32)))] [(.ref a0)] _
  refine st5 _ ?_
  show AT p e below T5 m 48 #[rv a0, rv a1, iv (0 : Int32), iv (nar .char (nar .char ((y0 &&& (255 : Int32)).toUInt32.toUInt16.toUInt32.toInt32)))] [(.ref w)] _
  refine XS.aloadN X5.here hx rfl (hb hby d11_48) rfl rfl ?_
  show AT p e below T5 m 49 #[rv a0, rv a1, iv (0 : Int32), iv (nar .char (nar .char ((y0 &&& (255 : Int32)).toUInt32.toUInt16.toUInt32.toInt32)))] [(.ref a0), (.ref w)] _
  refine XS.dup X5.here hx rfl (hb hby d11_49) rfl rfl ?_
  show AT p e below T5 m 50 #[rv a0, rv a1, iv (0 : Int32), iv (nar .char (nar .char ((y0 &&& (255 : Int32)).toUInt32.toUInt16.toUInt32.toInt32)))] [(.ref a0), (.ref a0), (.ref w)] _
  refine st6 _ ?_
  show AT p e below T6 m 53 #[rv a0, rv a1, iv (0 : Int32), iv (nar .char (nar .char ((y0 &&& (255 : Int32)).toUInt32.toUInt16.toUInt32.toInt32)))] [(.int (1 : Int32)), (.ref a0), (.ref w)] _
  refine XS.dupX1 X6.here hx rfl (hb hby d11_53) rfl rfl rfl ?_
  show AT p e below T6 m 54 #[rv a0, rv a1, iv (0 : Int32), iv (nar .char (nar .char ((y0 &&& (255 : Int32)).toUInt32.toUInt16.toUInt32.toInt32)))] [(.int (1 : Int32)), (.ref a0), (.int (1 : Int32)), (.ref w)] _
  refine XS.iconst X6.here hx rfl (hb hby d11_54) ?_
  show AT p e below T6 m 55 #[rv a0, rv a1, iv (0 : Int32), iv (nar .char (nar .char ((y0 &&& (255 : Int32)).toUInt32.toUInt16.toUInt32.toInt32)))] [(.int (1 : Int32)), (.int (1 : Int32)), (.ref a0), (.int (1 : Int32)), (.ref w)] _
  refine XS.iadd X6.here hx rfl (hb hby d11_55) rfl ?_
  show AT p e below T6 m 56 #[rv a0, rv a1, iv (0 : Int32), iv (nar .char (nar .char ((y0 &&& (255 : Int32)).toUInt32.toUInt16.toUInt32.toInt32)))] [(.int (2 : Int32)), (.ref a0), (.int (1 : Int32)), (.ref w)] _
  refine st7 _ ?_
  show AT p e below T7 m 59 #[rv a0, rv a1, iv (0 : Int32), iv (nar .char (nar .char ((y0 &&& (255 : Int32)).toUInt32.toUInt16.toUInt32.toInt32)))] [(.int (1 : Int32)), (.ref w)] _
  refine XS.iloadN X7.here hx rfl (hb hby d11_59) rfl ?_
  show AT p e below T7 m 60 #[rv a0, rv a1, iv (0 : Int32), iv (nar .char (nar .char ((y0 &&& (255 : Int32)).toUInt32.toUInt16.toUInt32.toInt32)))] [(.int (nar .char (nar .char ((y0 &&& (255 : Int32)).toUInt32.toUInt16.toUInt32.toInt32)))), (.int (1 : Int32)), (.ref w)] _
  refine XS.i2b X7.here hx rfl (hb hby d11_60) rfl ?_
  show AT p e below T7 m 61 #[rv a0, rv a1, iv (0 : Int32), iv (nar .char (nar .char ((y0 &&& (255 : Int32)).toUInt32.toUInt16.toUInt32.toInt32)))] [(.int ((nar .char (nar .char ((y0 &&& (255 : Int32)).toUInt32.toUInt16.toUInt32.toInt32))).toInt8.toInt32)), (.int (1 : Int32)), (.ref w)] _
  refine st16 _ ?_
  show AT p e below T16 m 62 #[rv a0, rv a1, iv (0 : Int32), iv (nar .char (nar .char ((y0 &&& (255 : Int32)).toUInt32.toUInt16.toUInt32.toInt32)))] [] _
  refine XS.iinc X16.here hx rfl (hb hby d11_62) rfl (l' := #[rv a0, rv a1, iv (1 : Int32), iv (nar .char (nar .char ((y0 &&& (255 : Int32)).toUInt32.toUInt16.toUInt32.toInt32)))]) rfl ?_
  show AT p e below T16 m 65 #[rv a0, rv a1, iv (1 : Int32), iv (nar .char (nar .char ((y0 &&& (255 : Int32)).toUInt32.toUInt16.toUInt32.toInt32)))] [] _
  refine XS.goto X16.here hx rfl (pc0 := 65) (pc' := 10) rfl (hb hby d11_65) (by decide) (by decide) ?_
  show AT p e below T16 m 10 #[rv a0, rv a1, iv (1 : Int32), iv (nar .char (nar .char ((y0 &&& (255 : Int32)).toUInt32.toUInt16.toUInt32.toInt32)))] [] _
  refine XS.iloadN X16.here hx rfl (hb hby d11_10) rfl ?_
  show AT p e below T16 m 11 #[rv a0, rv a1, iv (1 : Int32), iv (nar .char (nar .char ((y0 &&& (255 : Int32)).toUInt32.toUInt16.toUInt32.toInt32)))] [(.int (1 : Int32))] _
  refine XS.aloadN X16.here hx rfl (hb hby d11_11) rfl rfl ?_
  show AT p e below T16 m 12 #[rv a0, rv a1, iv (1 : Int32), iv (nar .char (nar .char ((y0 &&& (255 : Int32)).toUInt32.toUInt16.toUInt32.toInt32)))] [(.ref a1), (.int (1 : Int32))] _
  refine st25.trans ?_
  show AT p e below T25 m 15 #[rv a0, rv a1, iv (1 : Int32), iv (nar .char (nar .char ((y0 &&& (255 : Int32)).toUInt32.toUInt16.toUInt32.toInt32)))] [(.int (1 : Int32)), (.int (1 : Int32))] _
  refine XS.icmpYes X25.here hx rfl (pc0 := 15) (pc' := 68) rfl (hb hby d11_15) rfl (XT.ii_ge_t ((by decide) : ¬ ((1 : Int32) < (1 : Int32)))) (by decide) (by decide) ?_
  show AT p e below T25 m 68 #[rv a0, rv a1, iv (1 : Int32), iv (nar .char (nar .char ((y0 &&& (255 : Int32)).toUInt32.toUInt16.toUInt32.toInt32)))] [] _
  refine XS.aloadN X25.here hx rfl (hb hby d11_68) rfl rfl ?_
  show AT p e below T25 m 69 #[rv a0, rv a1, iv (1 : Int32), iv (nar .char (nar .char ((y0 &&& (255 : Int32)).toUInt32.toUInt16.toUInt32.toInt32)))] [(.ref a0)] _
  exact retOut X25 hx (t := (.object "com/example/polity/polity/io/saml/CanonicalXml")) (i := .areturn) Bd.returns rfl (Or.inr (Or.inr (Or.inr (Or.inr ⟨rfl, rfl, rfl⟩)))) (hb hby d11_69) hr
 ·
  show Q11_1 Z a0 a1 w_CS0 w_SF1 w kw x0 x1 x2 x3 x4 x5 x6 x7 u ku y0 h0 n0 _ T25.heap _
  rw [e25]
  exact ⟨rfl, N25, K16, E16_18, F16_19, F16_20, V16_17⟩

theorem d6_13 : decode method_3_code 13 = .ok (.aload_n 0, 1) := by decide +kernel
theorem d6_14 : decode method_3_code 14 = .ok (.iconst 0, 1) := by decide +kernel
theorem d6_15 : decode method_3_code 15 = .ok (.baload, 1) := by decide +kernel
theorem d6_16 : decode method_3_code 16 = .ok (.iload_n 2, 1) := by decide +kernel
theorem d6_17 : decode method_3_code 17 = .ok (.i2b, 1) := by decide +kernel
theorem d6_18 : decode method_3_code 18 = .ok (.if_icmp .eq 5, 3) := by decide +kernel
theorem d6_21 : decode method_3_code 21 = .ok (.iconst 0, 1) := by decide +kernel
theorem d6_22 : decode method_3_code 22 = .ok (.ireturn, 1) := by decide +kernel
theorem ef_6_1 (m : MethodId) (a0 : Addr) (p2 : Int32) (p3 : Int32) (p4 : Int32) : entryFrame m #[(.ref a0), (.int (1 : Int32)), (.int p2), (.int p3), (.int p4)] 5 = mkF m 0 #[rv a0, iv (1 : Int32), iv p2, iv p3, iv p4] [] := by first | (simp [entryFrame, mkF, argsToLocals, Value.category]; done) | rfl
def f6_1 (p2 : Int32) (x0 : Int32) : Int32 := if x0 = (p2.toInt8.toInt32) then (1 : Int32) else (0 : Int32)
def Q6_1 (Z : State) (a0 : Addr) (p2 : Int32) (p3 : Int32) (p4 : Int32) (kb : ClassId) (x0 : Int32) (h0 : Heap) (n0 : Nat) (v : Option Value) (h : Heap) (L : List Loc) : Prop := v = some (.int (f6_1 p2 x0)) ∧ Fr n0 L ∧ h = h0
set_option maxRecDepth 65536 in
set_option maxHeartbeats 40000000 in
theorem rm6_1 (l : Launch) (Z : State) (ar : Array Value) (hw : ∀ d ∈ tables_1, d.before ar Z = true) (ws : List Jvm.Cond) (a0 : Addr) (p2 : Int32) (p3 : Int32) (p4 : Int32) (kb : ClassId) (x0 : Int32) (h0 : Heap) (n0 : Nat) (O0 : Old Z n0 h0) (pf0 : Arv Z h0 a0 kb .byte (1 : Int32) [(.int x0)] (.int (0 : Int32))) :
    MetFree l y6 (head1 (Jvm.Cond.code y6 method_3_code 5 (some .boolean) :: ws) ({ frames := 0, cells := 0, slots := 0, locals := 0 } : Room)) (fun a U => a = #[(.ref a0), (.int (1 : Int32)), (.int p2), (.int p3), (.int p4)] ∧ Z.Warmed39 U.vm ∧ U.heap = h0) (fun _ _ _ _ _ => True) (fun _ U o U' => ∃ v L, o = .returned v ∧ Q6_1 Z a0 p2 p3 p4 kb x0 h0 n0 v U'.heap L ∧ FrameEnd U o U' L ({ frames := 0, cells := 0, slots := 0, locals := 0 } : Room).cells ({ frames := 0, cells := 0, slots := 0, locals := 0 } : Room).slots) := by
 refine MetFree.of_bodySF (plainFor_of_name pn_5) hisR ?_
 intro p e s m args below meth c s₁ Bd hml0 hP hK
 obtain ⟨rfl, hZ, hh⟩ := hP
 have hx := Bd.exec
 have hby := Bd.bytes
 have hml : c.maxLocals = 5 := hml0
 have hown : s.vm.findClass "com/example/polity/polity/io/saml/CanonicalXmlToByteArrayPinLaw" = some m.cls := findClass_of_methodNamed Bd.named
 have hnm := (name_of_methodNamed Bd.named Bd.method).1
 have X0 : Stand p l e ({ frames := 0, cells := 0, slots := 0, locals := 0 } : Room) s m #[(.ref a0), (.int (1 : Int32)), (.int p2), (.int p3), (.int p4)] below meth c s₁ [] 0 0 := Stand.of_body Bd
 have e0 : s₁.heap = h0 := by rw [← hh, Bd.state]; rfl
 have N0 := Fr.nil n0
 have Z0 : n0 ≤ h0.size := Nat.le_trans (Nat.le_of_eq O0.1.symm) O0.2.1
 obtain ⟨S0, hS0⟩ : ∃ z, z = s₁.setTop (entryFrame m #[(.ref a0), (.int (1 : Int32)), (.int p2), (.int p3), (.int p4)] 5) := ⟨_, rfl⟩
 have pre0 : ∀ tg, AT p e below s₁ m 0 #[rv a0, iv (1 : Int32), iv p2, iv p3, iv p4] [] tg → Steps p.tables e below S0 tg := fun tg kg => by rw [hS0]; exact castTop (ef_6_1 m a0 p2 p3 p4) kg
 obtain ⟨cl1, Ar1, q1, S1, N1, H1, G1⟩ := id pf0
 obtain ⟨cl2, Ar2, q2, S2, N2, H2, G2⟩ := id pf0
 have hin2 := own_in (0 : Int32) S2 ⟨by decide, by decide⟩
 have hat2 : cl2.slots[((0 : Int32)).toNatClampNeg]? = some (.int x0) := Has.at H2 hin2 rfl
 have pre3 : ∀ tg, AT p e below s₁ m 18 #[rv a0, iv (1 : Int32), iv p2, iv p3, iv p4] [(.int (p2.toInt8.toInt32)), (.int x0)] tg → Steps p.tables e below S0 tg := fun tg kg => pre0 tg (by
  refine XS.aloadN X0.here hx rfl (hb hby d6_0) rfl rfl ?_
  show AT p e below s₁ m 1 #[rv a0, iv (1 : Int32), iv p2, iv p3, iv p4] [(.ref a0)] _
  refine X0.arraylength hx (by rw [e0]; exact Ar1.1) (State.isArrayOf_alike hZ.alike Ar1.2.1) (g := (mkF m 1 #[rv a0, iv (1 : Int32), iv p2, iv p3, iv p4] [(.ref a0)])) rfl rfl (hb hby d6_1) _ ?_
  rw [len_of S1 N1]
  show AT p e below s₁ m 2 #[rv a0, iv (1 : Int32), iv p2, iv p3, iv p4] [(.int (1 : Int32))] _
  refine XS.iloadN X0.here hx rfl (hb hby d6_2) rfl ?_
  show AT p e below s₁ m 3 #[rv a0, iv (1 : Int32), iv p2, iv p3, iv p4] [(.int (1 : Int32)), (.int (1 : Int32))] _
  refine XS.icmpYes X0.here hx rfl (pc0 := 3) (pc' := 8) rfl (hb hby d6_3) rfl (XT.ii_eq_t ((by decide) : (1 : Int32) = (1 : Int32))) (by decide) (by decide) ?_
  show AT p e below s₁ m 8 #[rv a0, iv (1 : Int32), iv p2, iv p3, iv p4] [] _
  refine XS.iloadN X0.here hx rfl (hb hby d6_8) rfl ?_
  show AT p e below s₁ m 9 #[rv a0, iv (1 : Int32), iv p2, iv p3, iv p4] [(.int (1 : Int32))] _
  refine XS.iconst X0.here hx rfl (hb hby d6_9) ?_
  show AT p e below s₁ m 10 #[rv a0, iv (1 : Int32), iv p2, iv p3, iv p4] [(.int (1 : Int32)), (.int (1 : Int32))] _
  refine XS.icmpNo X0.here hx rfl (hb hby d6_10) rfl (XT.ii_lt_f ((by decide) : ¬ ((1 : Int32) < (1 : Int32)))) ?_
  show AT p e below s₁ m 13 #[rv a0, iv (1 : Int32), iv p2, iv p3, iv p4] [] _
  refine XS.aloadN X0.here hx rfl (hb hby d6_13) rfl rfl ?_
  show AT p e below s₁ m 14 #[rv a0, iv (1 : Int32), iv p2, iv p3, iv p4] [(.ref a0)] _
  refine XS.iconst X0.here hx rfl (hb hby d6_14) ?_
  show AT p e below s₁ m 15 #[rv a0, iv (1 : Int32), iv p2, iv p3, iv p4] [(.int (0 : Int32)), (.ref a0)] _
  refine X0.baloadBytes hx (j := (0 : Int32)) (v := (.int x0)) (by rw [e0]; exact Ar2.1) (State.isArrayOf_alike hZ.alike Ar2.2.1) Ar2.2.2 hin2 hat2 (g := (mkF m 15 #[rv a0, iv (1 : Int32), iv p2, iv p3, iv p4] [(.int (0 : Int32)), (.ref a0)])) rfl rfl (hb hby d6_15) _ ?_
  show AT p e below s₁ m 16 #[rv a0, iv (1 : Int32), iv p2, iv p3, iv p4] [(.int x0)] _
  refine XS.iloadN X0.here hx rfl (hb hby d6_16) rfl ?_
  show AT p e below s₁ m 17 #[rv a0, iv (1 : Int32), iv p2, iv p3, iv p4] [(.int p2), (.int x0)] _
  refine XS.i2b X0.here hx rfl (hb hby d6_17) rfl ?_
  exact kg)
 rcases Decidable.em (x0 = (p2.toInt8.toInt32)) with hc4 | hc4
 ·
  obtain ⟨fs, hr, hrun, hended, hW, hsame⟩ := X0.leave (v := some (.int (1 : Int32))) (fun h => by rw [Bd.returns] at h; cases h)
  subst hS0
  refine ⟨_, _, pre3 _ ?_, hrun, hended, _, _, rfl, ?_, ⟨_, rfl⟩, hW, hsame.mono (by decide) (by decide)⟩
  ·
   refine XS.icmpYes X0.here hx rfl (pc0 := 18) (pc' := 23) rfl (hb hby d6_18) rfl (XT.ii_eq_t hc4) (by decide) (by decide) ?_
   show AT p e below s₁ m 23 #[rv a0, iv (1 : Int32), iv p2, iv p3, iv p4] [] _
   refine XS.iloadN X0.here hx rfl (hb hby d6_23) rfl ?_
   show AT p e below s₁ m 24 #[rv a0, iv (1 : Int32), iv p2, iv p3, iv p4] [(.int (1 : Int32))] _
   refine XS.iconst X0.here hx rfl (hb hby d6_24) ?_
   show AT p e below s₁ m 25 #[rv a0, iv (1 : Int32), iv p2, iv p3, iv p4] [(.int (2 : Int32)), (.int (1 : Int32))] _
   refine XS.icmpYes X0.here hx rfl (pc0 := 25) (pc' := 38) rfl (hb hby d6_25) rfl (XT.ii_lt_t ((by decide) : (1 : Int32) < (2 : Int32))) (by decide) (by decide) ?_
   show AT p e below s₁ m 38 #[rv a0, iv (1 : Int32), iv p2, iv p3, iv p4] [] _
   refine XS.iloadN X0.here hx rfl (hb hby d6_38) rfl ?_
   show AT p e below s₁ m 39 #[rv a0, iv (1 : Int32), iv p2, iv p3, iv p4] [(.int (1 : Int32))] _
   refine XS.iconst X0.here hx rfl (hb hby d6_39) ?_
   show AT p e below s₁ m 40 #[rv a0, iv (1 : Int32), iv p2, iv p3, iv p4] [(.int (3 : Int32)), (.int (1 : Int32))] _
   refine XS.icmpYes X0.here hx rfl (pc0 := 40) (pc' := 54) rfl (hb hby d6_40) rfl (XT.ii_lt_t ((by decide) : (1 : Int32) < (3 : Int32))) (by decide) (by decide) ?_
   show AT p e below s₁ m 54 #[rv a0, iv (1 : Int32), iv p2, iv p3, iv p4] [] _
   refine XS.iconst X0.here hx rfl (hb hby d6_54) ?_
   show AT p e below s₁ m 55 #[rv a0, iv (1 : Int32), iv p2, iv p3, iv p4] [(.int (1 : Int32))] _
   exact retN X0 hx (t := .boolean) Bd.returns (by simp) (hb hby d6_55) hr
  ·
   show Q6_1 Z a0 p2 p3 p4 kb x0 h0 n0 _ s₁.heap _
   rw [e0]
   exact ⟨(by rw [f6_1, if_pos hc4]), N0, rfl⟩
 ·
  obtain ⟨fs, hr, hrun, hended, hW, hsame⟩ := X0.leave (v := some (.int (0 : Int32))) (fun h => by rw [Bd.returns] at h; cases h)
  subst hS0
  refine ⟨_, _, pre3 _ ?_, hrun, hended, _, _, rfl, ?_, ⟨_, rfl⟩, hW, hsame.mono (by decide) (by decide)⟩
  ·
   refine XS.icmpNo X0.here hx rfl (hb hby d6_18) rfl (XT.ii_eq_f hc4) ?_
   show AT p e below s₁ m 21 #[rv a0, iv (1 : Int32), iv p2, iv p3, iv p4] [] _
   refine XS.iconst X0.here hx rfl (hb hby d6_21) ?_
   show AT p e below s₁ m 22 #[rv a0, iv (1 : Int32), iv p2, iv p3, iv p4] [(.int (0 : Int32))] _
   exact retN X0 hx (t := .boolean) Bd.returns (by simp) (hb hby d6_22) hr
  ·
   show Q6_1 Z a0 p2 p3 p4 kb x0 h0 n0 _ s₁.heap _
   rw [e0]
   exact ⟨(by rw [f6_1, if_neg hc4]), N0, rfl⟩

theorem ef_4_2 (m : MethodId) (a0 : Addr) : entryFrame m #[(.ref a0), (.int (2 : Int32))] 3 = mkF m 0 #[rv a0, iv (2 : Int32), un] [] := by first | (simp [entryFrame, mkF, argsToLocals, Value.category]; done) | rfl
def Q4_2 (Z : State) (a0 : Addr) (kw : ClassId) (x0 : Int32) (x1 : Int32) (x2 : Int32) (x3 : Int32) (x4 : Int32) (x5 : Int32) (x6 : Int32) (x7 : Int32) (h0 : Heap) (n0 : Nat) (v : Option Value) (h : Heap) (L : List Loc) : Prop := ∃ (b : Addr) (kb : ClassId), v = some (.ref b) ∧ Fr n0 L ∧ Keep h0 h [] ∧ Arv Z h b kb .byte (2 : Int32) [(.int x0), (.int x1)] (.int (0 : Int32)) ∧ Exa Z h b "[B" ∧ h0.size ≤ b
set_option maxRecDepth 65536 in
set_option maxHeartbeats 40000000 in
theorem rm4_2 (l : Launch) (Z : State) (ar : Array Value) (hw : ∀ d ∈ tables_1, d.before ar Z = true) (ws : List Jvm.Cond) (a0 : Addr) (kw : ClassId) (x0 : Int32) (x1 : Int32) (x2 : Int32) (x3 : Int32) (x4 : Int32) (x5 : Int32) (x6 : Int32) (x7 : Int32) (h0 : Heap) (n0 : Nat) (O0 : Old Z n0 h0) (pf0 : Arv Z h0 a0 kw .byte (1024 : Int32) [(.int x0), (.int x1), (.int x2), (.int x3), (.int x4), (.int x5), (.int x6), (.int x7)] (.int (0 : Int32))) :
    MetFree l y4 (head1 (Jvm.Cond.code y4 jdk_65_method_121_code 3 (some (.array .byte)) :: ws) ({ frames := 1, cells := 1, slots := 2, locals := 18 } : Room)) (fun a U => a = #[(.ref a0), (.int (2 : Int32))] ∧ Z.Warmed39 U.vm ∧ U.heap = h0) (fun _ _ _ _ _ => True) (fun _ U o U' => ∃ v L, o = .returned v ∧ Q4_2 Z a0 kw x0 x1 x2 x3 x4 x5 x6 x7 h0 n0 v U'.heap L ∧ FrameEnd U o U' L ({ frames := 1, cells := 1, slots := 2, locals := 18 } : Room).cells ({ frames := 1, cells := 1, slots := 2, locals := 18 } : Room).slots) := by
 refine MetFree.of_bodySF (plainFor_of_name pn_4) hisR ?_
 intro p e s m args below meth c s₁ Bd hml0 hP hK
 obtain ⟨rfl, hZ, hh⟩ := hP
 have hx := Bd.exec
 have hby := Bd.bytes
 have hml : c.maxLocals = 3 := hml0
 have hown : s.vm.findClass "java/util/Arrays" = some m.cls := findClass_of_methodNamed Bd.named
 have hnm := (name_of_methodNamed Bd.named Bd.method).1
 have X0 : Stand p l e ({ frames := 1, cells := 1, slots := 2, locals := 18 } : Room) s m #[(.ref a0), (.int (2 : Int32))] below meth c s₁ [] 0 0 := Stand.of_body Bd
 have e0 : s₁.heap = h0 := by rw [← hh, Bd.state]; rfl
 have N0 := Fr.nil n0
 have Z0 : n0 ≤ h0.size := Nat.le_trans (Nat.le_of_eq O0.1.symm) O0.2.1
 obtain ⟨S0, hS0⟩ : ∃ z, z = s₁.setTop (entryFrame m #[(.ref a0), (.int (2 : Int32))] 3) := ⟨_, rfl⟩
 have pre0 : ∀ tg, AT p e below s₁ m 0 #[rv a0, iv (2 : Int32), un] [] tg → Steps p.tables e below S0 tg := fun tg kg => by rw [hS0]; exact castTop (ef_4_2 m a0) kg
 obtain ⟨cl1, Ar1, q1, S1, N1, H1, G1⟩ := id pf0
 obtain ⟨T2, h2, k2, X2, e2, E2, A2, B2, st2⟩ := newPE X0 hx hZ (ow hw 9 rfl) e0 (g := (mkF m 15 #[rv a0, iv (2 : Int32), un] [(.int (2 : Int32))])) rfl (hb hby d4_15) rfl (by decide) (cap := 2) (by decide) (by decide) (by decide) (by decide) (ad := "[B") (by decide)
 obtain ⟨b2, g2⟩ : ∃ z, z = h0.size := ⟨_, rfl⟩
 rw [← g2] at A2 B2 st2
 have ne2_3 : a0 ≠ b2 := Nat.ne_of_lt (Nat.lt_of_lt_of_le (pf0).lt (Nat.le_of_eq g2.symm))
 have gn2 : n0 ≤ b2 := Nat.le_trans (Nat.le_trans (Nat.le_of_eq O0.1.symm) O0.2.1) (Nat.le_of_eq g2.symm)
 have sz2 : h0.size ≤ b2 := Nat.le_trans (Keep.refl h0 []).1 (Nat.le_of_eq g2.symm)
 have V2_4 := pf0.ext E2
 have K2 := (Keep.refl h0 []).ext E2
 have O2 := O0.ext E2
 have V2_5 : Arv Z h2 b2 k2 .byte (2 : Int32) [(.int (0 : Int32)), (.int (0 : Int32))] (.int (0 : Int32)) := (Arv.new A2 (by decide)).pad (pad_rep [] (.int (0 : Int32)) 2)
 obtain ⟨cl6, Ar6, q6, S6, N6, H6, G6⟩ := id V2_4
 obtain ⟨_, _, ⟨T7, L7, k7, n7⟩, -, X7, ⟨Lc7, hQ7, l7, y7, z7⟩, st7⟩ := Jvm.LawKit.callS X2 hx (y := y5) hown (mvT hZ (ow hw 23 rfl)) (mvT hZ (ow hw 24 rfl)) (mvT hZ (ow hw 25 rfl)) (mvT hZ (ow hw 26 rfl)) (by decide) (backOf (W := 4) (rm5 l Z ar hw [] (1024 : Int32) (2 : Int32) h2 n0 O2) hZ (ow hw 26 rfl) (ow hw 25 rfl) (by decide) (by decide)) (g := (mkF m 25 #[rv a0, iv (2 : Int32), rv b2] [(.int (2 : Int32)), (.int (1024 : Int32)), (.int (0 : Int32)), (.ref b2), (.int (0 : Int32)), (.ref a0)])) rfl (by rw [hml]; rfl) (argsL := [(.int (1024 : Int32)), (.int (2 : Int32))]) (rest := [(.int (0 : Int32)), (.ref b2), (.int (0 : Int32)), (.ref a0)]) (lenOf pd_8 rfl) rfl (by show 2 * 0 + _ ≤ _; exact Nat.le_of_eq rfl) (hb hby d4_25) (fun _ _ => ⟨rfl, e2, (by decide : 1 + 0 ≤ _), (by decide : 2 + 0 ≤ _)⟩)
 dsimp only [Pt.U, Pt.locs, Pt.cells, Pt.slots] at X7 l7 y7 z7 st7 hQ7
 subst l7 y7 z7
 obtain ⟨rfl, N7q, e7⟩ := hQ7
 have N7 := Fr.app N0 N7q
 have r7 : (f5 (1024 : Int32) (2 : Int32)) = (2 : Int32) := by rw [f5, if_pos ((by decide) : (2 : Int32) < (1024 : Int32))] <;> decide
 rw [r7] at st7
 obtain ⟨T8, h8, L8, X8, e8, N8, Kq8, Vq8, st8⟩ := cpA X7 hx hZ hown (ow hw 27 rfl) (ow hw 30 rfl) (ow hw 28 rfl) (ow hw 29 rfl) e7 V2_4 V2_5 (us := [(.int x0), (.int x1)]) (Or.inl ⟨rfl, rfl⟩) (sp := (0 : Int32)) (dp := (0 : Int32)) (nn := (2 : Int32)) (by decide) (by decide) (by decide) (by decide) (by decide) rfl (Nat.le_of_ble_eq_true rfl) N7 gn2 (g := (mkF m 28 #[rv a0, iv (2 : Int32), rv b2] [(.int (2 : Int32)), (.int (0 : Int32)), (.ref b2), (.int (0 : Int32)), (.ref a0)])) rfl (by rw [hml]; rfl) rfl (hb hby d4_28) (by decide) (W := 0) (by show 2 * 0 + _ ≤ _; exact Nat.le_of_eq rfl) (by decide)
 have V8_9 : Arv Z h8 b2 k2 .byte (2 : Int32) [(.int x0), (.int x1)] (.int (0 : Int32)) := Vq8
 have V8_10 := V2_4.keep Kq8 (ninS ne2_3 nin0)
 have E8_11 := B2.keep Kq8
 have K8 := K2.trans Kq8 (allS (Or.inr sz2) all0)
 have O8 := O2.keep Kq8 (allS gn2 all0)
 obtain ⟨fs, hr, hrun, hended, hW, hsame⟩ := X8.leave (v := some (.ref b2)) (fun h => by rw [Bd.returns] at h; cases h)
 subst hS0
 refine ⟨_, _, pre0 _ ?_, hrun, hended, _, _, rfl, ?_, ⟨_, rfl⟩, hW, hsame.mono (by decide) (by decide)⟩
 ·
  refine XS.iloadN X0.here hx rfl (hb hby d4_0) rfl ?_
  show AT p e below s₁ m 1 #[rv a0, iv (2 : Int32), un] [(.int (2 : Int32))] _
  refine XS.aloadN X0.here hx rfl (hb hby d4_1) rfl rfl ?_
  show AT p e below s₁ m 2 #[rv a0, iv (2 : Int32), un] [(.ref a0), (.int (2 : Int32))] _
  refine X0.arraylength hx (by rw [e0]; exact Ar1.1) (State.isArrayOf_alike hZ.alike Ar1.2.1) (g := (mkF m 2 #[rv a0, iv (2 : Int32), un] [(.ref a0), (.int (2 : Int32))])) rfl rfl (hb hby d4_2) _ ?_
  rw [len_of S1 N1]
  show AT p e below s₁ m 3 #[rv a0, iv (2 : Int32), un] [(.int (1024 : Int32)), (.int (2 : Int32))] _
  refine XS.icmpYes X0.here hx rfl (pc0 := 3) (pc' := 14) rfl (hb hby d4_3) rfl (XT.ii_ne_t ((by decide) : ¬ ((2 : Int32) = (1024 : Int32)))) (by decide) (by decide) ?_
  show AT p e below s₁ m 14 #[rv a0, iv (2 : Int32), un] [] _
  refine XS.iloadN X0.here hx rfl (hb hby d4_14) rfl ?_
  show AT p e below s₁ m 15 #[rv a0, iv (2 : Int32), un] [(.int (2 : Int32))] _
  refine st2 _ ?_
  show AT p e below T2 m 17 #[rv a0, iv (2 : Int32), un] [(.ref b2)] _
  refine XS.astoreN X2.here hx rfl (hb hby d4_17) rfl rfl (l' := #[rv a0, iv (2 : Int32), rv b2]) rfl ?_
  show AT p e below T2 m 18 #[rv a0, iv (2 : Int32), rv b2] [] _
  refine XS.aloadN X2.here hx rfl (hb hby d4_18) rfl rfl ?_
  show AT p e below T2 m 19 #[rv a0, iv (2 : Int32), rv b2] [(.ref a0)] _
  refine XS.iconst X2.here hx rfl (hb hby d4_19) ?_
  show AT p e below T2 m 20 #[rv a0, iv (2 : Int32), rv b2] [(.int (0 : Int32)), (.ref a0)] _
  refine XS.aloadN X2.here hx rfl (hb hby d4_20) rfl rfl ?_
  show AT p e below T2 m 21 #[rv a0, iv (2 : Int32), rv b2] [(.ref b2), (.int (0 : Int32)), (.ref a0)] _
  refine XS.iconst X2.here hx rfl (hb hby d4_21) ?_
  show AT p e below T2 m 22 #[rv a0, iv (2 : Int32), rv b2] [(.int (0 : Int32)), (.ref b2), (.int (0 : Int32)), (.ref a0)] _
  refine XS.aloadN X2.here hx rfl (hb hby d4_22) rfl rfl ?_
  show AT p e below T2 m 23 #[rv a0, iv (2 : Int32), rv b2] [(.ref a0), (.int (0 : Int32)), (.ref b2), (.int (0 : Int32)), (.ref a0)] _
  refine X2.arraylength hx (by rw [e2]; exact Ar6.1) (State.isArrayOf_alike hZ.alike Ar6.2.1) (g := (mkF m 23 #[rv a0, iv (2 : Int32), rv b2] [(.ref a0), (.int (0 : Int32)), (.ref b2), (.int (0 : Int32)), (.ref a0)])) rfl rfl (hb hby d4_23) _ ?_
  rw [len_of S6 N6]
  show AT p e below T2 m 24 #[rv a0, iv (2 : Int32), rv b2] [(.int (1024 : Int32)), (.int (0 : Int32)), (.ref b2), (.int (0 : Int32)), (.ref a0)] _
  refine XS.iloadN X2.here hx rfl (hb hby d4_24) rfl ?_
  show AT p e below T2 m 25 #[rv a0, iv (2 : Int32), rv b2] [(.int (2 : Int32)), (.int (1024 : Int32)), (.int (0 : Int32)), (.ref b2), (.int (0 : Int32)), (.ref a0)] _
  refine st7 _ ?_
  show AT p e below T7 m 28 #[rv a0, iv (2 : Int32), rv b2] [(.int (2 : Int32)), (.int (0 : Int32)), (.ref b2), (.int (0 : Int32)), (.ref a0)] _
  refine st8 _ ?_
  show AT p e below T8 m 31 #[rv a0, iv (2 : Int32), rv b2] [] _
  refine XS.aloadN X8.here hx rfl (hb hby d4_31) rfl rfl ?_
  show AT p e below T8 m 32 #[rv a0, iv (2 : Int32), rv b2] [(.ref b2)] _
  exact retOut X8 hx (t := (.array .byte)) (i := .areturn) Bd.returns rfl (Or.inr (Or.inr (Or.inr (Or.inr ⟨rfl, rfl, rfl⟩)))) (hb hby d4_32) hr
 ·
  show Q4_2 Z a0 kw x0 x1 x2 x3 x4 x5 x6 x7 h0 n0 _ T8.heap _
  rw [e8]
  exact ⟨b2, k2, rfl, N8, K8, V8_9, E8_11, sz2⟩

theorem ef_3_2 (m : MethodId) (a0 : Addr) : entryFrame m #[(.ref a0)] 1 = mkF m 0 #[rv a0] [] := by first | (simp [entryFrame, mkF, argsToLocals, Value.category]; done) | rfl
def Q3_2 (Z : State) (a0 : Addr) (w : Addr) (kw : ClassId) (x0 : Int32) (x1 : Int32) (x2 : Int32) (x3 : Int32) (x4 : Int32) (x5 : Int32) (x6 : Int32) (x7 : Int32) (h0 : Heap) (n0 : Nat) (v : Option Value) (h : Heap) (L : List Loc) : Prop := ∃ (b : Addr) (kb : ClassId), v = some (.ref b) ∧ Fr n0 L ∧ Keep h0 h [] ∧ Arv Z h b kb .byte (2 : Int32) [(.int x0), (.int x1)] (.int (0 : Int32)) ∧ Exa Z h b "[B" ∧ h0.size ≤ b
set_option maxRecDepth 65536 in
set_option maxHeartbeats 40000000 in
theorem rm3_2 (l : Launch) (Z : State) (ar : Array Value) (hw : ∀ d ∈ tables_1, d.before ar Z = true) (ws : List Jvm.Cond) (a0 : Addr) (w : Addr) (kw : ClassId) (x0 : Int32) (x1 : Int32) (x2 : Int32) (x3 : Int32) (x4 : Int32) (x5 : Int32) (x6 : Int32) (x7 : Int32) (h0 : Heap) (n0 : Nat) (O0 : Old Z n0 h0) (pf0 : Exa Z h0 a0 "com/example/polity/polity/io/saml/CanonicalXml") (pf1 : Fld Z h0 a0 "com/example/polity/polity/io/saml/CanonicalXml" "bytes" "[B" (.ref w)) (pf2 : Arv Z h0 w kw .byte (1024 : Int32) [(.int x0), (.int x1), (.int x2), (.int x3), (.int x4), (.int x5), (.int x6), (.int x7)] (.int (0 : Int32))) (pf3 : Fld Z h0 a0 "com/example/polity/polity/io/saml/CanonicalXml" "length" "I" (.int (2 : Int32))) :
    MetFree l y3 (head1 (Jvm.Cond.code y3 prog_10_method_7_code 1 (some (.array .byte)) :: ws) ({ frames := 2, cells := 1, slots := 2, locals := 32 } : Room)) (fun a U => a = #[(.ref a0)] ∧ Z.Warmed39 U.vm ∧ U.heap = h0) (fun _ _ _ _ _ => True) (fun _ U o U' => ∃ v L, o = .returned v ∧ Q3_2 Z a0 w kw x0 x1 x2 x3 x4 x5 x6 x7 h0 n0 v U'.heap L ∧ FrameEnd U o U' L ({ frames := 2, cells := 1, slots := 2, locals := 32 } : Room).cells ({ frames := 2, cells := 1, slots := 2, locals := 32 } : Room).slots) := by
 refine MetFree.of_bodySF (plainFor_of_name pn_3) hisR ?_
 intro p e s m args below meth c s₁ Bd hml0 hP hK
 obtain ⟨rfl, hZ, hh⟩ := hP
 have hx := Bd.exec
 have hby := Bd.bytes
 have hml : c.maxLocals = 1 := hml0
 have hown : s.vm.findClass "com/example/polity/polity/io/saml/CanonicalXml" = some m.cls := findClass_of_methodNamed Bd.named
 have hnm := (name_of_methodNamed Bd.named Bd.method).1
 have X0 : Stand p l e ({ frames := 2, cells := 1, slots := 2, locals := 32 } : Room) s m #[(.ref a0)] below meth c s₁ [] 0 0 := Stand.of_body Bd
 have e0 : s₁.heap = h0 := by rw [← hh, Bd.state]; rfl
 have N0 := Fr.nil n0
 have Z0 : n0 ≤ h0.size := Nat.le_trans (Nat.le_of_eq O0.1.symm) O0.2.1
 obtain ⟨S0, hS0⟩ : ∃ z, z = s₁.setTop (entryFrame m #[(.ref a0)] 1) := ⟨_, rfl⟩
 have pre0 : ∀ tg, AT p e below s₁ m 0 #[rv a0] [] tg → Steps p.tables e below S0 tg := fun tg kg => by rw [hS0]; exact castTop (ef_3_2 m a0) kg
 obtain ⟨T1, X1, e1, st1⟩ := getF X0 hx hZ hown (host := "") (Or.inl (ow hw 10 rfl)) Via.refl e0 pf1 (g := (mkF m 1 #[rv a0] [(.ref a0)])) rfl rfl (hb hby d3_1)
 obtain ⟨T2, X2, e2, st2⟩ := getF X1 hx hZ hown (host := "") (Or.inl (ow hw 17 rfl)) Via.refl e1 pf3 (g := (mkF m 5 #[rv a0] [(.ref a0), (.ref w)])) rfl rfl (hb hby d3_5)
 obtain ⟨_, _, ⟨T3, L3, k3, n3⟩, -, X3, ⟨Lc3, hQ3, l3, y3, z3⟩, st3⟩ := Jvm.LawKit.callS X2 hx (y := y4) hown (mvT hZ (ow hw 19 rfl)) (mvT hZ (ow hw 20 rfl)) (mvT hZ (ow hw 21 rfl)) (mvT hZ (ow hw 22 rfl)) (by decide) (backOf (W := 0) (rm4_2 l Z ar hw [] w kw x0 x1 x2 x3 x4 x5 x6 x7 h0 n0 O0 pf2) hZ (ow hw 22 rfl) (ow hw 21 rfl) (by decide) (by decide)) (g := (mkF m 8 #[rv a0] [(.int (2 : Int32)), (.ref w)])) rfl (by rw [hml]; rfl) (argsL := [(.ref w), (.int (2 : Int32))]) (rest := []) (lenOf pd_9 rfl) rfl (by show 2 * 0 + _ ≤ _; exact Nat.le_of_eq rfl) (hb hby d3_8) (fun _ _ => ⟨rfl, e2, (by decide : 0 + 1 ≤ _), (by decide : 0 + 2 ≤ _)⟩)
 dsimp only [Pt.U, Pt.locs, Pt.cells, Pt.slots] at X3 l3 y3 z3 st3 hQ3
 subst l3 y3 z3
 obtain ⟨b_3, kb_3, rfl, N3q, Kq3, u3_0, u3_1, u3_2⟩ := hQ3
 have N3 := Fr.app N0 N3q
 have E3_4 := pf0.keep Kq3
 have F3_5 := pf1.keep Kq3 nin0
 have V3_6 := pf2.keep Kq3 nin0
 have F3_7 := pf3.keep Kq3 nin0
 have K3 := (Keep.refl h0 []).trans Kq3 all0
 have O3 := O0.keep Kq3 all0
 have sz8 : h0.size ≤ b_3 := Nat.le_trans (Keep.refl h0 []).1 u3_2
 have gn8 : n0 ≤ b_3 := Nat.le_trans (Nat.le_trans (Nat.le_of_eq O0.1.symm) O0.2.1) u3_2
 have ne9 : a0 ≠ b_3 := Nat.ne_of_lt (Nat.lt_of_lt_of_le (pf0).lt u3_2)
 have ne10 : w ≠ b_3 := Nat.ne_of_lt (Nat.lt_of_lt_of_le (pf2).lt u3_2)
 obtain ⟨fs, hr, hrun, hended, hW, hsame⟩ := X3.leave (v := some (.ref b_3)) (fun h => by rw [Bd.returns] at h; cases h)
 subst hS0
 refine ⟨_, _, pre0 _ ?_, hrun, hended, _, _, rfl, ?_, ⟨_, rfl⟩, hW, hsame.mono (by decide) (by decide)⟩
 ·
  refine XS.aloadN X0.here hx rfl (hb hby d3_0) rfl rfl ?_
  show AT p e below s₁ m 1 #[rv a0] [(.ref a0)] _
  refine st1 _ ?_
  show AT p e below T1 m 4 #[rv a0] [(.ref w)] _
  refine XS.aloadN X1.here hx rfl (hb hby d3_4) rfl rfl ?_
  show AT p e below T1 m 5 #[rv a0] [(.ref a0), (.ref w)] _
  refine st2 _ ?_
  show AT p e below T2 m 8 #[rv a0] [(.int (2 : Int32)), (.ref w)] _
  refine st3 _ ?_
  show AT p e below T3 m 11 #[rv a0] [(.ref b_3)] _
  exact retOut X3 hx (t := (.array .byte)) (i := .areturn) Bd.returns rfl (Or.inr (Or.inr (Or.inr (Or.inr ⟨rfl, rfl, rfl⟩)))) (hb hby d3_11) hr
 ·
  show Q3_2 Z a0 w kw x0 x1 x2 x3 x4 x5 x6 x7 h0 n0 _ T3.heap _
  exact ⟨b_3, kb_3, rfl, N3, K3, u3_0, u3_1, sz8⟩

theorem ef_14_2 (m : MethodId) (a0 : Addr) : entryFrame m #[(.ref a0), (.int (1 : Int32))] 2 = mkF m 0 #[rv a0, iv (1 : Int32)] [] := by first | (simp [entryFrame, mkF, argsToLocals, Value.category]; done) | rfl
def Q14_2 (Z : State) (a0 : Addr) (w : Addr) (kw : ClassId) (x0 : Int32) (x1 : Int32) (x2 : Int32) (x3 : Int32) (x4 : Int32) (x5 : Int32) (x6 : Int32) (x7 : Int32) (h0 : Heap) (n0 : Nat) (v : Option Value) (h : Heap) (L : List Loc) : Prop := v = none ∧ Fr n0 L ∧ h = h0
set_option maxRecDepth 65536 in
set_option maxHeartbeats 40000000 in
theorem rm14_2 (l : Launch) (Z : State) (ar : Array Value) (hw : ∀ d ∈ tables_1, d.before ar Z = true) (ws : List Jvm.Cond) (a0 : Addr) (w : Addr) (kw : ClassId) (x0 : Int32) (x1 : Int32) (x2 : Int32) (x3 : Int32) (x4 : Int32) (x5 : Int32) (x6 : Int32) (x7 : Int32) (h0 : Heap) (n0 : Nat) (O0 : Old Z n0 h0) (pf0 : Exa Z h0 a0 "com/example/polity/polity/io/saml/CanonicalXml") (pf1 : Fld Z h0 a0 "com/example/polity/polity/io/saml/CanonicalXml" "bytes" "[B" (.ref w)) (pf2 : Arv Z h0 w kw .byte (1024 : Int32) [(.int x0), (.int x1), (.int x2), (.int x3), (.int x4), (.int x5), (.int x6), (.int x7)] (.int (0 : Int32))) (pf3 : Fld Z h0 a0 "com/example/polity/polity/io/saml/CanonicalXml" "length" "I" (.int (2 : Int32))) :
    MetFree l y14 (head1 (Jvm.Cond.code y14 prog_10_method_12_code 2 none :: ws) ({ frames := 0, cells := 0, slots := 0, locals := 0 } : Room)) (fun a U => a = #[(.ref a0), (.int (1 : Int32))] ∧ Z.Warmed39 U.vm ∧ U.heap = h0) (fun _ _ _ _ _ => True) (fun _ U o U' => ∃ v L, o = .returned v ∧ Q14_2 Z a0 w kw x0 x1 x2 x3 x4 x5 x6 x7 h0 n0 v U'.heap L ∧ FrameEnd U o U' L ({ frames := 0, cells := 0, slots := 0, locals := 0 } : Room).cells ({ frames := 0, cells := 0, slots := 0, locals := 0 } : Room).slots) := by
 refine MetFree.of_bodySF (plainFor_of_name pn_3) hisR ?_
 intro p e s m args below meth c s₁ Bd hml0 hP hK
 obtain ⟨rfl, hZ, hh⟩ := hP
 have hx := Bd.exec
 have hby := Bd.bytes
 have hml : c.maxLocals = 2 := hml0
 have hown : s.vm.findClass "com/example/polity/polity/io/saml/CanonicalXml" = some m.cls := findClass_of_methodNamed Bd.named
 have hnm := (name_of_methodNamed Bd.named Bd.method).1
 have X0 : Stand p l e ({ frames := 0, cells := 0, slots := 0, locals := 0 } : Room) s m #[(.ref a0), (.int (1 : Int32))] below meth c s₁ [] 0 0 := Stand.of_body Bd
 have e0 : s₁.heap = h0 := by rw [← hh, Bd.state]; rfl
 have N0 := Fr.nil n0
 have Z0 : n0 ≤ h0.size := Nat.le_trans (Nat.le_of_eq O0.1.symm) O0.2.1
 obtain ⟨S0, hS0⟩ : ∃ z, z = s₁.setTop (entryFrame m #[(.ref a0), (.int (1 : Int32))] 2) := ⟨_, rfl⟩
 have pre0 : ∀ tg, AT p e below s₁ m 0 #[rv a0, iv (1 : Int32)] [] tg → Steps p.tables e below S0 tg := fun tg kg => by rw [hS0]; exact castTop (ef_14_2 m a0) kg
 obtain ⟨T1, X1, e1, st1⟩ := getF X0 hx hZ hown (host := "") (Or.inl (ow hw 10 rfl)) Via.refl e0 pf1 (g := (mkF m 1 #[rv a0, iv (1 : Int32)] [(.ref a0)])) rfl rfl (hb hby d14_1)
 obtain ⟨cl2, Ar2, q2, S2, N2, H2, G2⟩ := id pf2
 obtain ⟨T3, X3, e3, st3⟩ := getF X1 hx hZ hown (host := "") (Or.inl (ow hw 17 rfl)) Via.refl e1 pf3 (g := (mkF m 6 #[rv a0, iv (1 : Int32)] [(.ref a0), (.int (1024 : Int32))])) rfl rfl (hb hby d14_6)
 obtain ⟨fs, hr, hrun, hended, hW, hsame⟩ := X3.leave (v := none) (fun _ => rfl)
 subst hS0
 refine ⟨_, _, pre0 _ ?_, hrun, hended, _, _, rfl, ?_, ⟨_, rfl⟩, hW, hsame.mono (by decide) (by decide)⟩
 ·
  refine XS.aloadN X0.here hx rfl (hb hby d14_0) rfl rfl ?_
  show AT p e below s₁ m 1 #[rv a0, iv (1 : Int32)] [(.ref a0)] _
  refine st1 _ ?_
  show AT p e below T1 m 4 #[rv a0, iv (1 : Int32)] [(.ref w)] _
  refine X1.arraylength hx (by rw [e1]; exact Ar2.1) (State.isArrayOf_alike hZ.alike Ar2.2.1) (g := (mkF m 4 #[rv a0, iv (1 : Int32)] [(.ref w)])) rfl rfl (hb hby d14_4) _ ?_
  rw [len_of S2 N2]
  show AT p e below T1 m 5 #[rv a0, iv (1 : Int32)] [(.int (1024 : Int32))] _
  refine XS.aloadN X1.here hx rfl (hb hby d14_5) rfl rfl ?_
  show AT p e below T1 m 6 #[rv a0, iv (1 : Int32)] [(.ref a0), (.int (1024 : Int32))] _
  refine st3 _ ?_
  show AT p e below T3 m 9 #[rv a0, iv (1 : Int32)] [(.int (2 : Int32)), (.int (1024 : Int32))] _
  refine XS.isub X3.here hx rfl (hb hby d14_9) rfl ?_
  show AT p e below T3 m 10 #[rv a0, iv (1 : Int32)] [(.int (1022 : Int32))] _
  refine XS.iloadN X3.here hx rfl (hb hby d14_10) rfl ?_
  show AT p e below T3 m 11 #[rv a0, iv (1 : Int32)] [(.int (1 : Int32)), (.int (1022 : Int32))] _
  refine XS.icmpYes X3.here hx rfl (pc0 := 11) (pc' := 41) rfl (hb hby d14_11) rfl (XT.ii_ge_t ((by decide) : ¬ ((1022 : Int32) < (1 : Int32)))) (by decide) (by decide) ?_
  show AT p e below T3 m 41 #[rv a0, iv (1 : Int32)] [] _
  exact X3.returnOut hx Bd.returns (hb hby d14_41) hr
 ·
  show Q14_2 Z a0 w kw x0 x1 x2 x3 x4 x5 x6 x7 h0 n0 _ T3.heap _
  rw [e3]
  exact ⟨rfl, N0, rfl⟩

theorem ef_11_2 (m : MethodId) (a0 : Addr) (a1 : Addr) : entryFrame m #[(.ref a0), (.ref a1)] 4 = mkF m 0 #[rv a0, rv a1, un, un] [] := by first | (simp [entryFrame, mkF, argsToLocals, Value.category]; done) | rfl
def Q11_2 (Z : State) (a0 : Addr) (a1 : Addr) (w_CS0 : Int32) (w_SF1 : Value) (w : Addr) (kw : ClassId) (x0 : Int32) (x1 : Int32) (x2 : Int32) (x3 : Int32) (x4 : Int32) (x5 : Int32) (x6 : Int32) (x7 : Int32) (u : Addr) (ku : ClassId) (y0 : Int32) (h0 : Heap) (n0 : Nat) (v : Option Value) (h : Heap) (L : List Loc) : Prop := v = some (.ref a0) ∧ Fr n0 L ∧ Keep h0 h [a0, w] ∧ Exa Z h a0 "com/example/polity/polity/io/saml/CanonicalXml" ∧ Fld Z h a0 "com/example/polity/polity/io/saml/CanonicalXml" "bytes" "[B" (.ref w) ∧ Fld Z h a0 "com/example/polity/polity/io/saml/CanonicalXml" "length" "I" (.int (3 : Int32)) ∧ Arv Z h w kw .byte (1024 : Int32) [(.int x0), (.int x1), (.int (nar .byte ((nar .char (nar .char ((y0 &&& (255 : Int32)).toUInt32.toUInt16.toUInt32.toInt32))).toInt8.toInt32))), (.int x3), (.int x4), (.int x5), (.int x6), (.int x7)] (.int (0 : Int32))
set_option maxRecDepth 65536 in
set_option maxHeartbeats 40000000 in
theorem rm11_2 (l : Launch) (Z : State) (ar : Array Value) (hw : ∀ d ∈ tables_1, d.before ar Z = true) (ws : List Jvm.Cond) (a0 : Addr) (a1 : Addr) (w_CS0 : Int32) (w_SF1 : Value) (w : Addr) (kw : ClassId) (x0 : Int32) (x1 : Int32) (x2 : Int32) (x3 : Int32) (x4 : Int32) (x5 : Int32) (x6 : Int32) (x7 : Int32) (u : Addr) (ku : ClassId) (y0 : Int32) (h0 : Heap) (n0 : Nat) (O0 : Old Z n0 h0) (HW : Wd Z w_CS0 w_SF1) (pf0 : Exa Z h0 a0 "com/example/polity/polity/io/saml/CanonicalXml") (pf1 : Fld Z h0 a0 "com/example/polity/polity/io/saml/CanonicalXml" "bytes" "[B" (.ref w)) (pf2 : Arv Z h0 w kw .byte (1024 : Int32) [(.int x0), (.int x1), (.int x2), (.int x3), (.int x4), (.int x5), (.int x6), (.int x7)] (.int (0 : Int32))) (pf3 : Fld Z h0 a0 "com/example/polity/polity/io/saml/CanonicalXml" "length" "I" (.int (2 : Int32))) (pf4 : n0 ≤ a0) (pf5 : n0 ≤ w) (pf6 : a0 ≠ w) (pf7 : Exa Z h0 a1 "java/lang/String") (pf8 : Fld Z h0 a1 "java/lang/String" "coder" "B" (.int (0 : Int32))) (pf9 : Fld Z h0 a1 "java/lang/String" "value" "[B" (.ref u)) (pf10 : Arv Z h0 u ku .byte (1 : Int32) [(.int y0)] (.int (0 : Int32))) (pf11 : a1 ≠ a0) (pf12 : u ≠ w) (pf13 : u ≠ a0) (pf14 : a1 ≠ w) (l1 : ¬ (127 : Int32) < (nar .char (nar .char ((y0 &&& (255 : Int32)).toUInt32.toUInt16.toUInt32.toInt32)))) :
    MetFree l y11 (head1 (Jvm.Cond.code y11 prog_10_method_2_code 4 (some (.object "com/example/polity/polity/io/saml/CanonicalXml")) :: ws) ({ frames := 4, cells := 0, slots := 0, locals := 53 } : Room)) (fun a U => a = #[(.ref a0), (.ref a1)] ∧ Z.Warmed39 U.vm ∧ U.heap = h0) (fun _ _ _ _ _ => True) (fun _ U o U' => ∃ v L, o = .returned v ∧ Q11_2 Z a0 a1 w_CS0 w_SF1 w kw x0 x1 x2 x3 x4 x5 x6 x7 u ku y0 h0 n0 v U'.heap L ∧ FrameEnd U o U' L ({ frames := 4, cells := 0, slots := 0, locals := 53 } : Room).cells ({ frames := 4, cells := 0, slots := 0, locals := 53 } : Room).slots) := by
 refine MetFree.of_bodySF (plainFor_of_name pn_3) hisR ?_
 intro p e s m args below meth c s₁ Bd hml0 hP hK
 obtain ⟨rfl, hZ, hh⟩ := hP
 have hx := Bd.exec
 have hby := Bd.bytes
 have hml : c.maxLocals = 4 := hml0
 have hown : s.vm.findClass "com/example/polity/polity/io/saml/CanonicalXml" = some m.cls := findClass_of_methodNamed Bd.named
 have hnm := (name_of_methodNamed Bd.named Bd.method).1
 have X0 : Stand p l e ({ frames := 4, cells := 0, slots := 0, locals := 53 } : Room) s m #[(.ref a0), (.ref a1)] below meth c s₁ [] 0 0 := Stand.of_body Bd
 have e0 : s₁.heap = h0 := by rw [← hh, Bd.state]; rfl
 have N0 := Fr.nil n0
 have Z0 : n0 ≤ h0.size := Nat.le_trans (Nat.le_of_eq O0.1.symm) O0.2.1
 obtain ⟨S0, hS0⟩ : ∃ z, z = s₁.setTop (entryFrame m #[(.ref a0), (.ref a1)] 4) := ⟨_, rfl⟩
 have pre0 : ∀ tg, AT p e below s₁ m 0 #[rv a0, rv a1, un, un] [] tg → Steps p.tables e below S0 tg := fun tg kg => by rw [hS0]; exact castTop (ef_11_2 m a0 a1) kg
 obtain ⟨S_COMPACT_STRINGS, hz_w_CS0, S_SIOOBE_FORMATTER, ir_w_SF1⟩ := id HW
 obtain ⟨cq1, kq1, q1a, q1b, q1c⟩ := isOf hZ e0 pf7
 obtain ⟨_, _, ⟨T1, L1, k1, n1⟩, -, X1, ⟨Lc1, hQ1, l1, y1, z1⟩, st1⟩ := X0.virtualBack hx (y := y12) (z := y12) hown (mvT hZ (ow hw 63 rfl)) (mvT hZ (ow hw 64 rfl)) (notFace_of_selects (args := #[]) (mvT hZ (ow hw 66 rfl))) (mvT hZ (ow hw 66 rfl)) (mvT hZ (ow hw 65 rfl)) (by decide) (backOf (W := 1) (rm12 l Z ar hw [] a1 w_CS0 w_SF1 u ku y0 h0 n0 O0 HW pf7 pf8 pf9 pf10) hZ (ow hw 67 rfl) (ow hw 37 rfl) (by decide) (by decide)) q1a q1c (g := (mkF m 2 #[rv a0, rv a1, un, un] [(.ref a1), (.ref a0)])) rfl (by rw [hml]; rfl) (Steps.refl _) (argsL := []) (rest := [(.ref a0)]) (lenOf pd_10 rfl) rfl (by show 2 * 0 + _ ≤ _; exact Nat.le_of_eq rfl) (hb hby d11_2) (fun _ _ => ⟨rfl, e0, (by decide : 0 + 0 ≤ _), (by decide : 0 + 0 ≤ _)⟩)
 dsimp only [Pt.U, Pt.locs, Pt.cells, Pt.slots] at X1 l1 y1 z1 st1 hQ1
 subst l1 y1 z1
 obtain ⟨rfl, N1q, e1⟩ := hQ1
 have N1 := Fr.app N0 N1q
 obtain ⟨cq2, q2, q2'⟩ := pf0.cell
 obtain ⟨_, _, ⟨T2, L2, k2, n2⟩, -, X2, ⟨Lc2, hQ2, l2, y2, z2⟩, st2⟩ := X1.privateBack hx (y := y14) hown (mvT hZ (ow hw 73 rfl)) (mvT hZ (ow hw 74 rfl)) (own_selP hZ (ow hw 1 rfl) (ow hw 75 rfl) (ow hw 74 rfl) (by decide)) (Cond.privateMethod_at (mvP hZ (ow hw 75 rfl) (args := #[]))) (mvT hZ (ow hw 76 rfl)) (by decide) (backOf (W := 0) (rm14_2 l Z ar hw [] a0 w kw x0 x1 x2 x3 x4 x5 x6 x7 h0 n0 O0 pf0 pf1 pf2 pf3) hZ (ow hw 76 rfl) (ow hw 2 rfl) (by decide) (by decide)) (g := (mkF m 5 #[rv a0, rv a1, un, un] [(.int (1 : Int32)), (.ref a0)])) rfl (by rw [hml]; rfl) (Steps.refl _) (a := a0) (by rw [e1]; exact q2) q2' (argsL := [(.int (1 : Int32))]) (rest := []) (lenOf pd_11 rfl) rfl (by show 2 * 0 + _ ≤ _; exact Nat.le_of_eq rfl) (hb hby d11_5) (fun _ _ => ⟨rfl, e1, (by decide : 0 + 0 ≤ _), (by decide : 0 + 0 ≤ _)⟩)
 dsimp only [Pt.U, Pt.locs, Pt.cells, Pt.slots] at X2 l2 y2 z2 st2 hQ2
 subst l2 y2 z2
 obtain ⟨rfl, N2q, e2⟩ := hQ2
 have N2 := Fr.app N1 N2q
 obtain ⟨cq3, kq3, q3a, q3b, q3c⟩ := isOf hZ e2 pf7
 obtain ⟨_, _, ⟨T3, L3, k3, n3⟩, -, X3, ⟨Lc3, hQ3, l3, y3, z3⟩, st3⟩ := X2.virtualBack hx (y := y12) (z := y12) hown (mvT hZ (ow hw 63 rfl)) (mvT hZ (ow hw 64 rfl)) (notFace_of_selects (args := #[]) (mvT hZ (ow hw 66 rfl))) (mvT hZ (ow hw 66 rfl)) (mvT hZ (ow hw 65 rfl)) (by decide) (backOf (W := 1) (rm12 l Z ar hw [] a1 w_CS0 w_SF1 u ku y0 h0 n0 O0 HW pf7 pf8 pf9 pf10) hZ (ow hw 67 rfl) (ow hw 37 rfl) (by decide) (by decide)) q3a q3c (g := (mkF m 12 #[rv a0, rv a1, iv (0 : Int32), un] [(.ref a1), (.int (0 : Int32))])) rfl (by rw [hml]; rfl) (Steps.refl _) (argsL := []) (rest := [(.int (0 : Int32))]) (lenOf pd_10 rfl) rfl (by show 2 * 0 + _ ≤ _; exact Nat.le_of_eq rfl) (hb hby d11_12) (fun _ _ => ⟨rfl, e2, (by decide : 0 + 0 ≤ _), (by decide : 0 + 0 ≤ _)⟩)
 dsimp only [Pt.U, Pt.locs, Pt.cells, Pt.slots] at X3 l3 y3 z3 st3 hQ3
 subst l3 y3 z3
 obtain ⟨rfl, N3q, e3⟩ := hQ3
 have N3 := Fr.app N2 N3q
 obtain ⟨cq4, kq4, q4a, q4b, q4c⟩ := isOf hZ e3 pf7
 obtain ⟨_, _, ⟨T4, L4, k4, n4⟩, -, X4, ⟨Lc4, hQ4, l4, y4, z4⟩, st4⟩ := X3.virtualBack hx (y := y15) (z := y15) hown (mvT hZ (ow hw 77 rfl)) (mvT hZ (ow hw 78 rfl)) (notFace_of_selects (args := #[]) (mvT hZ (ow hw 80 rfl))) (mvT hZ (ow hw 80 rfl)) (mvT hZ (ow hw 79 rfl)) (by decide) (backOf (W := 0) (rm15 l Z ar hw [] a1 w_CS0 w_SF1 u ku y0 h0 n0 O0 HW pf7 pf8 pf9 pf10) hZ (ow hw 81 rfl) (ow hw 37 rfl) (by decide) (by decide)) q4a q4c (g := (mkF m 20 #[rv a0, rv a1, iv (0 : Int32), un] [(.int (0 : Int32)), (.ref a1)])) rfl (by rw [hml]; rfl) (Steps.refl _) (argsL := [(.int (0 : Int32))]) (rest := []) (lenOf pd_12 rfl) rfl (by show 2 * 0 + _ ≤ _; exact Nat.le_of_eq rfl) (hb hby d11_20) (fun _ _ => ⟨rfl, e3, (by decide : 0 + 0 ≤ _), (by decide : 0 + 0 ≤ _)⟩)
 dsimp only [Pt.U, Pt.locs, Pt.cells, Pt.slots] at X4 l4 y4 z4 st4 hQ4
 subst l4 y4 z4
 obtain ⟨rfl, N4q, e4⟩ := hQ4
 have N4 := Fr.app N3 N4q
 obtain ⟨T5, X5, e5, st5⟩ := getF X4 hx hZ hown (host := "") (Or.inl (ow hw 10 rfl)) Via.refl e4 pf1 (g := (mkF m 45 #[rv a0, rv a1, iv (0 : Int32), iv (nar .char (nar .char ((y0 &&& (255 : Int32)).toUInt32.toUInt16.toUInt32.toInt32)))] [(.ref a0)])) rfl rfl (hb hby d11_45)
 obtain ⟨T6, X6, e6, st6⟩ := getF X5 hx hZ hown (host := "") (Or.inl (ow hw 17 rfl)) Via.refl e5 pf3 (g := (mkF m 50 #[rv a0, rv a1, iv (0 : Int32), iv (nar .char (nar .char ((y0 &&& (255 : Int32)).toUInt32.toUInt16.toUInt32.toInt32)))] [(.ref a0), (.ref a0), (.ref w)])) rfl rfl (hb hby d11_50)
 obtain ⟨T7, h7, X7, e7, W7, st7⟩ := putF X6 hx hZ hown (host := "") (Or.inl (ow hw 17 rfl)) Via.refl e6 pf3 pf0 (Or.inl (ow hw 18 rfl)) (ow hw 1 rfl) (ty := .int) (by decide) rfl rfl (g := (mkF m 56 #[rv a0, rv a1, iv (0 : Int32), iv (nar .char (nar .char ((y0 &&& (255 : Int32)).toUInt32.toUInt16.toUInt32.toInt32)))] [(.int (3 : Int32)), (.ref a0), (.int (2 : Int32)), (.ref w)])) rfl rfl (hb hby d11_56)
 have E7_8 := pf0.wr W7
 have F7_9 := pf1.other W7 (Or.inr (slot_ne (Or.inl (ow hw 11 rfl)) (Or.inl (ow hw 18 rfl)) (by decide) (t := (.array .byte)) (t' := .int) (by decide) (by decide)))
 have V7_10 := pf2.other W7 (Ne.symm pf6)
 have F7_11 : Fld Z h7 a0 "com/example/polity/polity/io/saml/CanonicalXml" "length" "I" (.int (3 : Int32)) := pf3.same W7
 have E7_12 := pf7.wr W7
 have F7_13 := pf8.other W7 (Or.inl pf11)
 have F7_14 := pf9.other W7 (Or.inl pf11)
 have V7_15 := pf10.other W7 pf13
 have K7 := (Keep.refl h0 [a0, w]).wr W7 (Or.inl (List.mem_of_getElem? (i := 0) rfl))
 have O7 := O0.wr W7 pf4
 have N7 := Fr.snoc X7 N4 pf4
 obtain ⟨cl16, Ar16, q16, S16, M16, H16, G16⟩ := id V7_10
 have hin16 := own_in (2 : Int32) S16 ⟨by decide, by decide⟩
 obtain ⟨T16, h16, X16, e16, W16, st16⟩ := stB X7 hx hZ e7 Ar16 (j := (2 : Int32)) hin16 (g := (mkF m 61 #[rv a0, rv a1, iv (0 : Int32), iv (nar .char (nar .char ((y0 &&& (255 : Int32)).toUInt32.toUInt16.toUInt32.toInt32)))] [(.int ((nar .char (nar .char ((y0 &&& (255 : Int32)).toUInt32.toUInt16.toUInt32.toInt32))).toInt8.toInt32)), (.int (2 : Int32)), (.ref w)])) rfl rfl (hb hby d11_61)
 have V16_17 : Arv Z h16 w kw .byte (1024 : Int32) [(.int x0), (.int x1), (.int (nar .byte ((nar .char (nar .char ((y0 &&& (255 : Int32)).toUInt32.toUInt16.toUInt32.toInt32))).toInt8.toInt32))), (.int x3), (.int x4), (.int x5), (.int x6), (.int x7)] (.int (0 : Int32)) := Arv.set Ar16 q16 S16 M16 H16 G16 (fits_nar_byte _) W16 2 rfl (Nat.le_of_ble_eq_true rfl)
 have E16_18 := E7_8.wr W16
 have F16_19 := F7_9.other W16 (Or.inl pf6)
 have F16_20 := F7_11.other W16 (Or.inl pf6)
 have E16_21 := E7_12.wr W16
 have F16_22 := F7_13.other W16 (Or.inl pf14)
 have F16_23 := F7_14.other W16 (Or.inl pf14)
 have V16_24 := V7_15.other W16 pf12
 have K16 := K7.wr W16 (Or.inl (List.mem_of_getElem? (i := 1) rfl))
 have O16 := O7.wr W16 pf5
 have N16 := Fr.snoc X16 N7 pf5
 obtain ⟨cq25, kq25, q25a, q25b, q25c⟩ := isOf hZ e16 E16_21
 obtain ⟨_, _, ⟨T25, L25, k25, n25⟩, -, X25, ⟨Lc25, hQ25, l25, y25, z25⟩, st25⟩ := X16.virtualBack hx (y := y12) (z := y12) hown (mvT hZ (ow hw 63 rfl)) (mvT hZ (ow hw 64 rfl)) (notFace_of_selects (args := #[]) (mvT hZ (ow hw 66 rfl))) (mvT hZ (ow hw 66 rfl)) (mvT hZ (ow hw 65 rfl)) (by decide) (backOf (W := 1) (rm12 l Z ar hw [] a1 w_CS0 w_SF1 u ku y0 h16 n0 O16 HW E16_21 F16_22 F16_23 V16_24) hZ (ow hw 67 rfl) (ow hw 37 rfl) (by decide) (by decide)) q25a q25c (g := (mkF m 12 #[rv a0, rv a1, iv (1 : Int32), iv (nar .char (nar .char ((y0 &&& (255 : Int32)).toUInt32.toUInt16.toUInt32.toInt32)))] [(.ref a1), (.int (1 : Int32))])) rfl (by rw [hml]; rfl) (Steps.refl _) (argsL := []) (rest := [(.int (1 : Int32))]) (lenOf pd_10 rfl) rfl (by show 2 * 0 + _ ≤ _; exact Nat.le_of_eq rfl) (hb hby d11_12) (fun _ _ => ⟨rfl, e16, (by decide : 0 + 0 ≤ _), (by decide : 0 + 0 ≤ _)⟩)
 dsimp only [Pt.U, Pt.locs, Pt.cells, Pt.slots] at X25 l25 y25 z25 st25 hQ25
 subst l25 y25 z25
 obtain ⟨rfl, N25q, e25⟩ := hQ25
 have N25 := Fr.app N16 N25q
 obtain ⟨fs, hr, hrun, hended, hW, hsame⟩ := X25.leave (v := some (.ref a0)) (fun h => by rw [Bd.returns] at h; cases h)
 subst hS0
 refine ⟨_, _, pre0 _ ?_, hrun, hended, _, _, rfl, ?_, ⟨_, rfl⟩, hW, hsame.mono (by decide) (by decide)⟩
 ·
  refine XS.aloadN X0.here hx rfl (hb hby d11_0) rfl rfl ?_
  show AT p e below s₁ m 1 #[rv a0, rv a1, un, un] [(.ref a0)] _
  refine XS.aloadN X0.here hx rfl (hb hby d11_1) rfl rfl ?_
  show AT p e below s₁ m 2 #[rv a0, rv a1, un, un] [(.ref a1), (.ref a0)] _
  refine st1.trans ?_
  show AT p e below T1 m 5 #[rv a0, rv a1, un, un] [(.int (1 : Int32)), (.ref a0)] _
  refine st2.trans ?_
  show AT p e below T2 m 8 #[rv a0, rv a1, un, un] [] _
  refine XS.iconst X2.here hx rfl (hb hby d11_8) ?_
  show AT p e below T2 m 9 #[rv a0, rv a1, un, un] [(.int (0 : Int32))] _
  refine XS.istoreN X2.here hx rfl (hb hby d11_9) rfl (l' := #[rv a0, rv a1, iv (0 : Int32), un]) rfl ?_
  show AT p e below T2 m 10 #[rv a0, rv a1, iv (0 : Int32), un] [] _
  refine XS.iloadN X2.here hx rfl (hb hby d11_10) rfl ?_
  show AT p e below T2 m 11 #[rv a0, rv a1, iv (0 : Int32), un] [(.int (0 : Int32))] _
  refine XS.aloadN X2.here hx rfl (hb hby d11_11) rfl rfl ?_
  show AT p e below T2 m 12 #[rv a0, rv a1, iv (0 : Int32), un] [(.ref a1), (.int (0 : Int32))] _
  refine st3.trans ?_
  show AT p e below T3 m 15 #[rv a0, rv a1, iv (0 : Int32), un] [(.int (1 : Int32)), (.int (0 : Int32))] _
  refine XS.icmpNo X3.here hx rfl (hb hby d11_15) rfl (XT.ii_ge_f ((by decide) : (0 : Int32) < (1 : Int32))) ?_
  show AT p e below T3 m 18 #[rv a0, rv a1, iv (0 : Int32), un] [] _
  refine XS.aloadN X3.here hx rfl (hb hby d11_18) rfl rfl ?_
  show AT p e below T3 m 19 #[rv a0, rv a1, iv (0 : Int32), un] [(.ref a1)] _
  refine XS.iloadN X3.here hx rfl (hb hby d11_19) rfl ?_
  show AT p e below T3 m 20 #[rv a0, rv a1, iv (0 : Int32), un] [(.int (0 : Int32)), (.ref a1)] _
  refine st4.trans ?_
  show AT p e below T4 m 23 #[rv a0, rv a1, iv (0 : Int32), un] [(.int (nar .char (nar .char ((y0 &&& (255 : Int32)).toUInt32.toUInt16.toUInt32.toInt32))))] _
  refine XS.istoreN X4.here hx rfl (hb hby d11_23) rfl (l' := #[rv a0, rv a1, iv (0 : Int32), iv (nar .char (nar .char ((y0 &&& (255 : Int32)).toUInt32.toUInt16.toUInt32.toInt32)))]) rfl ?_
  show AT p e below T4 m 24 #[rv a0, rv a1, iv (0 : Int32), iv (nar .char (nar .char ((y0 &&& (255 : Int32)).toUInt32.toUInt16.toUInt32.toInt32)))] [] _
  refine XS.iloadN X4.here hx rfl (hb hby d11_24) rfl ?_
  show AT p e below T4 m 25 #[rv a0, rv a1, iv (0 : Int32), iv (nar .char (nar .char ((y0 &&& (255 : Int32)).toUInt32.toUInt16.toUInt32.toInt32)))] [(.int (nar .char (nar .char ((y0 &&& (255 : Int32)).toUInt32.toUInt16.toUInt32.toInt32))))] _
  refine XS.bipush X4.here hx rfl (hb hby d11_25) ?_
  show AT p e below T4 m 27 #[rv a0, rv a1, iv (0 : Int32), iv (nar .char (nar .char ((y0 &&& (255 : Int32)).toUInt32.toUInt16.toUInt32.toInt32)))] [(.int (127 : Int32)), (.int (nar .char (nar .char ((y0 &&& (255 : Int32)).toUInt32.toUInt16.toUInt32.toInt32))))] _
  refine XS.icmpYes X4.here hx rfl (pc0 := 27) (pc' := 44) rfl (hb hby d11_27) rfl (XT.ii_le_t (l1 : ¬ ((127 : Int32) < (nar .char (nar .char ((y0 &&& (255 : Int32)).toUInt32.toUInt16.toUInt32.toInt32)))))) (by decide) (by decide) ?_
  show AT p e below T4 m 44 #[rv a0, rv a1, iv (0 : Int32), iv (nar .char (nar .char ((y0 &&& (255 : Int32)).toUInt32.toUInt16.toUInt32.toInt32)))] [] _
  refine XS.aloadN X4.here hx rfl (hb hby d11_44) rfl rfl ?_
  show AT p e below T4 m 45 #[rv a0, rv a1, iv (0 : Int32), iv (nar .char (nar .char ((y0 &&& (255 : Int32)).toUInt32.toUInt16.toUInt32.toInt32)))] [(.ref a0)] _
  refine st5 _ ?_
  show AT p e below T5 m 48 #[rv a0, rv a1, iv (0 : Int32), iv (nar .char (nar .char ((y0 &&& (255 : Int32)).toUInt32.toUInt16.toUInt32.toInt32)))] [(.ref w)] _
  refine XS.aloadN X5.here hx rfl (hb hby d11_48) rfl rfl ?_
  show AT p e below T5 m 49 #[rv a0, rv a1, iv (0 : Int32), iv (nar .char (nar .char ((y0 &&& (255 : Int32)).toUInt32.toUInt16.toUInt32.toInt32)))] [(.ref a0), (.ref w)] _
  refine XS.dup X5.here hx rfl (hb hby d11_49) rfl rfl ?_
  show AT p e below T5 m 50 #[rv a0, rv a1, iv (0 : Int32), iv (nar .char (nar .char ((y0 &&& (255 : Int32)).toUInt32.toUInt16.toUInt32.toInt32)))] [(.ref a0), (.ref a0), (.ref w)] _
  refine st6 _ ?_
  show AT p e below T6 m 53 #[rv a0, rv a1, iv (0 : Int32), iv (nar .char (nar .char ((y0 &&& (255 : Int32)).toUInt32.toUInt16.toUInt32.toInt32)))] [(.int (2 : Int32)), (.ref a0), (.ref w)] _
  refine XS.dupX1 X6.here hx rfl (hb hby d11_53) rfl rfl rfl ?_
  show AT p e below T6 m 54 #[rv a0, rv a1, iv (0 : Int32), iv (nar .char (nar .char ((y0 &&& (255 : Int32)).toUInt32.toUInt16.toUInt32.toInt32)))] [(.int (2 : Int32)), (.ref a0), (.int (2 : Int32)), (.ref w)] _
  refine XS.iconst X6.here hx rfl (hb hby d11_54) ?_
  show AT p e below T6 m 55 #[rv a0, rv a1, iv (0 : Int32), iv (nar .char (nar .char ((y0 &&& (255 : Int32)).toUInt32.toUInt16.toUInt32.toInt32)))] [(.int (1 : Int32)), (.int (2 : Int32)), (.ref a0), (.int (2 : Int32)), (.ref w)] _
  refine XS.iadd X6.here hx rfl (hb hby d11_55) rfl ?_
  show AT p e below T6 m 56 #[rv a0, rv a1, iv (0 : Int32), iv (nar .char (nar .char ((y0 &&& (255 : Int32)).toUInt32.toUInt16.toUInt32.toInt32)))] [(.int (3 : Int32)), (.ref a0), (.int (2 : Int32)), (.ref w)] _
  refine st7 _ ?_
  show AT p e below T7 m 59 #[rv a0, rv a1, iv (0 : Int32), iv (nar .char (nar .char ((y0 &&& (255 : Int32)).toUInt32.toUInt16.toUInt32.toInt32)))] [(.int (2 : Int32)), (.ref w)] _
  refine XS.iloadN X7.here hx rfl (hb hby d11_59) rfl ?_
  show AT p e below T7 m 60 #[rv a0, rv a1, iv (0 : Int32), iv (nar .char (nar .char ((y0 &&& (255 : Int32)).toUInt32.toUInt16.toUInt32.toInt32)))] [(.int (nar .char (nar .char ((y0 &&& (255 : Int32)).toUInt32.toUInt16.toUInt32.toInt32)))), (.int (2 : Int32)), (.ref w)] _
  refine XS.i2b X7.here hx rfl (hb hby d11_60) rfl ?_
  show AT p e below T7 m 61 #[rv a0, rv a1, iv (0 : Int32), iv (nar .char (nar .char ((y0 &&& (255 : Int32)).toUInt32.toUInt16.toUInt32.toInt32)))] [(.int ((nar .char (nar .char ((y0 &&& (255 : Int32)).toUInt32.toUInt16.toUInt32.toInt32))).toInt8.toInt32)), (.int (2 : Int32)), (.ref w)] _
  refine st16 _ ?_
  show AT p e below T16 m 62 #[rv a0, rv a1, iv (0 : Int32), iv (nar .char (nar .char ((y0 &&& (255 : Int32)).toUInt32.toUInt16.toUInt32.toInt32)))] [] _
  refine XS.iinc X16.here hx rfl (hb hby d11_62) rfl (l' := #[rv a0, rv a1, iv (1 : Int32), iv (nar .char (nar .char ((y0 &&& (255 : Int32)).toUInt32.toUInt16.toUInt32.toInt32)))]) rfl ?_
  show AT p e below T16 m 65 #[rv a0, rv a1, iv (1 : Int32), iv (nar .char (nar .char ((y0 &&& (255 : Int32)).toUInt32.toUInt16.toUInt32.toInt32)))] [] _
  refine XS.goto X16.here hx rfl (pc0 := 65) (pc' := 10) rfl (hb hby d11_65) (by decide) (by decide) ?_
  show AT p e below T16 m 10 #[rv a0, rv a1, iv (1 : Int32), iv (nar .char (nar .char ((y0 &&& (255 : Int32)).toUInt32.toUInt16.toUInt32.toInt32)))] [] _
  refine XS.iloadN X16.here hx rfl (hb hby d11_10) rfl ?_
  show AT p e below T16 m 11 #[rv a0, rv a1, iv (1 : Int32), iv (nar .char (nar .char ((y0 &&& (255 : Int32)).toUInt32.toUInt16.toUInt32.toInt32)))] [(.int (1 : Int32))] _
  refine XS.aloadN X16.here hx rfl (hb hby d11_11) rfl rfl ?_
  show AT p e below T16 m 12 #[rv a0, rv a1, iv (1 : Int32), iv (nar .char (nar .char ((y0 &&& (255 : Int32)).toUInt32.toUInt16.toUInt32.toInt32)))] [(.ref a1), (.int (1 : Int32))] _
  refine st25.trans ?_
  show AT p e below T25 m 15 #[rv a0, rv a1, iv (1 : Int32), iv (nar .char (nar .char ((y0 &&& (255 : Int32)).toUInt32.toUInt16.toUInt32.toInt32)))] [(.int (1 : Int32)), (.int (1 : Int32))] _
  refine XS.icmpYes X25.here hx rfl (pc0 := 15) (pc' := 68) rfl (hb hby d11_15) rfl (XT.ii_ge_t ((by decide) : ¬ ((1 : Int32) < (1 : Int32)))) (by decide) (by decide) ?_
  show AT p e below T25 m 68 #[rv a0, rv a1, iv (1 : Int32), iv (nar .char (nar .char ((y0 &&& (255 : Int32)).toUInt32.toUInt16.toUInt32.toInt32)))] [] _
  refine XS.aloadN X25.here hx rfl (hb hby d11_68) rfl rfl ?_
  show AT p e below T25 m 69 #[rv a0, rv a1, iv (1 : Int32), iv (nar .char (nar .char ((y0 &&& (255 : Int32)).toUInt32.toUInt16.toUInt32.toInt32)))] [(.ref a0)] _
  exact retOut X25 hx (t := (.object "com/example/polity/polity/io/saml/CanonicalXml")) (i := .areturn) Bd.returns rfl (Or.inr (Or.inr (Or.inr (Or.inr ⟨rfl, rfl, rfl⟩)))) (hb hby d11_69) hr
 ·
  show Q11_2 Z a0 a1 w_CS0 w_SF1 w kw x0 x1 x2 x3 x4 x5 x6 x7 u ku y0 h0 n0 _ T25.heap _
  rw [e25]
  exact ⟨rfl, N25, K16, E16_18, F16_19, F16_20, V16_17⟩

theorem d6_28 : decode method_3_code 28 = .ok (.aload_n 0, 1) := by decide +kernel
theorem d6_29 : decode method_3_code 29 = .ok (.iconst 1, 1) := by decide +kernel
theorem d6_30 : decode method_3_code 30 = .ok (.baload, 1) := by decide +kernel
theorem d6_31 : decode method_3_code 31 = .ok (.iload_n 3, 1) := by decide +kernel
theorem d6_32 : decode method_3_code 32 = .ok (.i2b, 1) := by decide +kernel
theorem d6_33 : decode method_3_code 33 = .ok (.if_icmp .eq 5, 3) := by decide +kernel
theorem d6_36 : decode method_3_code 36 = .ok (.iconst 0, 1) := by decide +kernel
theorem d6_37 : decode method_3_code 37 = .ok (.ireturn, 1) := by decide +kernel
theorem ef_6_2 (m : MethodId) (a0 : Addr) (p2 : Int32) (p3 : Int32) (p4 : Int32) : entryFrame m #[(.ref a0), (.int (2 : Int32)), (.int p2), (.int p3), (.int p4)] 5 = mkF m 0 #[rv a0, iv (2 : Int32), iv p2, iv p3, iv p4] [] := by first | (simp [entryFrame, mkF, argsToLocals, Value.category]; done) | rfl
def f6_2 (p2 : Int32) (p3 : Int32) (x0 : Int32) (x1 : Int32) : Int32 := if x0 = (p2.toInt8.toInt32) then (if x1 = (p3.toInt8.toInt32) then (1 : Int32) else (0 : Int32)) else ((0 : Int32))
def Q6_2 (Z : State) (a0 : Addr) (p2 : Int32) (p3 : Int32) (p4 : Int32) (kb : ClassId) (x0 : Int32) (x1 : Int32) (h0 : Heap) (n0 : Nat) (v : Option Value) (h : Heap) (L : List Loc) : Prop := v = some (.int (f6_2 p2 p3 x0 x1)) ∧ Fr n0 L ∧ h = h0
set_option maxRecDepth 65536 in
set_option maxHeartbeats 40000000 in
theorem rm6_2 (l : Launch) (Z : State) (ar : Array Value) (hw : ∀ d ∈ tables_1, d.before ar Z = true) (ws : List Jvm.Cond) (a0 : Addr) (p2 : Int32) (p3 : Int32) (p4 : Int32) (kb : ClassId) (x0 : Int32) (x1 : Int32) (h0 : Heap) (n0 : Nat) (O0 : Old Z n0 h0) (pf0 : Arv Z h0 a0 kb .byte (2 : Int32) [(.int x0), (.int x1)] (.int (0 : Int32))) :
    MetFree l y6 (head1 (Jvm.Cond.code y6 method_3_code 5 (some .boolean) :: ws) ({ frames := 0, cells := 0, slots := 0, locals := 0 } : Room)) (fun a U => a = #[(.ref a0), (.int (2 : Int32)), (.int p2), (.int p3), (.int p4)] ∧ Z.Warmed39 U.vm ∧ U.heap = h0) (fun _ _ _ _ _ => True) (fun _ U o U' => ∃ v L, o = .returned v ∧ Q6_2 Z a0 p2 p3 p4 kb x0 x1 h0 n0 v U'.heap L ∧ FrameEnd U o U' L ({ frames := 0, cells := 0, slots := 0, locals := 0 } : Room).cells ({ frames := 0, cells := 0, slots := 0, locals := 0 } : Room).slots) := by
 refine MetFree.of_bodySF (plainFor_of_name pn_5) hisR ?_
 intro p e s m args below meth c s₁ Bd hml0 hP hK
 obtain ⟨rfl, hZ, hh⟩ := hP
 have hx := Bd.exec
 have hby := Bd.bytes
 have hml : c.maxLocals = 5 := hml0
 have hown : s.vm.findClass "com/example/polity/polity/io/saml/CanonicalXmlToByteArrayPinLaw" = some m.cls := findClass_of_methodNamed Bd.named
 have hnm := (name_of_methodNamed Bd.named Bd.method).1
 have X0 : Stand p l e ({ frames := 0, cells := 0, slots := 0, locals := 0 } : Room) s m #[(.ref a0), (.int (2 : Int32)), (.int p2), (.int p3), (.int p4)] below meth c s₁ [] 0 0 := Stand.of_body Bd
 have e0 : s₁.heap = h0 := by rw [← hh, Bd.state]; rfl
 have N0 := Fr.nil n0
 have Z0 : n0 ≤ h0.size := Nat.le_trans (Nat.le_of_eq O0.1.symm) O0.2.1
 obtain ⟨S0, hS0⟩ : ∃ z, z = s₁.setTop (entryFrame m #[(.ref a0), (.int (2 : Int32)), (.int p2), (.int p3), (.int p4)] 5) := ⟨_, rfl⟩
 have pre0 : ∀ tg, AT p e below s₁ m 0 #[rv a0, iv (2 : Int32), iv p2, iv p3, iv p4] [] tg → Steps p.tables e below S0 tg := fun tg kg => by rw [hS0]; exact castTop (ef_6_2 m a0 p2 p3 p4) kg
 obtain ⟨cl1, Ar1, q1, S1, N1, H1, G1⟩ := id pf0
 obtain ⟨cl2, Ar2, q2, S2, N2, H2, G2⟩ := id pf0
 have hin2 := own_in (0 : Int32) S2 ⟨by decide, by decide⟩
 have hat2 : cl2.slots[((0 : Int32)).toNatClampNeg]? = some (.int x0) := Has.at H2 hin2 rfl
 have pre3 : ∀ tg, AT p e below s₁ m 18 #[rv a0, iv (2 : Int32), iv p2, iv p3, iv p4] [(.int (p2.toInt8.toInt32)), (.int x0)] tg → Steps p.tables e below S0 tg := fun tg kg => pre0 tg (by
  refine XS.aloadN X0.here hx rfl (hb hby d6_0) rfl rfl ?_
  show AT p e below s₁ m 1 #[rv a0, iv (2 : Int32), iv p2, iv p3, iv p4] [(.ref a0)] _
  refine X0.arraylength hx (by rw [e0]; exact Ar1.1) (State.isArrayOf_alike hZ.alike Ar1.2.1) (g := (mkF m 1 #[rv a0, iv (2 : Int32), iv p2, iv p3, iv p4] [(.ref a0)])) rfl rfl (hb hby d6_1) _ ?_
  rw [len_of S1 N1]
  show AT p e below s₁ m 2 #[rv a0, iv (2 : Int32), iv p2, iv p3, iv p4] [(.int (2 : Int32))] _
  refine XS.iloadN X0.here hx rfl (hb hby d6_2) rfl ?_
  show AT p e below s₁ m 3 #[rv a0, iv (2 : Int32), iv p2, iv p3, iv p4] [(.int (2 : Int32)), (.int (2 : Int32))] _
  refine XS.icmpYes X0.here hx rfl (pc0 := 3) (pc' := 8) rfl (hb hby d6_3) rfl (XT.ii_eq_t ((by decide) : (2 : Int32) = (2 : Int32))) (by decide) (by decide) ?_
  show AT p e below s₁ m 8 #[rv a0, iv (2 : Int32), iv p2, iv p3, iv p4] [] _
  refine XS.iloadN X0.here hx rfl (hb hby d6_8) rfl ?_
  show AT p e below s₁ m 9 #[rv a0, iv (2 : Int32), iv p2, iv p3, iv p4] [(.int (2 : Int32))] _
  refine XS.iconst X0.here hx rfl (hb hby d6_9) ?_
  show AT p e below s₁ m 10 #[rv a0, iv (2 : Int32), iv p2, iv p3, iv p4] [(.int (1 : Int32)), (.int (2 : Int32))] _
  refine XS.icmpNo X0.here hx rfl (hb hby d6_10) rfl (XT.ii_lt_f ((by decide) : ¬ ((2 : Int32) < (1 : Int32)))) ?_
  show AT p e below s₁ m 13 #[rv a0, iv (2 : Int32), iv p2, iv p3, iv p4] [] _
  refine XS.aloadN X0.here hx rfl (hb hby d6_13) rfl rfl ?_
  show AT p e below s₁ m 14 #[rv a0, iv (2 : Int32), iv p2, iv p3, iv p4] [(.ref a0)] _
  refine XS.iconst X0.here hx rfl (hb hby d6_14) ?_
  show AT p e below s₁ m 15 #[rv a0, iv (2 : Int32), iv p2, iv p3, iv p4] [(.int (0 : Int32)), (.ref a0)] _
  refine X0.baloadBytes hx (j := (0 : Int32)) (v := (.int x0)) (by rw [e0]; exact Ar2.1) (State.isArrayOf_alike hZ.alike Ar2.2.1) Ar2.2.2 hin2 hat2 (g := (mkF m 15 #[rv a0, iv (2 : Int32), iv p2, iv p3, iv p4] [(.int (0 : Int32)), (.ref a0)])) rfl rfl (hb hby d6_15) _ ?_
  show AT p e below s₁ m 16 #[rv a0, iv (2 : Int32), iv p2, iv p3, iv p4] [(.int x0)] _
  refine XS.iloadN X0.here hx rfl (hb hby d6_16) rfl ?_
  show AT p e below s₁ m 17 #[rv a0, iv (2 : Int32), iv p2, iv p3, iv p4] [(.int p2), (.int x0)] _
  refine XS.i2b X0.here hx rfl (hb hby d6_17) rfl ?_
  exact kg)
 rcases Decidable.em (x0 = (p2.toInt8.toInt32)) with hc4 | hc4
 ·
  obtain ⟨cl5, Ar5, q5, S5, N5, H5, G5⟩ := id pf0
  have hin5 := own_in (1 : Int32) S5 ⟨by decide, by decide⟩
  have hat5 : cl5.slots[((1 : Int32)).toNatClampNeg]? = some (.int x1) := Has.at H5 hin5 rfl
  have pre6 : ∀ tg, AT p e below s₁ m 33 #[rv a0, iv (2 : Int32), iv p2, iv p3, iv p4] [(.int (p3.toInt8.toInt32)), (.int x1)] tg → Steps p.tables e below S0 tg := fun tg kg => pre3 tg (by
   refine XS.icmpYes X0.here hx rfl (pc0 := 18) (pc' := 23) rfl (hb hby d6_18) rfl (XT.ii_eq_t hc4) (by decide) (by decide) ?_
   show AT p e below s₁ m 23 #[rv a0, iv (2 : Int32), iv p2, iv p3, iv p4] [] _
   refine XS.iloadN X0.here hx rfl (hb hby d6_23) rfl ?_
   show AT p e below s₁ m 24 #[rv a0, iv (2 : Int32), iv p2, iv p3, iv p4] [(.int (2 : Int32))] _
   refine XS.iconst X0.here hx rfl (hb hby d6_24) ?_
   show AT p e below s₁ m 25 #[rv a0, iv (2 : Int32), iv p2, iv p3, iv p4] [(.int (2 : Int32)), (.int (2 : Int32))] _
   refine XS.icmpNo X0.here hx rfl (hb hby d6_25) rfl (XT.ii_lt_f ((by decide) : ¬ ((2 : Int32) < (2 : Int32)))) ?_
   show AT p e below s₁ m 28 #[rv a0, iv (2 : Int32), iv p2, iv p3, iv p4] [] _
   refine XS.aloadN X0.here hx rfl (hb hby d6_28) rfl rfl ?_
   show AT p e below s₁ m 29 #[rv a0, iv (2 : Int32), iv p2, iv p3, iv p4] [(.ref a0)] _
   refine XS.iconst X0.here hx rfl (hb hby d6_29) ?_
   show AT p e below s₁ m 30 #[rv a0, iv (2 : Int32), iv p2, iv p3, iv p4] [(.int (1 : Int32)), (.ref a0)] _
   refine X0.baloadBytes hx (j := (1 : Int32)) (v := (.int x1)) (by rw [e0]; exact Ar5.1) (State.isArrayOf_alike hZ.alike Ar5.2.1) Ar5.2.2 hin5 hat5 (g := (mkF m 30 #[rv a0, iv (2 : Int32), iv p2, iv p3, iv p4] [(.int (1 : Int32)), (.ref a0)])) rfl rfl (hb hby d6_30) _ ?_
   show AT p e below s₁ m 31 #[rv a0, iv (2 : Int32), iv p2, iv p3, iv p4] [(.int x1)] _
   refine XS.iloadN X0.here hx rfl (hb hby d6_31) rfl ?_
   show AT p e below s₁ m 32 #[rv a0, iv (2 : Int32), iv p2, iv p3, iv p4] [(.int p3), (.int x1)] _
   refine XS.i2b X0.here hx rfl (hb hby d6_32) rfl ?_
   exact kg)
  rcases Decidable.em (x1 = (p3.toInt8.toInt32)) with hc7 | hc7
  ·
   obtain ⟨fs, hr, hrun, hended, hW, hsame⟩ := X0.leave (v := some (.int (1 : Int32))) (fun h => by rw [Bd.returns] at h; cases h)
   subst hS0
   refine ⟨_, _, pre6 _ ?_, hrun, hended, _, _, rfl, ?_, ⟨_, rfl⟩, hW, hsame.mono (by decide) (by decide)⟩
   ·
    refine XS.icmpYes X0.here hx rfl (pc0 := 33) (pc' := 38) rfl (hb hby d6_33) rfl (XT.ii_eq_t hc7) (by decide) (by decide) ?_
    show AT p e below s₁ m 38 #[rv a0, iv (2 : Int32), iv p2, iv p3, iv p4] [] _
    refine XS.iloadN X0.here hx rfl (hb hby d6_38) rfl ?_
    show AT p e below s₁ m 39 #[rv a0, iv (2 : Int32), iv p2, iv p3, iv p4] [(.int (2 : Int32))] _
    refine XS.iconst X0.here hx rfl (hb hby d6_39) ?_
    show AT p e below s₁ m 40 #[rv a0, iv (2 : Int32), iv p2, iv p3, iv p4] [(.int (3 : Int32)), (.int (2 : Int32))] _
    refine XS.icmpYes X0.here hx rfl (pc0 := 40) (pc' := 54) rfl (hb hby d6_40) rfl (XT.ii_lt_t ((by decide) : (2 : Int32) < (3 : Int32))) (by decide) (by decide) ?_
    show AT p e below s₁ m 54 #[rv a0, iv (2 : Int32), iv p2, iv p3, iv p4] [] _
    refine XS.iconst X0.here hx rfl (hb hby d6_54) ?_
    show AT p e below s₁ m 55 #[rv a0, iv (2 : Int32), iv p2, iv p3, iv p4] [(.int (1 : Int32))] _
    exact retN X0 hx (t := .boolean) Bd.returns (by simp) (hb hby d6_55) hr
   ·
    show Q6_2 Z a0 p2 p3 p4 kb x0 x1 h0 n0 _ s₁.heap _
    rw [e0]
    exact ⟨(by rw [f6_2, if_pos hc4, if_pos hc7]), N0, rfl⟩
  ·
   obtain ⟨fs, hr, hrun, hended, hW, hsame⟩ := X0.leave (v := some (.int (0 : Int32))) (fun h => by rw [Bd.returns] at h; cases h)
   subst hS0
   refine ⟨_, _, pre6 _ ?_, hrun, hended, _, _, rfl, ?_, ⟨_, rfl⟩, hW, hsame.mono (by decide) (by decide)⟩
   ·
    refine XS.icmpNo X0.here hx rfl (hb hby d6_33) rfl (XT.ii_eq_f hc7) ?_
    show AT p e below s₁ m 36 #[rv a0, iv (2 : Int32), iv p2, iv p3, iv p4] [] _
    refine XS.iconst X0.here hx rfl (hb hby d6_36) ?_
    show AT p e below s₁ m 37 #[rv a0, iv (2 : Int32), iv p2, iv p3, iv p4] [(.int (0 : Int32))] _
    exact retN X0 hx (t := .boolean) Bd.returns (by simp) (hb hby d6_37) hr
   ·
    show Q6_2 Z a0 p2 p3 p4 kb x0 x1 h0 n0 _ s₁.heap _
    rw [e0]
    exact ⟨(by rw [f6_2, if_pos hc4, if_neg hc7]), N0, rfl⟩
 ·
  obtain ⟨fs, hr, hrun, hended, hW, hsame⟩ := X0.leave (v := some (.int (0 : Int32))) (fun h => by rw [Bd.returns] at h; cases h)
  subst hS0
  refine ⟨_, _, pre3 _ ?_, hrun, hended, _, _, rfl, ?_, ⟨_, rfl⟩, hW, hsame.mono (by decide) (by decide)⟩
  ·
   refine XS.icmpNo X0.here hx rfl (hb hby d6_18) rfl (XT.ii_eq_f hc4) ?_
   show AT p e below s₁ m 21 #[rv a0, iv (2 : Int32), iv p2, iv p3, iv p4] [] _
   refine XS.iconst X0.here hx rfl (hb hby d6_21) ?_
   show AT p e below s₁ m 22 #[rv a0, iv (2 : Int32), iv p2, iv p3, iv p4] [(.int (0 : Int32))] _
   exact retN X0 hx (t := .boolean) Bd.returns (by simp) (hb hby d6_22) hr
  ·
   show Q6_2 Z a0 p2 p3 p4 kb x0 x1 h0 n0 _ s₁.heap _
   rw [e0]
   exact ⟨(by rw [f6_2, if_neg hc4]), N0, rfl⟩

theorem ef_4_3 (m : MethodId) (a0 : Addr) : entryFrame m #[(.ref a0), (.int (3 : Int32))] 3 = mkF m 0 #[rv a0, iv (3 : Int32), un] [] := by first | (simp [entryFrame, mkF, argsToLocals, Value.category]; done) | rfl
def Q4_3 (Z : State) (a0 : Addr) (kw : ClassId) (x0 : Int32) (x1 : Int32) (x2 : Int32) (x3 : Int32) (x4 : Int32) (x5 : Int32) (x6 : Int32) (x7 : Int32) (h0 : Heap) (n0 : Nat) (v : Option Value) (h : Heap) (L : List Loc) : Prop := ∃ (b : Addr) (kb : ClassId), v = some (.ref b) ∧ Fr n0 L ∧ Keep h0 h [] ∧ Arv Z h b kb .byte (3 : Int32) [(.int x0), (.int x1), (.int x2)] (.int (0 : Int32)) ∧ Exa Z h b "[B" ∧ h0.size ≤ b
set_option maxRecDepth 65536 in
set_option maxHeartbeats 40000000 in
theorem rm4_3 (l : Launch) (Z : State) (ar : Array Value) (hw : ∀ d ∈ tables_1, d.before ar Z = true) (ws : List Jvm.Cond) (a0 : Addr) (kw : ClassId) (x0 : Int32) (x1 : Int32) (x2 : Int32) (x3 : Int32) (x4 : Int32) (x5 : Int32) (x6 : Int32) (x7 : Int32) (h0 : Heap) (n0 : Nat) (O0 : Old Z n0 h0) (pf0 : Arv Z h0 a0 kw .byte (1024 : Int32) [(.int x0), (.int x1), (.int x2), (.int x3), (.int x4), (.int x5), (.int x6), (.int x7)] (.int (0 : Int32))) :
    MetFree l y4 (head1 (Jvm.Cond.code y4 jdk_65_method_121_code 3 (some (.array .byte)) :: ws) ({ frames := 1, cells := 1, slots := 3, locals := 18 } : Room)) (fun a U => a = #[(.ref a0), (.int (3 : Int32))] ∧ Z.Warmed39 U.vm ∧ U.heap = h0) (fun _ _ _ _ _ => True) (fun _ U o U' => ∃ v L, o = .returned v ∧ Q4_3 Z a0 kw x0 x1 x2 x3 x4 x5 x6 x7 h0 n0 v U'.heap L ∧ FrameEnd U o U' L ({ frames := 1, cells := 1, slots := 3, locals := 18 } : Room).cells ({ frames := 1, cells := 1, slots := 3, locals := 18 } : Room).slots) := by
 refine MetFree.of_bodySF (plainFor_of_name pn_4) hisR ?_
 intro p e s m args below meth c s₁ Bd hml0 hP hK
 obtain ⟨rfl, hZ, hh⟩ := hP
 have hx := Bd.exec
 have hby := Bd.bytes
 have hml : c.maxLocals = 3 := hml0
 have hown : s.vm.findClass "java/util/Arrays" = some m.cls := findClass_of_methodNamed Bd.named
 have hnm := (name_of_methodNamed Bd.named Bd.method).1
 have X0 : Stand p l e ({ frames := 1, cells := 1, slots := 3, locals := 18 } : Room) s m #[(.ref a0), (.int (3 : Int32))] below meth c s₁ [] 0 0 := Stand.of_body Bd
 have e0 : s₁.heap = h0 := by rw [← hh, Bd.state]; rfl
 have N0 := Fr.nil n0
 have Z0 : n0 ≤ h0.size := Nat.le_trans (Nat.le_of_eq O0.1.symm) O0.2.1
 obtain ⟨S0, hS0⟩ : ∃ z, z = s₁.setTop (entryFrame m #[(.ref a0), (.int (3 : Int32))] 3) := ⟨_, rfl⟩
 have pre0 : ∀ tg, AT p e below s₁ m 0 #[rv a0, iv (3 : Int32), un] [] tg → Steps p.tables e below S0 tg := fun tg kg => by rw [hS0]; exact castTop (ef_4_3 m a0) kg
 obtain ⟨cl1, Ar1, q1, S1, N1, H1, G1⟩ := id pf0
 obtain ⟨T2, h2, k2, X2, e2, E2, A2, B2, st2⟩ := newPE X0 hx hZ (ow hw 9 rfl) e0 (g := (mkF m 15 #[rv a0, iv (3 : Int32), un] [(.int (3 : Int32))])) rfl (hb hby d4_15) rfl (by decide) (cap := 3) (by decide) (by decide) (by decide) (by decide) (ad := "[B") (by decide)
 obtain ⟨b2, g2⟩ : ∃ z, z = h0.size := ⟨_, rfl⟩
 rw [← g2] at A2 B2 st2
 have ne2_3 : a0 ≠ b2 := Nat.ne_of_lt (Nat.lt_of_lt_of_le (pf0).lt (Nat.le_of_eq g2.symm))
 have gn2 : n0 ≤ b2 := Nat.le_trans (Nat.le_trans (Nat.le_of_eq O0.1.symm) O0.2.1) (Nat.le_of_eq g2.symm)
 have sz2 : h0.size ≤ b2 := Nat.le_trans (Keep.refl h0 []).1 (Nat.le_of_eq g2.symm)
 have V2_4 := pf0.ext E2
 have K2 := (Keep.refl h0 []).ext E2
 have O2 := O0.ext E2
 have V2_5 : Arv Z h2 b2 k2 .byte (3 : Int32) [(.int (0 : Int32)), (.int (0 : Int32)), (.int (0 : Int32))] (.int (0 : Int32)) := (Arv.new A2 (by decide)).pad (pad_rep [] (.int (0 : Int32)) 3)
 obtain ⟨cl6, Ar6, q6, S6, N6, H6, G6⟩ := id V2_4
 obtain ⟨_, _, ⟨T7, L7, k7, n7⟩, -, X7, ⟨Lc7, hQ7, l7, y7, z7⟩, st7⟩ := Jvm.LawKit.callS X2 hx (y := y5) hown (mvT hZ (ow hw 23 rfl)) (mvT hZ (ow hw 24 rfl)) (mvT hZ (ow hw 25 rfl)) (mvT hZ (ow hw 26 rfl)) (by decide) (backOf (W := 4) (rm5 l Z ar hw [] (1024 : Int32) (3 : Int32) h2 n0 O2) hZ (ow hw 26 rfl) (ow hw 25 rfl) (by decide) (by decide)) (g := (mkF m 25 #[rv a0, iv (3 : Int32), rv b2] [(.int (3 : Int32)), (.int (1024 : Int32)), (.int (0 : Int32)), (.ref b2), (.int (0 : Int32)), (.ref a0)])) rfl (by rw [hml]; rfl) (argsL := [(.int (1024 : Int32)), (.int (3 : Int32))]) (rest := [(.int (0 : Int32)), (.ref b2), (.int (0 : Int32)), (.ref a0)]) (lenOf pd_8 rfl) rfl (by show 2 * 0 + _ ≤ _; exact Nat.le_of_eq rfl) (hb hby d4_25) (fun _ _ => ⟨rfl, e2, (by decide : 1 + 0 ≤ _), (by decide : 3 + 0 ≤ _)⟩)
 dsimp only [Pt.U, Pt.locs, Pt.cells, Pt.slots] at X7 l7 y7 z7 st7 hQ7
 subst l7 y7 z7
 obtain ⟨rfl, N7q, e7⟩ := hQ7
 have N7 := Fr.app N0 N7q
 have r7 : (f5 (1024 : Int32) (3 : Int32)) = (3 : Int32) := by rw [f5, if_pos ((by decide) : (3 : Int32) < (1024 : Int32))] <;> decide
 rw [r7] at st7
 obtain ⟨T8, h8, L8, X8, e8, N8, Kq8, Vq8, st8⟩ := cpA X7 hx hZ hown (ow hw 27 rfl) (ow hw 30 rfl) (ow hw 28 rfl) (ow hw 29 rfl) e7 V2_4 V2_5 (us := [(.int x0), (.int x1), (.int x2)]) (Or.inl ⟨rfl, rfl⟩) (sp := (0 : Int32)) (dp := (0 : Int32)) (nn := (3 : Int32)) (by decide) (by decide) (by decide) (by decide) (by decide) rfl (Nat.le_of_ble_eq_true rfl) N7 gn2 (g := (mkF m 28 #[rv a0, iv (3 : Int32), rv b2] [(.int (3 : Int32)), (.int (0 : Int32)), (.ref b2), (.int (0 : Int32)), (.ref a0)])) rfl (by rw [hml]; rfl) rfl (hb hby d4_28) (by decide) (W := 0) (by show 2 * 0 + _ ≤ _; exact Nat.le_of_eq rfl) (by decide)
 have V8_9 : Arv Z h8 b2 k2 .byte (3 : Int32) [(.int x0), (.int x1), (.int x2)] (.int (0 : Int32)) := Vq8
 have V8_10 := V2_4.keep Kq8 (ninS ne2_3 nin0)
 have E8_11 := B2.keep Kq8
 have K8 := K2.trans Kq8 (allS (Or.inr sz2) all0)
 have O8 := O2.keep Kq8 (allS gn2 all0)
 obtain ⟨fs, hr, hrun, hended, hW, hsame⟩ := X8.leave (v := some (.ref b2)) (fun h => by rw [Bd.returns] at h; cases h)
 subst hS0
 refine ⟨_, _, pre0 _ ?_, hrun, hended, _, _, rfl, ?_, ⟨_, rfl⟩, hW, hsame.mono (by decide) (by decide)⟩
 ·
  refine XS.iloadN X0.here hx rfl (hb hby d4_0) rfl ?_
  show AT p e below s₁ m 1 #[rv a0, iv (3 : Int32), un] [(.int (3 : Int32))] _
  refine XS.aloadN X0.here hx rfl (hb hby d4_1) rfl rfl ?_
  show AT p e below s₁ m 2 #[rv a0, iv (3 : Int32), un] [(.ref a0), (.int (3 : Int32))] _
  refine X0.arraylength hx (by rw [e0]; exact Ar1.1) (State.isArrayOf_alike hZ.alike Ar1.2.1) (g := (mkF m 2 #[rv a0, iv (3 : Int32), un] [(.ref a0), (.int (3 : Int32))])) rfl rfl (hb hby d4_2) _ ?_
  rw [len_of S1 N1]
  show AT p e below s₁ m 3 #[rv a0, iv (3 : Int32), un] [(.int (1024 : Int32)), (.int (3 : Int32))] _
  refine XS.icmpYes X0.here hx rfl (pc0 := 3) (pc' := 14) rfl (hb hby d4_3) rfl (XT.ii_ne_t ((by decide) : ¬ ((3 : Int32) = (1024 : Int32)))) (by decide) (by decide) ?_
  show AT p e below s₁ m 14 #[rv a0, iv (3 : Int32), un] [] _
  refine XS.iloadN X0.here hx rfl (hb hby d4_14) rfl ?_
  show AT p e below s₁ m 15 #[rv a0, iv (3 : Int32), un] [(.int (3 : Int32))] _
  refine st2 _ ?_
  show AT p e below T2 m 17 #[rv a0, iv (3 : Int32), un] [(.ref b2)] _
  refine XS.astoreN X2.here hx rfl (hb hby d4_17) rfl rfl (l' := #[rv a0, iv (3 : Int32), rv b2]) rfl ?_
  show AT p e below T2 m 18 #[rv a0, iv (3 : Int32), rv b2] [] _
  refine XS.aloadN X2.here hx rfl (hb hby d4_18) rfl rfl ?_
  show AT p e below T2 m 19 #[rv a0, iv (3 : Int32), rv b2] [(.ref a0)] _
  refine XS.iconst X2.here hx rfl (hb hby d4_19) ?_
  show AT p e below T2 m 20 #[rv a0, iv (3 : Int32), rv b2] [(.int (0 : Int32)), (.ref a0)] _
  refine XS.aloadN X2.here hx rfl (hb hby d4_20) rfl rfl ?_
  show AT p e below T2 m 21 #[rv a0, iv (3 : Int32), rv b2] [(.ref b2), (.int (0 : Int32)), (.ref a0)] _
  refine XS.iconst X2.here hx rfl (hb hby d4_21) ?_
  show AT p e below T2 m 22 #[rv a0, iv (3 : Int32), rv b2] [(.int (0 : Int32)), (.ref b2), (.int (0 : Int32)), (.ref a0)] _
  refine XS.aloadN X2.here hx rfl (hb hby d4_22) rfl rfl ?_
  show AT p e below T2 m 23 #[rv a0, iv (3 : Int32), rv b2] [(.ref a0), (.int (0 : Int32)), (.ref b2), (.int (0 : Int32)), (.ref a0)] _
  refine X2.arraylength hx (by rw [e2]; exact Ar6.1) (State.isArrayOf_alike hZ.alike Ar6.2.1) (g := (mkF m 23 #[rv a0, iv (3 : Int32), rv b2] [(.ref a0), (.int (0 : Int32)), (.ref b2), (.int (0 : Int32)), (.ref a0)])) rfl rfl (hb hby d4_23) _ ?_
  rw [len_of S6 N6]
  show AT p e below T2 m 24 #[rv a0, iv (3 : Int32), rv b2] [(.int (1024 : Int32)), (.int (0 : Int32)), (.ref b2), (.int (0 : Int32)), (.ref a0)] _
  refine XS.iloadN X2.here hx rfl (hb hby d4_24) rfl ?_
  show AT p e below T2 m 25 #[rv a0, iv (3 : Int32), rv b2] [(.int (3 : Int32)), (.int (1024 : Int32)), (.int (0 : Int32)), (.ref b2), (.int (0 : Int32)), (.ref a0)] _
  refine st7 _ ?_
  show AT p e below T7 m 28 #[rv a0, iv (3 : Int32), rv b2] [(.int (3 : Int32)), (.int (0 : Int32)), (.ref b2), (.int (0 : Int32)), (.ref a0)] _
  refine st8 _ ?_
  show AT p e below T8 m 31 #[rv a0, iv (3 : Int32), rv b2] [] _
  refine XS.aloadN X8.here hx rfl (hb hby d4_31) rfl rfl ?_
  show AT p e below T8 m 32 #[rv a0, iv (3 : Int32), rv b2] [(.ref b2)] _
  exact retOut X8 hx (t := (.array .byte)) (i := .areturn) Bd.returns rfl (Or.inr (Or.inr (Or.inr (Or.inr ⟨rfl, rfl, rfl⟩)))) (hb hby d4_32) hr
 ·
  show Q4_3 Z a0 kw x0 x1 x2 x3 x4 x5 x6 x7 h0 n0 _ T8.heap _
  rw [e8]
  exact ⟨b2, k2, rfl, N8, K8, V8_9, E8_11, sz2⟩

theorem ef_3_3 (m : MethodId) (a0 : Addr) : entryFrame m #[(.ref a0)] 1 = mkF m 0 #[rv a0] [] := by first | (simp [entryFrame, mkF, argsToLocals, Value.category]; done) | rfl
def Q3_3 (Z : State) (a0 : Addr) (w : Addr) (kw : ClassId) (x0 : Int32) (x1 : Int32) (x2 : Int32) (x3 : Int32) (x4 : Int32) (x5 : Int32) (x6 : Int32) (x7 : Int32) (h0 : Heap) (n0 : Nat) (v : Option Value) (h : Heap) (L : List Loc) : Prop := ∃ (b : Addr) (kb : ClassId), v = some (.ref b) ∧ Fr n0 L ∧ Keep h0 h [] ∧ Arv Z h b kb .byte (3 : Int32) [(.int x0), (.int x1), (.int x2)] (.int (0 : Int32)) ∧ Exa Z h b "[B" ∧ h0.size ≤ b
set_option maxRecDepth 65536 in
set_option maxHeartbeats 40000000 in
theorem rm3_3 (l : Launch) (Z : State) (ar : Array Value) (hw : ∀ d ∈ tables_1, d.before ar Z = true) (ws : List Jvm.Cond) (a0 : Addr) (w : Addr) (kw : ClassId) (x0 : Int32) (x1 : Int32) (x2 : Int32) (x3 : Int32) (x4 : Int32) (x5 : Int32) (x6 : Int32) (x7 : Int32) (h0 : Heap) (n0 : Nat) (O0 : Old Z n0 h0) (pf0 : Exa Z h0 a0 "com/example/polity/polity/io/saml/CanonicalXml") (pf1 : Fld Z h0 a0 "com/example/polity/polity/io/saml/CanonicalXml" "bytes" "[B" (.ref w)) (pf2 : Arv Z h0 w kw .byte (1024 : Int32) [(.int x0), (.int x1), (.int x2), (.int x3), (.int x4), (.int x5), (.int x6), (.int x7)] (.int (0 : Int32))) (pf3 : Fld Z h0 a0 "com/example/polity/polity/io/saml/CanonicalXml" "length" "I" (.int (3 : Int32))) :
    MetFree l y3 (head1 (Jvm.Cond.code y3 prog_10_method_7_code 1 (some (.array .byte)) :: ws) ({ frames := 2, cells := 1, slots := 3, locals := 32 } : Room)) (fun a U => a = #[(.ref a0)] ∧ Z.Warmed39 U.vm ∧ U.heap = h0) (fun _ _ _ _ _ => True) (fun _ U o U' => ∃ v L, o = .returned v ∧ Q3_3 Z a0 w kw x0 x1 x2 x3 x4 x5 x6 x7 h0 n0 v U'.heap L ∧ FrameEnd U o U' L ({ frames := 2, cells := 1, slots := 3, locals := 32 } : Room).cells ({ frames := 2, cells := 1, slots := 3, locals := 32 } : Room).slots) := by
 refine MetFree.of_bodySF (plainFor_of_name pn_3) hisR ?_
 intro p e s m args below meth c s₁ Bd hml0 hP hK
 obtain ⟨rfl, hZ, hh⟩ := hP
 have hx := Bd.exec
 have hby := Bd.bytes
 have hml : c.maxLocals = 1 := hml0
 have hown : s.vm.findClass "com/example/polity/polity/io/saml/CanonicalXml" = some m.cls := findClass_of_methodNamed Bd.named
 have hnm := (name_of_methodNamed Bd.named Bd.method).1
 have X0 : Stand p l e ({ frames := 2, cells := 1, slots := 3, locals := 32 } : Room) s m #[(.ref a0)] below meth c s₁ [] 0 0 := Stand.of_body Bd
 have e0 : s₁.heap = h0 := by rw [← hh, Bd.state]; rfl
 have N0 := Fr.nil n0
 have Z0 : n0 ≤ h0.size := Nat.le_trans (Nat.le_of_eq O0.1.symm) O0.2.1
 obtain ⟨S0, hS0⟩ : ∃ z, z = s₁.setTop (entryFrame m #[(.ref a0)] 1) := ⟨_, rfl⟩
 have pre0 : ∀ tg, AT p e below s₁ m 0 #[rv a0] [] tg → Steps p.tables e below S0 tg := fun tg kg => by rw [hS0]; exact castTop (ef_3_3 m a0) kg
 obtain ⟨T1, X1, e1, st1⟩ := getF X0 hx hZ hown (host := "") (Or.inl (ow hw 10 rfl)) Via.refl e0 pf1 (g := (mkF m 1 #[rv a0] [(.ref a0)])) rfl rfl (hb hby d3_1)
 obtain ⟨T2, X2, e2, st2⟩ := getF X1 hx hZ hown (host := "") (Or.inl (ow hw 17 rfl)) Via.refl e1 pf3 (g := (mkF m 5 #[rv a0] [(.ref a0), (.ref w)])) rfl rfl (hb hby d3_5)
 obtain ⟨_, _, ⟨T3, L3, k3, n3⟩, -, X3, ⟨Lc3, hQ3, l3, y3, z3⟩, st3⟩ := Jvm.LawKit.callS X2 hx (y := y4) hown (mvT hZ (ow hw 19 rfl)) (mvT hZ (ow hw 20 rfl)) (mvT hZ (ow hw 21 rfl)) (mvT hZ (ow hw 22 rfl)) (by decide) (backOf (W := 0) (rm4_3 l Z ar hw [] w kw x0 x1 x2 x3 x4 x5 x6 x7 h0 n0 O0 pf2) hZ (ow hw 22 rfl) (ow hw 21 rfl) (by decide) (by decide)) (g := (mkF m 8 #[rv a0] [(.int (3 : Int32)), (.ref w)])) rfl (by rw [hml]; rfl) (argsL := [(.ref w), (.int (3 : Int32))]) (rest := []) (lenOf pd_9 rfl) rfl (by show 2 * 0 + _ ≤ _; exact Nat.le_of_eq rfl) (hb hby d3_8) (fun _ _ => ⟨rfl, e2, (by decide : 0 + 1 ≤ _), (by decide : 0 + 3 ≤ _)⟩)
 dsimp only [Pt.U, Pt.locs, Pt.cells, Pt.slots] at X3 l3 y3 z3 st3 hQ3
 subst l3 y3 z3
 obtain ⟨b_3, kb_3, rfl, N3q, Kq3, u3_0, u3_1, u3_2⟩ := hQ3
 have N3 := Fr.app N0 N3q
 have E3_4 := pf0.keep Kq3
 have F3_5 := pf1.keep Kq3 nin0
 have V3_6 := pf2.keep Kq3 nin0
 have F3_7 := pf3.keep Kq3 nin0
 have K3 := (Keep.refl h0 []).trans Kq3 all0
 have O3 := O0.keep Kq3 all0
 have sz8 : h0.size ≤ b_3 := Nat.le_trans (Keep.refl h0 []).1 u3_2
 have gn8 : n0 ≤ b_3 := Nat.le_trans (Nat.le_trans (Nat.le_of_eq O0.1.symm) O0.2.1) u3_2
 have ne9 : a0 ≠ b_3 := Nat.ne_of_lt (Nat.lt_of_lt_of_le (pf0).lt u3_2)
 have ne10 : w ≠ b_3 := Nat.ne_of_lt (Nat.lt_of_lt_of_le (pf2).lt u3_2)
 obtain ⟨fs, hr, hrun, hended, hW, hsame⟩ := X3.leave (v := some (.ref b_3)) (fun h => by rw [Bd.returns] at h; cases h)
 subst hS0
 refine ⟨_, _, pre0 _ ?_, hrun, hended, _, _, rfl, ?_, ⟨_, rfl⟩, hW, hsame.mono (by decide) (by decide)⟩
 ·
  refine XS.aloadN X0.here hx rfl (hb hby d3_0) rfl rfl ?_
  show AT p e below s₁ m 1 #[rv a0] [(.ref a0)] _
  refine st1 _ ?_
  show AT p e below T1 m 4 #[rv a0] [(.ref w)] _
  refine XS.aloadN X1.here hx rfl (hb hby d3_4) rfl rfl ?_
  show AT p e below T1 m 5 #[rv a0] [(.ref a0), (.ref w)] _
  refine st2 _ ?_
  show AT p e below T2 m 8 #[rv a0] [(.int (3 : Int32)), (.ref w)] _
  refine st3 _ ?_
  show AT p e below T3 m 11 #[rv a0] [(.ref b_3)] _
  exact retOut X3 hx (t := (.array .byte)) (i := .areturn) Bd.returns rfl (Or.inr (Or.inr (Or.inr (Or.inr ⟨rfl, rfl, rfl⟩)))) (hb hby d3_11) hr
 ·
  show Q3_3 Z a0 w kw x0 x1 x2 x3 x4 x5 x6 x7 h0 n0 _ T3.heap _
  exact ⟨b_3, kb_3, rfl, N3, K3, u3_0, u3_1, sz8⟩

theorem d6_43 : decode method_3_code 43 = .ok (.aload_n 0, 1) := by decide +kernel
theorem d6_44 : decode method_3_code 44 = .ok (.iconst 2, 1) := by decide +kernel
theorem d6_45 : decode method_3_code 45 = .ok (.baload, 1) := by decide +kernel
theorem d6_46 : decode method_3_code 46 = .ok (.iload 4, 2) := by decide +kernel
theorem d6_48 : decode method_3_code 48 = .ok (.i2b, 1) := by decide +kernel
theorem d6_49 : decode method_3_code 49 = .ok (.if_icmp .eq 5, 3) := by decide +kernel
theorem d6_52 : decode method_3_code 52 = .ok (.iconst 0, 1) := by decide +kernel
theorem d6_53 : decode method_3_code 53 = .ok (.ireturn, 1) := by decide +kernel
theorem ef_6_3 (m : MethodId) (a0 : Addr) (p2 : Int32) (p3 : Int32) (p4 : Int32) : entryFrame m #[(.ref a0), (.int (3 : Int32)), (.int p2), (.int p3), (.int p4)] 5 = mkF m 0 #[rv a0, iv (3 : Int32), iv p2, iv p3, iv p4] [] := by first | (simp [entryFrame, mkF, argsToLocals, Value.category]; done) | rfl
def f6_3 (p2 : Int32) (p3 : Int32) (p4 : Int32) (x0 : Int32) (x1 : Int32) (x2 : Int32) : Int32 := if x0 = (p2.toInt8.toInt32) then (if x1 = (p3.toInt8.toInt32) then (if x2 = (p4.toInt8.toInt32) then (1 : Int32) else (0 : Int32)) else ((0 : Int32))) else ((0 : Int32))
def Q6_3 (Z : State) (a0 : Addr) (p2 : Int32) (p3 : Int32) (p4 : Int32) (kb : ClassId) (x0 : Int32) (x1 : Int32) (x2 : Int32) (h0 : Heap) (n0 : Nat) (v : Option Value) (h : Heap) (L : List Loc) : Prop := v = some (.int (f6_3 p2 p3 p4 x0 x1 x2)) ∧ Fr n0 L ∧ h = h0
set_option maxRecDepth 65536 in
set_option maxHeartbeats 40000000 in
theorem rm6_3 (l : Launch) (Z : State) (ar : Array Value) (hw : ∀ d ∈ tables_1, d.before ar Z = true) (ws : List Jvm.Cond) (a0 : Addr) (p2 : Int32) (p3 : Int32) (p4 : Int32) (kb : ClassId) (x0 : Int32) (x1 : Int32) (x2 : Int32) (h0 : Heap) (n0 : Nat) (O0 : Old Z n0 h0) (pf0 : Arv Z h0 a0 kb .byte (3 : Int32) [(.int x0), (.int x1), (.int x2)] (.int (0 : Int32))) :
    MetFree l y6 (head1 (Jvm.Cond.code y6 method_3_code 5 (some .boolean) :: ws) ({ frames := 0, cells := 0, slots := 0, locals := 0 } : Room)) (fun a U => a = #[(.ref a0), (.int (3 : Int32)), (.int p2), (.int p3), (.int p4)] ∧ Z.Warmed39 U.vm ∧ U.heap = h0) (fun _ _ _ _ _ => True) (fun _ U o U' => ∃ v L, o = .returned v ∧ Q6_3 Z a0 p2 p3 p4 kb x0 x1 x2 h0 n0 v U'.heap L ∧ FrameEnd U o U' L ({ frames := 0, cells := 0, slots := 0, locals := 0 } : Room).cells ({ frames := 0, cells := 0, slots := 0, locals := 0 } : Room).slots) := by
 refine MetFree.of_bodySF (plainFor_of_name pn_5) hisR ?_
 intro p e s m args below meth c s₁ Bd hml0 hP hK
 obtain ⟨rfl, hZ, hh⟩ := hP
 have hx := Bd.exec
 have hby := Bd.bytes
 have hml : c.maxLocals = 5 := hml0
 have hown : s.vm.findClass "com/example/polity/polity/io/saml/CanonicalXmlToByteArrayPinLaw" = some m.cls := findClass_of_methodNamed Bd.named
 have hnm := (name_of_methodNamed Bd.named Bd.method).1
 have X0 : Stand p l e ({ frames := 0, cells := 0, slots := 0, locals := 0 } : Room) s m #[(.ref a0), (.int (3 : Int32)), (.int p2), (.int p3), (.int p4)] below meth c s₁ [] 0 0 := Stand.of_body Bd
 have e0 : s₁.heap = h0 := by rw [← hh, Bd.state]; rfl
 have N0 := Fr.nil n0
 have Z0 : n0 ≤ h0.size := Nat.le_trans (Nat.le_of_eq O0.1.symm) O0.2.1
 obtain ⟨S0, hS0⟩ : ∃ z, z = s₁.setTop (entryFrame m #[(.ref a0), (.int (3 : Int32)), (.int p2), (.int p3), (.int p4)] 5) := ⟨_, rfl⟩
 have pre0 : ∀ tg, AT p e below s₁ m 0 #[rv a0, iv (3 : Int32), iv p2, iv p3, iv p4] [] tg → Steps p.tables e below S0 tg := fun tg kg => by rw [hS0]; exact castTop (ef_6_3 m a0 p2 p3 p4) kg
 obtain ⟨cl1, Ar1, q1, S1, N1, H1, G1⟩ := id pf0
 obtain ⟨cl2, Ar2, q2, S2, N2, H2, G2⟩ := id pf0
 have hin2 := own_in (0 : Int32) S2 ⟨by decide, by decide⟩
 have hat2 : cl2.slots[((0 : Int32)).toNatClampNeg]? = some (.int x0) := Has.at H2 hin2 rfl
 have pre3 : ∀ tg, AT p e below s₁ m 18 #[rv a0, iv (3 : Int32), iv p2, iv p3, iv p4] [(.int (p2.toInt8.toInt32)), (.int x0)] tg → Steps p.tables e below S0 tg := fun tg kg => pre0 tg (by
  refine XS.aloadN X0.here hx rfl (hb hby d6_0) rfl rfl ?_
  show AT p e below s₁ m 1 #[rv a0, iv (3 : Int32), iv p2, iv p3, iv p4] [(.ref a0)] _
  refine X0.arraylength hx (by rw [e0]; exact Ar1.1) (State.isArrayOf_alike hZ.alike Ar1.2.1) (g := (mkF m 1 #[rv a0, iv (3 : Int32), iv p2, iv p3, iv p4] [(.ref a0)])) rfl rfl (hb hby d6_1) _ ?_
  rw [len_of S1 N1]
  show AT p e below s₁ m 2 #[rv a0, iv (3 : Int32), iv p2, iv p3, iv p4] [(.int (3 : Int32))] _
  refine XS.iloadN X0.here hx rfl (hb hby d6_2) rfl ?_
  show AT p e below s₁ m 3 #[rv a0, iv (3 : Int32), iv p2, iv p3, iv p4] [(.int (3 : Int32)), (.int (3 : Int32))] _
  refine XS.icmpYes X0.here hx rfl (pc0 := 3) (pc' := 8) rfl (hb hby d6_3) rfl (XT.ii_eq_t ((by decide) : (3 : Int32) = (3 : Int32))) (by decide) (by decide) ?_
  show AT p e below s₁ m 8 #[rv a0, iv (3 : Int32), iv p2, iv p3, iv p4] [] _
  refine XS.iloadN X0.here hx rfl (hb hby d6_8) rfl ?_
  show AT p e below s₁ m 9 #[rv a0, iv (3 : Int32), iv p2, iv p3, iv p4] [(.int (3 : Int32))] _
  refine XS.iconst X0.here hx rfl (hb hby d6_9) ?_
  show AT p e below s₁ m 10 #[rv a0, iv (3 : Int32), iv p2, iv p3, iv p4] [(.int (1 : Int32)), (.int (3 : Int32))] _
  refine XS.icmpNo X0.here hx rfl (hb hby d6_10) rfl (XT.ii_lt_f ((by decide) : ¬ ((3 : Int32) < (1 : Int32)))) ?_
  show AT p e below s₁ m 13 #[rv a0, iv (3 : Int32), iv p2, iv p3, iv p4] [] _
  refine XS.aloadN X0.here hx rfl (hb hby d6_13) rfl rfl ?_
  show AT p e below s₁ m 14 #[rv a0, iv (3 : Int32), iv p2, iv p3, iv p4] [(.ref a0)] _
  refine XS.iconst X0.here hx rfl (hb hby d6_14) ?_
  show AT p e below s₁ m 15 #[rv a0, iv (3 : Int32), iv p2, iv p3, iv p4] [(.int (0 : Int32)), (.ref a0)] _
  refine X0.baloadBytes hx (j := (0 : Int32)) (v := (.int x0)) (by rw [e0]; exact Ar2.1) (State.isArrayOf_alike hZ.alike Ar2.2.1) Ar2.2.2 hin2 hat2 (g := (mkF m 15 #[rv a0, iv (3 : Int32), iv p2, iv p3, iv p4] [(.int (0 : Int32)), (.ref a0)])) rfl rfl (hb hby d6_15) _ ?_
  show AT p e below s₁ m 16 #[rv a0, iv (3 : Int32), iv p2, iv p3, iv p4] [(.int x0)] _
  refine XS.iloadN X0.here hx rfl (hb hby d6_16) rfl ?_
  show AT p e below s₁ m 17 #[rv a0, iv (3 : Int32), iv p2, iv p3, iv p4] [(.int p2), (.int x0)] _
  refine XS.i2b X0.here hx rfl (hb hby d6_17) rfl ?_
  exact kg)
 rcases Decidable.em (x0 = (p2.toInt8.toInt32)) with hc4 | hc4
 ·
  obtain ⟨cl5, Ar5, q5, S5, N5, H5, G5⟩ := id pf0
  have hin5 := own_in (1 : Int32) S5 ⟨by decide, by decide⟩
  have hat5 : cl5.slots[((1 : Int32)).toNatClampNeg]? = some (.int x1) := Has.at H5 hin5 rfl
  have pre6 : ∀ tg, AT p e below s₁ m 33 #[rv a0, iv (3 : Int32), iv p2, iv p3, iv p4] [(.int (p3.toInt8.toInt32)), (.int x1)] tg → Steps p.tables e below S0 tg := fun tg kg => pre3 tg (by
   refine XS.icmpYes X0.here hx rfl (pc0 := 18) (pc' := 23) rfl (hb hby d6_18) rfl (XT.ii_eq_t hc4) (by decide) (by decide) ?_
   show AT p e below s₁ m 23 #[rv a0, iv (3 : Int32), iv p2, iv p3, iv p4] [] _
   refine XS.iloadN X0.here hx rfl (hb hby d6_23) rfl ?_
   show AT p e below s₁ m 24 #[rv a0, iv (3 : Int32), iv p2, iv p3, iv p4] [(.int (3 : Int32))] _
   refine XS.iconst X0.here hx rfl (hb hby d6_24) ?_
   show AT p e below s₁ m 25 #[rv a0, iv (3 : Int32), iv p2, iv p3, iv p4] [(.int (2 : Int32)), (.int (3 : Int32))] _
   refine XS.icmpNo X0.here hx rfl (hb hby d6_25) rfl (XT.ii_lt_f ((by decide) : ¬ ((3 : Int32) < (2 : Int32)))) ?_
   show AT p e below s₁ m 28 #[rv a0, iv (3 : Int32), iv p2, iv p3, iv p4] [] _
   refine XS.aloadN X0.here hx rfl (hb hby d6_28) rfl rfl ?_
   show AT p e below s₁ m 29 #[rv a0, iv (3 : Int32), iv p2, iv p3, iv p4] [(.ref a0)] _
   refine XS.iconst X0.here hx rfl (hb hby d6_29) ?_
   show AT p e below s₁ m 30 #[rv a0, iv (3 : Int32), iv p2, iv p3, iv p4] [(.int (1 : Int32)), (.ref a0)] _
   refine X0.baloadBytes hx (j := (1 : Int32)) (v := (.int x1)) (by rw [e0]; exact Ar5.1) (State.isArrayOf_alike hZ.alike Ar5.2.1) Ar5.2.2 hin5 hat5 (g := (mkF m 30 #[rv a0, iv (3 : Int32), iv p2, iv p3, iv p4] [(.int (1 : Int32)), (.ref a0)])) rfl rfl (hb hby d6_30) _ ?_
   show AT p e below s₁ m 31 #[rv a0, iv (3 : Int32), iv p2, iv p3, iv p4] [(.int x1)] _
   refine XS.iloadN X0.here hx rfl (hb hby d6_31) rfl ?_
   show AT p e below s₁ m 32 #[rv a0, iv (3 : Int32), iv p2, iv p3, iv p4] [(.int p3), (.int x1)] _
   refine XS.i2b X0.here hx rfl (hb hby d6_32) rfl ?_
   exact kg)
  rcases Decidable.em (x1 = (p3.toInt8.toInt32)) with hc7 | hc7
  ·
   obtain ⟨cl8, Ar8, q8, S8, N8, H8, G8⟩ := id pf0
   have hin8 := own_in (2 : Int32) S8 ⟨by decide, by decide⟩
   have hat8 : cl8.slots[((2 : Int32)).toNatClampNeg]? = some (.int x2) := Has.at H8 hin8 rfl
   have pre9 : ∀ tg, AT p e below s₁ m 49 #[rv a0, iv (3 : Int32), iv p2, iv p3, iv p4] [(.int (p4.toInt8.toInt32)), (.int x2)] tg → Steps p.tables e below S0 tg := fun tg kg => pre6 tg (by
    refine XS.icmpYes X0.here hx rfl (pc0 := 33) (pc' := 38) rfl (hb hby d6_33) rfl (XT.ii_eq_t hc7) (by decide) (by decide) ?_
    show AT p e below s₁ m 38 #[rv a0, iv (3 : Int32), iv p2, iv p3, iv p4] [] _
    refine XS.iloadN X0.here hx rfl (hb hby d6_38) rfl ?_
    show AT p e below s₁ m 39 #[rv a0, iv (3 : Int32), iv p2, iv p3, iv p4] [(.int (3 : Int32))] _
    refine XS.iconst X0.here hx rfl (hb hby d6_39) ?_
    show AT p e below s₁ m 40 #[rv a0, iv (3 : Int32), iv p2, iv p3, iv p4] [(.int (3 : Int32)), (.int (3 : Int32))] _
    refine XS.icmpNo X0.here hx rfl (hb hby d6_40) rfl (XT.ii_lt_f ((by decide) : ¬ ((3 : Int32) < (3 : Int32)))) ?_
    show AT p e below s₁ m 43 #[rv a0, iv (3 : Int32), iv p2, iv p3, iv p4] [] _
    refine XS.aloadN X0.here hx rfl (hb hby d6_43) rfl rfl ?_
    show AT p e below s₁ m 44 #[rv a0, iv (3 : Int32), iv p2, iv p3, iv p4] [(.ref a0)] _
    refine XS.iconst X0.here hx rfl (hb hby d6_44) ?_
    show AT p e below s₁ m 45 #[rv a0, iv (3 : Int32), iv p2, iv p3, iv p4] [(.int (2 : Int32)), (.ref a0)] _
    refine X0.baloadBytes hx (j := (2 : Int32)) (v := (.int x2)) (by rw [e0]; exact Ar8.1) (State.isArrayOf_alike hZ.alike Ar8.2.1) Ar8.2.2 hin8 hat8 (g := (mkF m 45 #[rv a0, iv (3 : Int32), iv p2, iv p3, iv p4] [(.int (2 : Int32)), (.ref a0)])) rfl rfl (hb hby d6_45) _ ?_
    show AT p e below s₁ m 46 #[rv a0, iv (3 : Int32), iv p2, iv p3, iv p4] [(.int x2)] _
    refine XS.iload X0.here hx rfl (hb hby d6_46) rfl ?_
    show AT p e below s₁ m 48 #[rv a0, iv (3 : Int32), iv p2, iv p3, iv p4] [(.int p4), (.int x2)] _
    refine XS.i2b X0.here hx rfl (hb hby d6_48) rfl ?_
    exact kg)
   rcases Decidable.em (x2 = (p4.toInt8.toInt32)) with hc10 | hc10
   ·
    obtain ⟨fs, hr, hrun, hended, hW, hsame⟩ := X0.leave (v := some (.int (1 : Int32))) (fun h => by rw [Bd.returns] at h; cases h)
    subst hS0
    refine ⟨_, _, pre9 _ ?_, hrun, hended, _, _, rfl, ?_, ⟨_, rfl⟩, hW, hsame.mono (by decide) (by decide)⟩
    ·
     refine XS.icmpYes X0.here hx rfl (pc0 := 49) (pc' := 54) rfl (hb hby d6_49) rfl (XT.ii_eq_t hc10) (by decide) (by decide) ?_
     show AT p e below s₁ m 54 #[rv a0, iv (3 : Int32), iv p2, iv p3, iv p4] [] _
     refine XS.iconst X0.here hx rfl (hb hby d6_54) ?_
     show AT p e below s₁ m 55 #[rv a0, iv (3 : Int32), iv p2, iv p3, iv p4] [(.int (1 : Int32))] _
     exact retN X0 hx (t := .boolean) Bd.returns (by simp) (hb hby d6_55) hr
    ·
     show Q6_3 Z a0 p2 p3 p4 kb x0 x1 x2 h0 n0 _ s₁.heap _
     rw [e0]
     exact ⟨(by rw [f6_3, if_pos hc4, if_pos hc7, if_pos hc10]), N0, rfl⟩
   ·
    obtain ⟨fs, hr, hrun, hended, hW, hsame⟩ := X0.leave (v := some (.int (0 : Int32))) (fun h => by rw [Bd.returns] at h; cases h)
    subst hS0
    refine ⟨_, _, pre9 _ ?_, hrun, hended, _, _, rfl, ?_, ⟨_, rfl⟩, hW, hsame.mono (by decide) (by decide)⟩
    ·
     refine XS.icmpNo X0.here hx rfl (hb hby d6_49) rfl (XT.ii_eq_f hc10) ?_
     show AT p e below s₁ m 52 #[rv a0, iv (3 : Int32), iv p2, iv p3, iv p4] [] _
     refine XS.iconst X0.here hx rfl (hb hby d6_52) ?_
     show AT p e below s₁ m 53 #[rv a0, iv (3 : Int32), iv p2, iv p3, iv p4] [(.int (0 : Int32))] _
     exact retN X0 hx (t := .boolean) Bd.returns (by simp) (hb hby d6_53) hr
    ·
     show Q6_3 Z a0 p2 p3 p4 kb x0 x1 x2 h0 n0 _ s₁.heap _
     rw [e0]
     exact ⟨(by rw [f6_3, if_pos hc4, if_pos hc7, if_neg hc10]), N0, rfl⟩
  ·
   obtain ⟨fs, hr, hrun, hended, hW, hsame⟩ := X0.leave (v := some (.int (0 : Int32))) (fun h => by rw [Bd.returns] at h; cases h)
   subst hS0
   refine ⟨_, _, pre6 _ ?_, hrun, hended, _, _, rfl, ?_, ⟨_, rfl⟩, hW, hsame.mono (by decide) (by decide)⟩
   ·
    refine XS.icmpNo X0.here hx rfl (hb hby d6_33) rfl (XT.ii_eq_f hc7) ?_
    show AT p e below s₁ m 36 #[rv a0, iv (3 : Int32), iv p2, iv p3, iv p4] [] _
    refine XS.iconst X0.here hx rfl (hb hby d6_36) ?_
    show AT p e below s₁ m 37 #[rv a0, iv (3 : Int32), iv p2, iv p3, iv p4] [(.int (0 : Int32))] _
    exact retN X0 hx (t := .boolean) Bd.returns (by simp) (hb hby d6_37) hr
   ·
    show Q6_3 Z a0 p2 p3 p4 kb x0 x1 x2 h0 n0 _ s₁.heap _
    rw [e0]
    exact ⟨(by rw [f6_3, if_pos hc4, if_neg hc7]), N0, rfl⟩
 ·
  obtain ⟨fs, hr, hrun, hended, hW, hsame⟩ := X0.leave (v := some (.int (0 : Int32))) (fun h => by rw [Bd.returns] at h; cases h)
  subst hS0
  refine ⟨_, _, pre3 _ ?_, hrun, hended, _, _, rfl, ?_, ⟨_, rfl⟩, hW, hsame.mono (by decide) (by decide)⟩
  ·
   refine XS.icmpNo X0.here hx rfl (hb hby d6_18) rfl (XT.ii_eq_f hc4) ?_
   show AT p e below s₁ m 21 #[rv a0, iv (3 : Int32), iv p2, iv p3, iv p4] [] _
   refine XS.iconst X0.here hx rfl (hb hby d6_21) ?_
   show AT p e below s₁ m 22 #[rv a0, iv (3 : Int32), iv p2, iv p3, iv p4] [(.int (0 : Int32))] _
   exact retN X0 hx (t := .boolean) Bd.returns (by simp) (hb hby d6_22) hr
  ·
   show Q6_3 Z a0 p2 p3 p4 kb x0 x1 x2 h0 n0 _ s₁.heap _
   rw [e0]
   exact ⟨(by rw [f6_3, if_neg hc4]), N0, rfl⟩


def ok7 (x : Int32) : Prop := 0 ≤ x.toInt ∧ x.toInt ≤ 127
theorem own_ok (x : Int32) : ok7 ((x &&& (127 : Int32)).toUInt32.toUInt16.toUInt32.toInt32) := by
  have a := c_and x (127 : Int32) (by decide)
  have b := c_i2c (x &&& (127 : Int32))
  have k : ((127 : Int32)).toInt = 127 := rfl
  unfold ok7; omega
theorem own_l255 (x : Int32) (h : ok7 x) : ¬ (255 : Int32) < x := by
  rw [Int32.lt_iff_toInt_lt]; have k : ((255 : Int32)).toInt = 255 := rfl; unfold ok7 at h; omega
theorem own_byte (x : Int32) (h : ok7 x) : x.toInt8.toInt32 = x := by
  have a := c_i2b x; unfold ok7 at h; rw [← Int32.toInt_inj]; omega
theorem own_bt (x : Int32) (h : ok7 x) : (nar .byte (x.toInt8.toInt32)) = x := by
  show ((x.toInt8.toInt32).toInt8.toInt32) = x
  rw [own_byte x h, own_byte x h]
theorem own_cc (x : Int32) (h : ok7 x) : (nar .char (nar .char ((x &&& (255 : Int32)).toUInt32.toUInt16.toUInt32.toInt32))) = x := by
  have e : x &&& (255 : Int32) = x := by
    rw [← Int32.toInt_inj, c_mask x (255 : Int32) 8 (by decide) (by decide)]; unfold ok7 at h; show x.toInt % 256 = x.toInt; omega
  have i : ∀ y : Int32, ok7 y → y.toUInt32.toUInt16.toUInt32.toInt32 = y := fun y hy => by
    have a := c_i2c y; unfold ok7 at hy; rw [← Int32.toInt_inj]; omega
  show (((x &&& (255 : Int32)).toUInt32.toUInt16.toUInt32.toInt32).toUInt32.toUInt16.toUInt32.toInt32).toUInt32.toUInt16.toUInt32.toInt32 = x
  rw [e, i x h, i x h, i x h]
theorem own_l127 (x : Int32) (h : ok7 x) : ¬ (127 : Int32) < (nar .char (nar .char (((nar .byte (x.toInt8.toInt32)) &&& (255 : Int32)).toUInt32.toUInt16.toUInt32.toInt32))) := by
  rw [own_bt x h, own_cc x h, Int32.lt_iff_toInt_lt]; have k : ((127 : Int32)).toInt = 127 := rfl; unfold ok7 at h; omega
theorem own_fin (x : Int32) (h : ok7 x) : (nar .byte ((nar .char (nar .char (((nar .byte (x.toInt8.toInt32)) &&& (255 : Int32)).toUInt32.toUInt16.toUInt32.toInt32))).toInt8.toInt32)) = x := by rw [own_bt x h, own_cc x h, own_bt x h]
theorem own_n (x : Int32) : (x &&& (3 : Int32)) = (0 : Int32) ∨ (x &&& (3 : Int32)) = (1 : Int32) ∨ (x &&& (3 : Int32)) = (2 : Int32) ∨ (x &&& (3 : Int32)) = (3 : Int32) := by
  have a := c_and x (3 : Int32) (by decide)
  have k : ((3 : Int32)).toInt = 3 := rfl
  have l0 : ((0 : Int32)).toInt = 0 := rfl
  have l1 : ((1 : Int32)).toInt = 1 := rfl
  have l2 : ((2 : Int32)).toInt = 2 := rfl
  simp only [← Int32.toInt_inj, l0, l1, l2, k]
  omega

theorem ef_0 (m : MethodId) (p0 : Int32) (p1 : Int32) (p2 : Int32) (p3 : Int32) : entryFrame m #[(.int p0), (.int p1), (.int p2), (.int p3)] maxLocals = mkF m 0 #[iv p0, iv p1, iv p2, iv p3, un, un, un, un, un, un, un, un] [] := by first | (simp [entryFrame, mkF, argsToLocals, Value.category, maxLocals]; done) | rfl
def Q0 (Z : State) (p0 : Int32) (p1 : Int32) (p2 : Int32) (p3 : Int32) (w_CS0 : Int32) (w_SF1 : Value) (h0 : Heap) (n0 : Nat) (v : Option Value) (h : Heap) (L : List Loc) : Prop := v = some (.int 1) ∧ Fr n0 L
set_option maxRecDepth 65536 in
set_option maxHeartbeats 40000000 in
theorem rm0 (l : Launch) (Z : State) (ar : Array Value) (hw : ∀ d ∈ tables_1, d.before ar Z = true) (ws : List Jvm.Cond) (p0 : Int32) (p1 : Int32) (p2 : Int32) (p3 : Int32) (w_CS0 : Int32) (w_SF1 : Value) (h0 : Heap) (n0 : Nat) (O0 : Old Z n0 h0) (HW : Wd Z w_CS0 w_SF1) :
    MetFree l x (head1 (Jvm.Cond.code x code maxLocals ret :: ws) room_1) (fun a U => a = #[(.int p0), (.int p1), (.int p2), (.int p3)] ∧ Z.Warmed39 U.vm ∧ U.heap = h0) (fun _ _ _ _ _ => True) (fun _ U o U' => ∃ v L, o = .returned v ∧ Q0 Z p0 p1 p2 p3 w_CS0 w_SF1 h0 n0 v U'.heap L ∧ FrameEnd U o U' L 32 2176) := by
 refine MetFree.of_bodySF (plainFor_of_name pn_5) hisR ?_
 intro p e s m args below meth c s₁ Bd hml0 hP hK
 obtain ⟨rfl, hZ, hh⟩ := hP
 have hx := Bd.exec
 have hby := Bd.bytes
 have hml : c.maxLocals = 12 := hml0
 have hown : s.vm.findClass "com/example/polity/polity/io/saml/CanonicalXmlToByteArrayPinLaw" = some m.cls := findClass_of_methodNamed Bd.named
 have hnm := (name_of_methodNamed Bd.named Bd.method).1
 have X0 : Stand p l e room_1 s m #[(.int p0), (.int p1), (.int p2), (.int p3)] below meth c s₁ [] 0 0 := Stand.of_body Bd
 have e0 : s₁.heap = h0 := by rw [← hh, Bd.state]; rfl
 have N0 := Fr.nil n0
 have Z0 : n0 ≤ h0.size := Nat.le_trans (Nat.le_of_eq O0.1.symm) O0.2.1
 obtain ⟨S0, hS0⟩ : ∃ z, z = s₁.setTop (entryFrame m #[(.int p0), (.int p1), (.int p2), (.int p3)] maxLocals) := ⟨_, rfl⟩
 have pre0 : ∀ tg, AT p e below s₁ m 0 #[iv p0, iv p1, iv p2, iv p3, un, un, un, un, un, un, un, un] [] tg → Steps p.tables e below S0 tg := fun tg kg => by rw [hS0]; exact castTop (ef_0 m p0 p1 p2 p3) kg
 obtain ⟨S_COMPACT_STRINGS, hz_w_CS0, S_SIOOBE_FORMATTER, ir_w_SF1⟩ := id HW
 have pre1 : ∀ tg, AT p e below s₁ m 5 #[iv p0, iv p1, iv p2, iv p3, iv (p0 &&& (3 : Int32)), un, un, un, un, un, un, un] [] tg → Steps p.tables e below S0 tg := fun tg kg => pre0 tg (by
  refine XS.iloadN X0.here hx rfl (hb hby at_0) rfl ?_
  show AT p e below s₁ m 1 #[iv p0, iv p1, iv p2, iv p3, un, un, un, un, un, un, un, un] [(.int p0)] _
  refine XS.iconst X0.here hx rfl (hb hby at_1) ?_
  show AT p e below s₁ m 2 #[iv p0, iv p1, iv p2, iv p3, un, un, un, un, un, un, un, un] [(.int (3 : Int32)), (.int p0)] _
  refine XS.iand X0.here hx rfl (hb hby at_2) rfl ?_
  show AT p e below s₁ m 3 #[iv p0, iv p1, iv p2, iv p3, un, un, un, un, un, un, un, un] [(.int (p0 &&& (3 : Int32)))] _
  refine XS.istore X0.here hx rfl (hb hby at_3) rfl (l' := #[iv p0, iv p1, iv p2, iv p3, iv (p0 &&& (3 : Int32)), un, un, un, un, un, un, un]) rfl ?_
  exact kg)
 obtain ⟨kk, hkk⟩ : ∃ z, z = (p0 &&& (3 : Int32)) := ⟨_, rfl⟩
 have pre2 : ∀ tg, AT p e below s₁ m 5 #[iv p0, iv p1, iv p2, iv p3, iv kk, un, un, un, un, un, un, un] [] tg → Steps p.tables e below S0 tg := by rw [hkk]; exact pre1
 have hskk : kk = (0 : Int32) ∨ kk = (1 : Int32) ∨ kk = (2 : Int32) ∨ kk = (3 : Int32) := by rw [hkk]; exact own_n p0
 rcases hskk with rfl | rfl | rfl | rfl
 ·
  have pre3 : ∀ tg, AT p e below s₁ m 12 #[iv p0, iv p1, iv p2, iv p3, iv (0 : Int32), iv ((p1 &&& (127 : Int32)).toUInt32.toUInt16.toUInt32.toInt32), un, un, un, un, un, un] [] tg → Steps p.tables e below S0 tg := fun tg kg => pre2 tg (by
   refine XS.iloadN X0.here hx rfl (hb hby at_5) rfl ?_
   show AT p e below s₁ m 6 #[iv p0, iv p1, iv p2, iv p3, iv (0 : Int32), un, un, un, un, un, un, un] [(.int p1)] _
   refine XS.bipush X0.here hx rfl (hb hby at_6) ?_
   show AT p e below s₁ m 8 #[iv p0, iv p1, iv p2, iv p3, iv (0 : Int32), un, un, un, un, un, un, un] [(.int (127 : Int32)), (.int p1)] _
   refine XS.iand X0.here hx rfl (hb hby at_8) rfl ?_
   show AT p e below s₁ m 9 #[iv p0, iv p1, iv p2, iv p3, iv (0 : Int32), un, un, un, un, un, un, un] [(.int (p1 &&& (127 : Int32)))] _
   refine XS.i2c X0.here hx rfl (hb hby at_9) rfl ?_
   show AT p e below s₁ m 10 #[iv p0, iv p1, iv p2, iv p3, iv (0 : Int32), un, un, un, un, un, un, un] [(.int ((p1 &&& (127 : Int32)).toUInt32.toUInt16.toUInt32.toInt32))] _
   refine XS.istore X0.here hx rfl (hb hby at_10) rfl (l' := #[iv p0, iv p1, iv p2, iv p3, iv (0 : Int32), iv ((p1 &&& (127 : Int32)).toUInt32.toUInt16.toUInt32.toInt32), un, un, un, un, un, un]) rfl ?_
   exact kg)
  obtain ⟨ca, hca⟩ : ∃ z, z = ((p1 &&& (127 : Int32)).toUInt32.toUInt16.toUInt32.toInt32) := ⟨_, rfl⟩
  have pre4 : ∀ tg, AT p e below s₁ m 12 #[iv p0, iv p1, iv p2, iv p3, iv (0 : Int32), iv ca, un, un, un, un, un, un] [] tg → Steps p.tables e below S0 tg := by rw [hca]; exact pre3
  have okca : ok7 ca := by rw [hca]; exact own_ok p1
  have pre5 : ∀ tg, AT p e below s₁ m 19 #[iv p0, iv p1, iv p2, iv p3, iv (0 : Int32), iv ca, iv ((p2 &&& (127 : Int32)).toUInt32.toUInt16.toUInt32.toInt32), un, un, un, un, un] [] tg → Steps p.tables e below S0 tg := fun tg kg => pre4 tg (by
   refine XS.iloadN X0.here hx rfl (hb hby at_12) rfl ?_
   show AT p e below s₁ m 13 #[iv p0, iv p1, iv p2, iv p3, iv (0 : Int32), iv ca, un, un, un, un, un, un] [(.int p2)] _
   refine XS.bipush X0.here hx rfl (hb hby at_13) ?_
   show AT p e below s₁ m 15 #[iv p0, iv p1, iv p2, iv p3, iv (0 : Int32), iv ca, un, un, un, un, un, un] [(.int (127 : Int32)), (.int p2)] _
   refine XS.iand X0.here hx rfl (hb hby at_15) rfl ?_
   show AT p e below s₁ m 16 #[iv p0, iv p1, iv p2, iv p3, iv (0 : Int32), iv ca, un, un, un, un, un, un] [(.int (p2 &&& (127 : Int32)))] _
   refine XS.i2c X0.here hx rfl (hb hby at_16) rfl ?_
   show AT p e below s₁ m 17 #[iv p0, iv p1, iv p2, iv p3, iv (0 : Int32), iv ca, un, un, un, un, un, un] [(.int ((p2 &&& (127 : Int32)).toUInt32.toUInt16.toUInt32.toInt32))] _
   refine XS.istore X0.here hx rfl (hb hby at_17) rfl (l' := #[iv p0, iv p1, iv p2, iv p3, iv (0 : Int32), iv ca, iv ((p2 &&& (127 : Int32)).toUInt32.toUInt16.toUInt32.toInt32), un, un, un, un, un]) rfl ?_
   exact kg)
  obtain ⟨cb, hcb⟩ : ∃ z, z = ((p2 &&& (127 : Int32)).toUInt32.toUInt16.toUInt32.toInt32) := ⟨_, rfl⟩
  have pre6 : ∀ tg, AT p e below s₁ m 19 #[iv p0, iv p1, iv p2, iv p3, iv (0 : Int32), iv ca, iv cb, un, un, un, un, un] [] tg → Steps p.tables e below S0 tg := by rw [hcb]; exact pre5
  have okcb : ok7 cb := by rw [hcb]; exact own_ok p2
  have pre7 : ∀ tg, AT p e below s₁ m 26 #[iv p0, iv p1, iv p2, iv p3, iv (0 : Int32), iv ca, iv cb, iv ((p3 &&& (127 : Int32)).toUInt32.toUInt16.toUInt32.toInt32), un, un, un, un] [] tg → Steps p.tables e below S0 tg := fun tg kg => pre6 tg (by
   refine XS.iloadN X0.here hx rfl (hb hby at_19) rfl ?_
   show AT p e below s₁ m 20 #[iv p0, iv p1, iv p2, iv p3, iv (0 : Int32), iv ca, iv cb, un, un, un, un, un] [(.int p3)] _
   refine XS.bipush X0.here hx rfl (hb hby at_20) ?_
   show AT p e below s₁ m 22 #[iv p0, iv p1, iv p2, iv p3, iv (0 : Int32), iv ca, iv cb, un, un, un, un, un] [(.int (127 : Int32)), (.int p3)] _
   refine XS.iand X0.here hx rfl (hb hby at_22) rfl ?_
   show AT p e below s₁ m 23 #[iv p0, iv p1, iv p2, iv p3, iv (0 : Int32), iv ca, iv cb, un, un, un, un, un] [(.int (p3 &&& (127 : Int32)))] _
   refine XS.i2c X0.here hx rfl (hb hby at_23) rfl ?_
   show AT p e below s₁ m 24 #[iv p0, iv p1, iv p2, iv p3, iv (0 : Int32), iv ca, iv cb, un, un, un, un, un] [(.int ((p3 &&& (127 : Int32)).toUInt32.toUInt16.toUInt32.toInt32))] _
   refine XS.istore X0.here hx rfl (hb hby at_24) rfl (l' := #[iv p0, iv p1, iv p2, iv p3, iv (0 : Int32), iv ca, iv cb, iv ((p3 &&& (127 : Int32)).toUInt32.toUInt16.toUInt32.toInt32), un, un, un, un]) rfl ?_
   exact kg)
  obtain ⟨cz, hcz⟩ : ∃ z, z = ((p3 &&& (127 : Int32)).toUInt32.toUInt16.toUInt32.toInt32) := ⟨_, rfl⟩
  have pre8 : ∀ tg, AT p e below s₁ m 26 #[iv p0, iv p1, iv p2, iv p3, iv (0 : Int32), iv ca, iv cb, iv cz, un, un, un, un] [] tg → Steps p.tables e below S0 tg := by rw [hcz]; exact pre7
  have okcz : ok7 cz := by rw [hcz]; exact own_ok p3
  obtain ⟨T9, h9, X9, e9, E9, A9, D9, -, st9⟩ := newO X0 hx hZ hown (ow hw 0 rfl) (ow hw 1 rfl) (ow hw 2 rfl) e0 (g := (mkF m 26 #[iv p0, iv p1, iv p2, iv p3, iv (0 : Int32), iv ca, iv cb, iv cz, un, un, un, un] [])) rfl (hb hby at_26) (by decide) (by decide)
  obtain ⟨b9, g9⟩ : ∃ z, z = h0.size := ⟨_, rfl⟩
  rw [← g9] at A9 D9 st9
  have gn9 : n0 ≤ b9 := Nat.le_trans (Nat.le_trans (Nat.le_of_eq O0.1.symm) O0.2.1) (Nat.le_of_eq g9.symm)
  have sz9 : h0.size ≤ b9 := Nat.le_trans (Keep.refl h0 []).1 (Nat.le_of_eq g9.symm)
  have K9 := (Keep.refl h0 []).ext E9
  have O9 := O0.ext E9
  have F9_10 : Fld Z h9 b9 "com/example/polity/polity/io/saml/CanonicalXml" "bytes" "[B" .null := D9 (Or.inl (ow hw 11 rfl)) (ty := (.array .byte)) (by decide)
  have F9_11 : Fld Z h9 b9 "com/example/polity/polity/io/saml/CanonicalXml" "length" "I" (.int (0 : Int32)) := D9 (Or.inl (ow hw 18 rfl)) (ty := .int) (by decide)
  obtain ⟨_, _, ⟨T12, L12, k12, n12⟩, -, X12, ⟨Lc12, hQ12, l12, y12, z12⟩, st12⟩ := X9.specialBack hx (y := y1) rfl hown (mvT hZ (ow hw 3 rfl)) (mvT hZ (ow hw 4 rfl)) (mvT hZ (ow hw 5 rfl)) (by decide) (backOf (W := 1) (rm1 l Z ar hw [] b9 h9 n0 O9 A9 F9_10 F9_11 gn9) hZ (ow hw 5 rfl) (ow hw 2 rfl) (by decide) (by decide)) (g := (mkF m 30 #[iv p0, iv p1, iv p2, iv p3, iv (0 : Int32), iv ca, iv cb, iv cz, un, un, un, un] [(.ref b9), (.ref b9)])) rfl (by rw [hml]; rfl) (Steps.refl _) (a := b9) (argsL := []) (rest := [(.ref b9)]) (lenOf pd_13 rfl) rfl (by show 2 * 0 + _ ≤ _; exact Nat.le_of_eq rfl) (hb hby at_30) (fun _ _ => ⟨rfl, e9, (by decide : 1 + 1 ≤ _), (by decide : 2 + 1024 ≤ _)⟩)
  dsimp only [Pt.U, Pt.locs, Pt.cells, Pt.slots] at X12 l12 y12 z12 st12 hQ12
  subst l12 y12 z12
  obtain ⟨b_12, kb_12, rfl, N12q, Kq12, u12_0, u12_1, u12_2, u12_3, u12_4, u12_5, u12_6⟩ := hQ12
  have N12 := Fr.app N0 N12q
  have E12_13 := A9.keep Kq12
  have K12 := K9.trans Kq12 (allS (Or.inr sz9) all0)
  have O12 := O9.keep Kq12 (allS gn9 all0)
  have sz14 : h0.size ≤ b_12 := Nat.le_trans K9.1 u12_5
  have gn14 : n0 ≤ b_12 := Nat.le_trans (Nat.le_trans (Nat.le_of_eq O9.1.symm) O9.2.1) u12_5
  have ne15 : b9 ≠ b_12 := Nat.ne_of_lt (Nat.lt_of_lt_of_le (A9).lt u12_5)
  obtain ⟨cq16, kq16, q16a, q16b, q16c⟩ := isOf hZ rfl E12_13
  obtain ⟨_, _, ⟨T16, L16, k16, n16⟩, -, X16, ⟨Lc16, hQ16, l16, y16, z16⟩, st16⟩ := X12.virtualBack hx (y := y3) (z := y3) hown (mvT hZ (ow hw 12 rfl)) (mvT hZ (ow hw 13 rfl)) (notFace_of_selects (args := #[]) (mvT hZ (ow hw 15 rfl))) (mvT hZ (ow hw 15 rfl)) (mvT hZ (ow hw 14 rfl)) (by decide) (backOf (W := 0) (rm3_0 l Z ar hw [] b9 b_12 kb_12 (0 : Int32) (0 : Int32) (0 : Int32) (0 : Int32) (0 : Int32) (0 : Int32) (0 : Int32) (0 : Int32) T12.heap n0 O12 E12_13 u12_1 u12_3 u12_2) hZ (ow hw 16 rfl) (ow hw 2 rfl) (by decide) (by decide)) q16a q16c (g := (mkF m 37 #[iv p0, iv p1, iv p2, iv p3, iv (0 : Int32), iv ca, iv cb, iv cz, rv b9, un, un, un] [(.ref b9)])) rfl (by rw [hml]; rfl) (Steps.refl _) (argsL := []) (rest := []) (lenOf pd_14 rfl) rfl (by show 2 * 0 + _ ≤ _; exact Nat.le_of_eq rfl) (hb hby at_37) (fun _ _ => ⟨rfl, rfl, (by decide : 2 + 1 ≤ _), (by decide : 1026 + 0 ≤ _)⟩)
  dsimp only [Pt.U, Pt.locs, Pt.cells, Pt.slots] at X16 l16 y16 z16 st16 hQ16
  subst l16 y16 z16
  obtain ⟨b_16, kb_16, rfl, N16q, Kq16, u16_0, u16_1, u16_2⟩ := hQ16
  have N16 := Fr.app N12 N16q
  have E16_17 := E12_13.keep Kq16
  have F16_18 := u12_1.keep Kq16 nin0
  have F16_19 := u12_2.keep Kq16 nin0
  have V16_20 := u12_3.keep Kq16 nin0
  have E16_21 := u12_4.keep Kq16
  have K16 := K12.trans Kq16 all0
  have O16 := O12.keep Kq16 all0
  have sz22 : h0.size ≤ b_16 := Nat.le_trans K12.1 u16_2
  have gn22 : n0 ≤ b_16 := Nat.le_trans (Nat.le_trans (Nat.le_of_eq O12.1.symm) O12.2.1) u16_2
  have ne23 : b9 ≠ b_16 := Nat.ne_of_lt (Nat.lt_of_lt_of_le (E12_13).lt u16_2)
  have ne24 : b_12 ≠ b_16 := Nat.ne_of_lt (Nat.lt_of_lt_of_le (u12_3).lt u16_2)
  obtain ⟨cl25, Ar25, q25, S25, N25, H25, G25⟩ := id u16_0
  obtain ⟨cq26, kq26, q26a, q26b, q26c⟩ := isOf hZ rfl E16_17
  obtain ⟨_, _, ⟨T26, L26, k26, n26⟩, -, X26, ⟨Lc26, hQ26, l26, y26, z26⟩, st26⟩ := X16.virtualBack hx (y := y3) (z := y3) hown (mvT hZ (ow hw 12 rfl)) (mvT hZ (ow hw 13 rfl)) (notFace_of_selects (args := #[]) (mvT hZ (ow hw 15 rfl))) (mvT hZ (ow hw 15 rfl)) (mvT hZ (ow hw 14 rfl)) (by decide) (backOf (W := 0) (rm3_0 l Z ar hw [] b9 b_12 kb_12 (0 : Int32) (0 : Int32) (0 : Int32) (0 : Int32) (0 : Int32) (0 : Int32) (0 : Int32) (0 : Int32) T16.heap n0 O16 E16_17 F16_18 V16_20 F16_19) hZ (ow hw 16 rfl) (ow hw 2 rfl) (by decide) (by decide)) q26a q26c (g := (mkF m 103 #[iv p0, iv p1, iv p2, iv p3, iv (0 : Int32), iv ca, iv cb, iv cz, rv b9, rv b_16, un, un] [(.ref b9)])) rfl (by rw [hml]; rfl) (Steps.refl _) (argsL := []) (rest := []) (lenOf pd_14 rfl) rfl (by show 2 * 0 + _ ≤ _; exact Nat.le_of_eq rfl) (hb hby at_103) (fun _ _ => ⟨rfl, rfl, (by decide : 3 + 1 ≤ _), (by decide : 1026 + 0 ≤ _)⟩)
  dsimp only [Pt.U, Pt.locs, Pt.cells, Pt.slots] at X26 l26 y26 z26 st26 hQ26
  subst l26 y26 z26
  obtain ⟨b_26, kb_26, rfl, N26q, Kq26, u26_0, u26_1, u26_2⟩ := hQ26
  have N26 := Fr.app N16 N26q
  have E26_27 := E16_17.keep Kq26
  have F26_28 := F16_18.keep Kq26 nin0
  have F26_29 := F16_19.keep Kq26 nin0
  have V26_30 := V16_20.keep Kq26 nin0
  have E26_31 := E16_21.keep Kq26
  have V26_32 := u16_0.keep Kq26 nin0
  have E26_33 := u16_1.keep Kq26
  have K26 := K16.trans Kq26 all0
  have O26 := O16.keep Kq26 all0
  have sz34 : h0.size ≤ b_26 := Nat.le_trans K16.1 u26_2
  have gn34 : n0 ≤ b_26 := Nat.le_trans (Nat.le_trans (Nat.le_of_eq O16.1.symm) O16.2.1) u26_2
  have ne35 : b9 ≠ b_26 := Nat.ne_of_lt (Nat.lt_of_lt_of_le (E16_17).lt u26_2)
  have ne36 : b_12 ≠ b_26 := Nat.ne_of_lt (Nat.lt_of_lt_of_le (V16_20).lt u26_2)
  have ne37 : b_16 ≠ b_26 := Nat.ne_of_lt (Nat.lt_of_lt_of_le (u16_0).lt u26_2)
  obtain ⟨_, _, ⟨T38, L38, k38, n38⟩, -, X38, ⟨Lc38, hQ38, l38, y38, z38⟩, st38⟩ := Jvm.LawKit.callS X26 hx (y := y6) hown (mvT hZ (ow hw 31 rfl)) (mvT hZ (ow hw 32 rfl)) (mvT hZ (ow hw 33 rfl)) (mvT hZ (ow hw 34 rfl)) (by decide) (backOf (W := 0) (rm6_0 l Z ar hw [] b_26 ca cb cz kb_26 T26.heap n0 O26 u26_0) hZ (ow hw 34 rfl) (ow hw 33 rfl) (by decide) (by decide)) (g := (mkF m 118 #[iv p0, iv p1, iv p2, iv p3, iv (0 : Int32), iv ca, iv cb, iv cz, rv b9, rv b_16, rv b_26, un] [(.int cz), (.int cb), (.int ca), (.int (0 : Int32)), (.ref b_26)])) rfl (by rw [hml]; rfl) (argsL := [(.ref b_26), (.int (0 : Int32)), (.int ca), (.int cb), (.int cz)]) (rest := []) (lenOf pd_15 rfl) rfl (by show 2 * 0 + _ ≤ _; exact Nat.le_of_eq rfl) (hb hby at_118) (fun _ _ => ⟨rfl, rfl, (by decide : 4 + 0 ≤ _), (by decide : 1026 + 0 ≤ _)⟩)
  dsimp only [Pt.U, Pt.locs, Pt.cells, Pt.slots] at X38 l38 y38 z38 st38 hQ38
  subst l38 y38 z38
  obtain ⟨rfl, N38q, e38⟩ := hQ38
  have N38 := Fr.app N26 N38q
  obtain ⟨cq39, kq39, q39a, q39b, q39c⟩ := isOf hZ e38 E26_27
  obtain ⟨_, _, ⟨T39, L39, k39, n39⟩, -, X39, ⟨Lc39, hQ39, l39, y39, z39⟩, st39⟩ := X38.virtualBack hx (y := y3) (z := y3) hown (mvT hZ (ow hw 12 rfl)) (mvT hZ (ow hw 13 rfl)) (notFace_of_selects (args := #[]) (mvT hZ (ow hw 15 rfl))) (mvT hZ (ow hw 15 rfl)) (mvT hZ (ow hw 14 rfl)) (by decide) (backOf (W := 0) (rm3_0 l Z ar hw [] b9 b_12 kb_12 (0 : Int32) (0 : Int32) (0 : Int32) (0 : Int32) (0 : Int32) (0 : Int32) (0 : Int32) (0 : Int32) T26.heap n0 O26 E26_27 F26_28 V26_30 F26_29) hZ (ow hw 16 rfl) (ow hw 2 rfl) (by decide) (by decide)) q39a q39c (g := (mkF m 145 #[iv p0, iv p1, iv p2, iv p3, iv (0 : Int32), iv ca, iv cb, iv cz, rv b9, rv b_16, rv b_26, un] [(.ref b9)])) rfl (by rw [hml]; rfl) (Steps.refl _) (argsL := []) (rest := []) (lenOf pd_14 rfl) rfl (by show 2 * 0 + _ ≤ _; exact Nat.le_of_eq rfl) (hb hby at_145) (fun _ _ => ⟨rfl, e38, (by decide : 4 + 1 ≤ _), (by decide : 1026 + 0 ≤ _)⟩)
  dsimp only [Pt.U, Pt.locs, Pt.cells, Pt.slots] at X39 l39 y39 z39 st39 hQ39
  subst l39 y39 z39
  obtain ⟨b_39, kb_39, rfl, N39q, Kq39, u39_0, u39_1, u39_2⟩ := hQ39
  have N39 := Fr.app N38 N39q
  have E39_40 := E26_27.keep Kq39
  have F39_41 := F26_28.keep Kq39 nin0
  have F39_42 := F26_29.keep Kq39 nin0
  have V39_43 := V26_30.keep Kq39 nin0
  have E39_44 := E26_31.keep Kq39
  have V39_45 := V26_32.keep Kq39 nin0
  have E39_46 := E26_33.keep Kq39
  have V39_47 := u26_0.keep Kq39 nin0
  have E39_48 := u26_1.keep Kq39
  have K39 := K26.trans Kq39 all0
  have O39 := O26.keep Kq39 all0
  have sz49 : h0.size ≤ b_39 := Nat.le_trans K26.1 u39_2
  have gn49 : n0 ≤ b_39 := Nat.le_trans (Nat.le_trans (Nat.le_of_eq O26.1.symm) O26.2.1) u39_2
  have ne50 : b9 ≠ b_39 := Nat.ne_of_lt (Nat.lt_of_lt_of_le (E26_27).lt u39_2)
  have ne51 : b_12 ≠ b_39 := Nat.ne_of_lt (Nat.lt_of_lt_of_le (V26_30).lt u39_2)
  have ne52 : b_16 ≠ b_39 := Nat.ne_of_lt (Nat.lt_of_lt_of_le (V26_32).lt u39_2)
  have ne53 : b_26 ≠ b_39 := Nat.ne_of_lt (Nat.lt_of_lt_of_le (u26_0).lt u39_2)
  obtain ⟨_, _, ⟨T54, L54, k54, n54⟩, -, X54, ⟨Lc54, hQ54, l54, y54, z54⟩, st54⟩ := Jvm.LawKit.callS X39 hx (y := y6) hown (mvT hZ (ow hw 31 rfl)) (mvT hZ (ow hw 32 rfl)) (mvT hZ (ow hw 33 rfl)) (mvT hZ (ow hw 34 rfl)) (by decide) (backOf (W := 0) (rm6_0 l Z ar hw [] b_39 ca cb cz kb_39 T39.heap n0 O39 u39_0) hZ (ow hw 34 rfl) (ow hw 33 rfl) (by decide) (by decide)) (g := (mkF m 160 #[iv p0, iv p1, iv p2, iv p3, iv (0 : Int32), iv ca, iv cb, iv cz, rv b9, rv b_16, rv b_26, rv b_39] [(.int cz), (.int cb), (.int ca), (.int (0 : Int32)), (.ref b_39)])) rfl (by rw [hml]; rfl) (argsL := [(.ref b_39), (.int (0 : Int32)), (.int ca), (.int cb), (.int cz)]) (rest := []) (lenOf pd_15 rfl) rfl (by show 2 * 0 + _ ≤ _; exact Nat.le_of_eq rfl) (hb hby at_160) (fun _ _ => ⟨rfl, rfl, (by decide : 5 + 0 ≤ _), (by decide : 1026 + 0 ≤ _)⟩)
  dsimp only [Pt.U, Pt.locs, Pt.cells, Pt.slots] at X54 l54 y54 z54 st54 hQ54
  subst l54 y54 z54
  obtain ⟨rfl, N54q, e54⟩ := hQ54
  have N54 := Fr.app N39 N54q
  obtain ⟨fs, hr, hrun, hended, hW, hsame⟩ := X54.leave (v := some (.int (1 : Int32))) (fun h => by rw [Bd.returns] at h; cases h)
  subst hS0
  refine ⟨_, _, pre8 _ ?_, hrun, hended, _, _, rfl, ?_, ⟨_, rfl⟩, hW, hsame.mono (by decide) (by decide)⟩
  ·
   refine st9 _ ?_
   show AT p e below T9 m 29 #[iv p0, iv p1, iv p2, iv p3, iv (0 : Int32), iv ca, iv cb, iv cz, un, un, un, un] [(.ref b9)] _
   refine XS.dup X9.here hx rfl (hb hby at_29) rfl rfl ?_
   show AT p e below T9 m 30 #[iv p0, iv p1, iv p2, iv p3, iv (0 : Int32), iv ca, iv cb, iv cz, un, un, un, un] [(.ref b9), (.ref b9)] _
   refine st12.trans ?_
   show AT p e below T12 m 33 #[iv p0, iv p1, iv p2, iv p3, iv (0 : Int32), iv ca, iv cb, iv cz, un, un, un, un] [(.ref b9)] _
   refine XS.astore X12.here hx rfl (hb hby at_33) rfl rfl (l' := #[iv p0, iv p1, iv p2, iv p3, iv (0 : Int32), iv ca, iv cb, iv cz, rv b9, un, un, un]) rfl ?_
   show AT p e below T12 m 35 #[iv p0, iv p1, iv p2, iv p3, iv (0 : Int32), iv ca, iv cb, iv cz, rv b9, un, un, un] [] _
   refine XS.aload X12.here hx rfl (hb hby at_35) rfl rfl ?_
   show AT p e below T12 m 37 #[iv p0, iv p1, iv p2, iv p3, iv (0 : Int32), iv ca, iv cb, iv cz, rv b9, un, un, un] [(.ref b9)] _
   refine st16.trans ?_
   show AT p e below T16 m 40 #[iv p0, iv p1, iv p2, iv p3, iv (0 : Int32), iv ca, iv cb, iv cz, rv b9, un, un, un] [(.ref b_16)] _
   refine XS.astore X16.here hx rfl (hb hby at_40) rfl rfl (l' := #[iv p0, iv p1, iv p2, iv p3, iv (0 : Int32), iv ca, iv cb, iv cz, rv b9, rv b_16, un, un]) rfl ?_
   show AT p e below T16 m 42 #[iv p0, iv p1, iv p2, iv p3, iv (0 : Int32), iv ca, iv cb, iv cz, rv b9, rv b_16, un, un] [] _
   refine XS.aload X16.here hx rfl (hb hby at_42) rfl rfl ?_
   show AT p e below T16 m 44 #[iv p0, iv p1, iv p2, iv p3, iv (0 : Int32), iv ca, iv cb, iv cz, rv b9, rv b_16, un, un] [(.ref b_16)] _
   refine X16.arraylength hx Ar25.1 (State.isArrayOf_alike hZ.alike Ar25.2.1) (g := (mkF m 44 #[iv p0, iv p1, iv p2, iv p3, iv (0 : Int32), iv ca, iv cb, iv cz, rv b9, rv b_16, un, un] [(.ref b_16)])) rfl rfl (hb hby at_44) _ ?_
   rw [len_of S25 N25]
   show AT p e below T16 m 45 #[iv p0, iv p1, iv p2, iv p3, iv (0 : Int32), iv ca, iv cb, iv cz, rv b9, rv b_16, un, un] [(.int (0 : Int32))] _
   refine XS.ifYes X16.here hx rfl (pc0 := 45) (pc' := 50) rfl (hb hby at_45) rfl (XT.i0_eq_t ((by decide) : (0 : Int32) = (0 : Int32))) (by decide) (by decide) ?_
   show AT p e below T16 m 50 #[iv p0, iv p1, iv p2, iv p3, iv (0 : Int32), iv ca, iv cb, iv cz, rv b9, rv b_16, un, un] [] _
   refine XS.iload X16.here hx rfl (hb hby at_50) rfl ?_
   show AT p e below T16 m 52 #[iv p0, iv p1, iv p2, iv p3, iv (0 : Int32), iv ca, iv cb, iv cz, rv b9, rv b_16, un, un] [(.int (0 : Int32))] _
   refine XS.iconst X16.here hx rfl (hb hby at_52) ?_
   show AT p e below T16 m 53 #[iv p0, iv p1, iv p2, iv p3, iv (0 : Int32), iv ca, iv cb, iv cz, rv b9, rv b_16, un, un] [(.int (1 : Int32)), (.int (0 : Int32))] _
   refine XS.icmpYes X16.here hx rfl (pc0 := 53) (pc' := 67) rfl (hb hby at_53) rfl (XT.ii_lt_t ((by decide) : (0 : Int32) < (1 : Int32))) (by decide) (by decide) ?_
   show AT p e below T16 m 67 #[iv p0, iv p1, iv p2, iv p3, iv (0 : Int32), iv ca, iv cb, iv cz, rv b9, rv b_16, un, un] [] _
   refine XS.iload X16.here hx rfl (hb hby at_67) rfl ?_
   show AT p e below T16 m 69 #[iv p0, iv p1, iv p2, iv p3, iv (0 : Int32), iv ca, iv cb, iv cz, rv b9, rv b_16, un, un] [(.int (0 : Int32))] _
   refine XS.iconst X16.here hx rfl (hb hby at_69) ?_
   show AT p e below T16 m 70 #[iv p0, iv p1, iv p2, iv p3, iv (0 : Int32), iv ca, iv cb, iv cz, rv b9, rv b_16, un, un] [(.int (2 : Int32)), (.int (0 : Int32))] _
   refine XS.icmpYes X16.here hx rfl (pc0 := 70) (pc' := 84) rfl (hb hby at_70) rfl (XT.ii_lt_t ((by decide) : (0 : Int32) < (2 : Int32))) (by decide) (by decide) ?_
   show AT p e below T16 m 84 #[iv p0, iv p1, iv p2, iv p3, iv (0 : Int32), iv ca, iv cb, iv cz, rv b9, rv b_16, un, un] [] _
   refine XS.iload X16.here hx rfl (hb hby at_84) rfl ?_
   show AT p e below T16 m 86 #[iv p0, iv p1, iv p2, iv p3, iv (0 : Int32), iv ca, iv cb, iv cz, rv b9, rv b_16, un, un] [(.int (0 : Int32))] _
   refine XS.iconst X16.here hx rfl (hb hby at_86) ?_
   show AT p e below T16 m 87 #[iv p0, iv p1, iv p2, iv p3, iv (0 : Int32), iv ca, iv cb, iv cz, rv b9, rv b_16, un, un] [(.int (3 : Int32)), (.int (0 : Int32))] _
   refine XS.icmpYes X16.here hx rfl (pc0 := 87) (pc' := 101) rfl (hb hby at_87) rfl (XT.ii_lt_t ((by decide) : (0 : Int32) < (3 : Int32))) (by decide) (by decide) ?_
   show AT p e below T16 m 101 #[iv p0, iv p1, iv p2, iv p3, iv (0 : Int32), iv ca, iv cb, iv cz, rv b9, rv b_16, un, un] [] _
   refine XS.aload X16.here hx rfl (hb hby at_101) rfl rfl ?_
   show AT p e below T16 m 103 #[iv p0, iv p1, iv p2, iv p3, iv (0 : Int32), iv ca, iv cb, iv cz, rv b9, rv b_16, un, un] [(.ref b9)] _
   refine st26.trans ?_
   show AT p e below T26 m 106 #[iv p0, iv p1, iv p2, iv p3, iv (0 : Int32), iv ca, iv cb, iv cz, rv b9, rv b_16, un, un] [(.ref b_26)] _
   refine XS.astore X26.here hx rfl (hb hby at_106) rfl rfl (l' := #[iv p0, iv p1, iv p2, iv p3, iv (0 : Int32), iv ca, iv cb, iv cz, rv b9, rv b_16, rv b_26, un]) rfl ?_
   show AT p e below T26 m 108 #[iv p0, iv p1, iv p2, iv p3, iv (0 : Int32), iv ca, iv cb, iv cz, rv b9, rv b_16, rv b_26, un] [] _
   refine XS.aload X26.here hx rfl (hb hby at_108) rfl rfl ?_
   show AT p e below T26 m 110 #[iv p0, iv p1, iv p2, iv p3, iv (0 : Int32), iv ca, iv cb, iv cz, rv b9, rv b_16, rv b_26, un] [(.ref b_26)] _
   refine XS.iload X26.here hx rfl (hb hby at_110) rfl ?_
   show AT p e below T26 m 112 #[iv p0, iv p1, iv p2, iv p3, iv (0 : Int32), iv ca, iv cb, iv cz, rv b9, rv b_16, rv b_26, un] [(.int (0 : Int32)), (.ref b_26)] _
   refine XS.iload X26.here hx rfl (hb hby at_112) rfl ?_
   show AT p e below T26 m 114 #[iv p0, iv p1, iv p2, iv p3, iv (0 : Int32), iv ca, iv cb, iv cz, rv b9, rv b_16, rv b_26, un] [(.int ca), (.int (0 : Int32)), (.ref b_26)] _
   refine XS.iload X26.here hx rfl (hb hby at_114) rfl ?_
   show AT p e below T26 m 116 #[iv p0, iv p1, iv p2, iv p3, iv (0 : Int32), iv ca, iv cb, iv cz, rv b9, rv b_16, rv b_26, un] [(.int cb), (.int ca), (.int (0 : Int32)), (.ref b_26)] _
   refine XS.iload X26.here hx rfl (hb hby at_116) rfl ?_
   show AT p e below T26 m 118 #[iv p0, iv p1, iv p2, iv p3, iv (0 : Int32), iv ca, iv cb, iv cz, rv b9, rv b_16, rv b_26, un] [(.int cz), (.int cb), (.int ca), (.int (0 : Int32)), (.ref b_26)] _
   refine st38 _ ?_
   show AT p e below T38 m 121 #[iv p0, iv p1, iv p2, iv p3, iv (0 : Int32), iv ca, iv cb, iv cz, rv b9, rv b_16, rv b_26, un] [(.int (1 : Int32))] _
   refine XS.ifYes X38.here hx rfl (pc0 := 121) (pc' := 126) rfl (hb hby at_121) rfl (XT.i0_ne_t ((by decide) : ¬ ((1 : Int32) = (0 : Int32)))) (by decide) (by decide) ?_
   show AT p e below T38 m 126 #[iv p0, iv p1, iv p2, iv p3, iv (0 : Int32), iv ca, iv cb, iv cz, rv b9, rv b_16, rv b_26, un] [] _
   refine XS.iload X38.here hx rfl (hb hby at_126) rfl ?_
   show AT p e below T38 m 128 #[iv p0, iv p1, iv p2, iv p3, iv (0 : Int32), iv ca, iv cb, iv cz, rv b9, rv b_16, rv b_26, un] [(.int (0 : Int32))] _
   refine XS.iconst X38.here hx rfl (hb hby at_128) ?_
   show AT p e below T38 m 129 #[iv p0, iv p1, iv p2, iv p3, iv (0 : Int32), iv ca, iv cb, iv cz, rv b9, rv b_16, rv b_26, un] [(.int (1 : Int32)), (.int (0 : Int32))] _
   refine XS.icmpYes X38.here hx rfl (pc0 := 129) (pc' := 143) rfl (hb hby at_129) rfl (XT.ii_lt_t ((by decide) : (0 : Int32) < (1 : Int32))) (by decide) (by decide) ?_
   show AT p e below T38 m 143 #[iv p0, iv p1, iv p2, iv p3, iv (0 : Int32), iv ca, iv cb, iv cz, rv b9, rv b_16, rv b_26, un] [] _
   refine XS.aload X38.here hx rfl (hb hby at_143) rfl rfl ?_
   show AT p e below T38 m 145 #[iv p0, iv p1, iv p2, iv p3, iv (0 : Int32), iv ca, iv cb, iv cz, rv b9, rv b_16, rv b_26, un] [(.ref b9)] _
   refine st39.trans ?_
   show AT p e below T39 m 148 #[iv p0, iv p1, iv p2, iv p3, iv (0 : Int32), iv ca, iv cb, iv cz, rv b9, rv b_16, rv b_26, un] [(.ref b_39)] _
   refine XS.astore X39.here hx rfl (hb hby at_148) rfl rfl (l' := #[iv p0, iv p1, iv p2, iv p3, iv (0 : Int32), iv ca, iv cb, iv cz, rv b9, rv b_16, rv b_26, rv b_39]) rfl ?_
   show AT p e below T39 m 150 #[iv p0, iv p1, iv p2, iv p3, iv (0 : Int32), iv ca, iv cb, iv cz, rv b9, rv b_16, rv b_26, rv b_39] [] _
   refine XS.aload X39.here hx rfl (hb hby at_150) rfl rfl ?_
   show AT p e below T39 m 152 #[iv p0, iv p1, iv p2, iv p3, iv (0 : Int32), iv ca, iv cb, iv cz, rv b9, rv b_16, rv b_26, rv b_39] [(.ref b_39)] _
   refine XS.iload X39.here hx rfl (hb hby at_152) rfl ?_
   show AT p e below T39 m 154 #[iv p0, iv p1, iv p2, iv p3, iv (0 : Int32), iv ca, iv cb, iv cz, rv b9, rv b_16, rv b_26, rv b_39] [(.int (0 : Int32)), (.ref b_39)] _
   refine XS.iload X39.here hx rfl (hb hby at_154) rfl ?_
   show AT p e below T39 m 156 #[iv p0, iv p1, iv p2, iv p3, iv (0 : Int32), iv ca, iv cb, iv cz, rv b9, rv b_16, rv b_26, rv b_39] [(.int ca), (.int (0 : Int32)), (.ref b_39)] _
   refine XS.iload X39.here hx rfl (hb hby at_156) rfl ?_
   show AT p e below T39 m 158 #[iv p0, iv p1, iv p2, iv p3, iv (0 : Int32), iv ca, iv cb, iv cz, rv b9, rv b_16, rv b_26, rv b_39] [(.int cb), (.int ca), (.int (0 : Int32)), (.ref b_39)] _
   refine XS.iload X39.here hx rfl (hb hby at_158) rfl ?_
   show AT p e below T39 m 160 #[iv p0, iv p1, iv p2, iv p3, iv (0 : Int32), iv ca, iv cb, iv cz, rv b9, rv b_16, rv b_26, rv b_39] [(.int cz), (.int cb), (.int ca), (.int (0 : Int32)), (.ref b_39)] _
   refine st54 _ ?_
   show AT p e below T54 m 163 #[iv p0, iv p1, iv p2, iv p3, iv (0 : Int32), iv ca, iv cb, iv cz, rv b9, rv b_16, rv b_26, rv b_39] [(.int (1 : Int32))] _
   exact retN X54 hx (t := .boolean) Bd.returns (by simp) (hb hby at_163) hr
  ·
   show Q0 Z p0 p1 p2 p3 w_CS0 w_SF1 h0 n0 _ T54.heap _
   rw [e54]
   exact ⟨rfl, N54⟩
 ·
  have pre55 : ∀ tg, AT p e below s₁ m 12 #[iv p0, iv p1, iv p2, iv p3, iv (1 : Int32), iv ((p1 &&& (127 : Int32)).toUInt32.toUInt16.toUInt32.toInt32), un, un, un, un, un, un] [] tg → Steps p.tables e below S0 tg := fun tg kg => pre2 tg (by
   refine XS.iloadN X0.here hx rfl (hb hby at_5) rfl ?_
   show AT p e below s₁ m 6 #[iv p0, iv p1, iv p2, iv p3, iv (1 : Int32), un, un, un, un, un, un, un] [(.int p1)] _
   refine XS.bipush X0.here hx rfl (hb hby at_6) ?_
   show AT p e below s₁ m 8 #[iv p0, iv p1, iv p2, iv p3, iv (1 : Int32), un, un, un, un, un, un, un] [(.int (127 : Int32)), (.int p1)] _
   refine XS.iand X0.here hx rfl (hb hby at_8) rfl ?_
   show AT p e below s₁ m 9 #[iv p0, iv p1, iv p2, iv p3, iv (1 : Int32), un, un, un, un, un, un, un] [(.int (p1 &&& (127 : Int32)))] _
   refine XS.i2c X0.here hx rfl (hb hby at_9) rfl ?_
   show AT p e below s₁ m 10 #[iv p0, iv p1, iv p2, iv p3, iv (1 : Int32), un, un, un, un, un, un, un] [(.int ((p1 &&& (127 : Int32)).toUInt32.toUInt16.toUInt32.toInt32))] _
   refine XS.istore X0.here hx rfl (hb hby at_10) rfl (l' := #[iv p0, iv p1, iv p2, iv p3, iv (1 : Int32), iv ((p1 &&& (127 : Int32)).toUInt32.toUInt16.toUInt32.toInt32), un, un, un, un, un, un]) rfl ?_
   exact kg)
  obtain ⟨ca, hca⟩ : ∃ z, z = ((p1 &&& (127 : Int32)).toUInt32.toUInt16.toUInt32.toInt32) := ⟨_, rfl⟩
  have pre56 : ∀ tg, AT p e below s₁ m 12 #[iv p0, iv p1, iv p2, iv p3, iv (1 : Int32), iv ca, un, un, un, un, un, un] [] tg → Steps p.tables e below S0 tg := by rw [hca]; exact pre55
  have okca : ok7 ca := by rw [hca]; exact own_ok p1
  have pre57 : ∀ tg, AT p e below s₁ m 19 #[iv p0, iv p1, iv p2, iv p3, iv (1 : Int32), iv ca, iv ((p2 &&& (127 : Int32)).toUInt32.toUInt16.toUInt32.toInt32), un, un, un, un, un] [] tg → Steps p.tables e below S0 tg := fun tg kg => pre56 tg (by
   refine XS.iloadN X0.here hx rfl (hb hby at_12) rfl ?_
   show AT p e below s₁ m 13 #[iv p0, iv p1, iv p2, iv p3, iv (1 : Int32), iv ca, un, un, un, un, un, un] [(.int p2)] _
   refine XS.bipush X0.here hx rfl (hb hby at_13) ?_
   show AT p e below s₁ m 15 #[iv p0, iv p1, iv p2, iv p3, iv (1 : Int32), iv ca, un, un, un, un, un, un] [(.int (127 : Int32)), (.int p2)] _
   refine XS.iand X0.here hx rfl (hb hby at_15) rfl ?_
   show AT p e below s₁ m 16 #[iv p0, iv p1, iv p2, iv p3, iv (1 : Int32), iv ca, un, un, un, un, un, un] [(.int (p2 &&& (127 : Int32)))] _
   refine XS.i2c X0.here hx rfl (hb hby at_16) rfl ?_
   show AT p e below s₁ m 17 #[iv p0, iv p1, iv p2, iv p3, iv (1 : Int32), iv ca, un, un, un, un, un, un] [(.int ((p2 &&& (127 : Int32)).toUInt32.toUInt16.toUInt32.toInt32))] _
   refine XS.istore X0.here hx rfl (hb hby at_17) rfl (l' := #[iv p0, iv p1, iv p2, iv p3, iv (1 : Int32), iv ca, iv ((p2 &&& (127 : Int32)).toUInt32.toUInt16.toUInt32.toInt32), un, un, un, un, un]) rfl ?_
   exact kg)
  obtain ⟨cb, hcb⟩ : ∃ z, z = ((p2 &&& (127 : Int32)).toUInt32.toUInt16.toUInt32.toInt32) := ⟨_, rfl⟩
  have pre58 : ∀ tg, AT p e below s₁ m 19 #[iv p0, iv p1, iv p2, iv p3, iv (1 : Int32), iv ca, iv cb, un, un, un, un, un] [] tg → Steps p.tables e below S0 tg := by rw [hcb]; exact pre57
  have okcb : ok7 cb := by rw [hcb]; exact own_ok p2
  have pre59 : ∀ tg, AT p e below s₁ m 26 #[iv p0, iv p1, iv p2, iv p3, iv (1 : Int32), iv ca, iv cb, iv ((p3 &&& (127 : Int32)).toUInt32.toUInt16.toUInt32.toInt32), un, un, un, un] [] tg → Steps p.tables e below S0 tg := fun tg kg => pre58 tg (by
   refine XS.iloadN X0.here hx rfl (hb hby at_19) rfl ?_
   show AT p e below s₁ m 20 #[iv p0, iv p1, iv p2, iv p3, iv (1 : Int32), iv ca, iv cb, un, un, un, un, un] [(.int p3)] _
   refine XS.bipush X0.here hx rfl (hb hby at_20) ?_
   show AT p e below s₁ m 22 #[iv p0, iv p1, iv p2, iv p3, iv (1 : Int32), iv ca, iv cb, un, un, un, un, un] [(.int (127 : Int32)), (.int p3)] _
   refine XS.iand X0.here hx rfl (hb hby at_22) rfl ?_
   show AT p e below s₁ m 23 #[iv p0, iv p1, iv p2, iv p3, iv (1 : Int32), iv ca, iv cb, un, un, un, un, un] [(.int (p3 &&& (127 : Int32)))] _
   refine XS.i2c X0.here hx rfl (hb hby at_23) rfl ?_
   show AT p e below s₁ m 24 #[iv p0, iv p1, iv p2, iv p3, iv (1 : Int32), iv ca, iv cb, un, un, un, un, un] [(.int ((p3 &&& (127 : Int32)).toUInt32.toUInt16.toUInt32.toInt32))] _
   refine XS.istore X0.here hx rfl (hb hby at_24) rfl (l' := #[iv p0, iv p1, iv p2, iv p3, iv (1 : Int32), iv ca, iv cb, iv ((p3 &&& (127 : Int32)).toUInt32.toUInt16.toUInt32.toInt32), un, un, un, un]) rfl ?_
   exact kg)
  obtain ⟨cz, hcz⟩ : ∃ z, z = ((p3 &&& (127 : Int32)).toUInt32.toUInt16.toUInt32.toInt32) := ⟨_, rfl⟩
  have pre60 : ∀ tg, AT p e below s₁ m 26 #[iv p0, iv p1, iv p2, iv p3, iv (1 : Int32), iv ca, iv cb, iv cz, un, un, un, un] [] tg → Steps p.tables e below S0 tg := by rw [hcz]; exact pre59
  have okcz : ok7 cz := by rw [hcz]; exact own_ok p3
  obtain ⟨T61, h61, X61, e61, E61, A61, D61, -, st61⟩ := newO X0 hx hZ hown (ow hw 0 rfl) (ow hw 1 rfl) (ow hw 2 rfl) e0 (g := (mkF m 26 #[iv p0, iv p1, iv p2, iv p3, iv (1 : Int32), iv ca, iv cb, iv cz, un, un, un, un] [])) rfl (hb hby at_26) (by decide) (by decide)
  obtain ⟨b61, g61⟩ : ∃ z, z = h0.size := ⟨_, rfl⟩
  rw [← g61] at A61 D61 st61
  have gn61 : n0 ≤ b61 := Nat.le_trans (Nat.le_trans (Nat.le_of_eq O0.1.symm) O0.2.1) (Nat.le_of_eq g61.symm)
  have sz61 : h0.size ≤ b61 := Nat.le_trans (Keep.refl h0 []).1 (Nat.le_of_eq g61.symm)
  have K61 := (Keep.refl h0 []).ext E61
  have O61 := O0.ext E61
  have F61_62 : Fld Z h61 b61 "com/example/polity/polity/io/saml/CanonicalXml" "bytes" "[B" .null := D61 (Or.inl (ow hw 11 rfl)) (ty := (.array .byte)) (by decide)
  have F61_63 : Fld Z h61 b61 "com/example/polity/polity/io/saml/CanonicalXml" "length" "I" (.int (0 : Int32)) := D61 (Or.inl (ow hw 18 rfl)) (ty := .int) (by decide)
  obtain ⟨_, _, ⟨T64, L64, k64, n64⟩, -, X64, ⟨Lc64, hQ64, l64, y64, z64⟩, st64⟩ := X61.specialBack hx (y := y1) rfl hown (mvT hZ (ow hw 3 rfl)) (mvT hZ (ow hw 4 rfl)) (mvT hZ (ow hw 5 rfl)) (by decide) (backOf (W := 1) (rm1 l Z ar hw [] b61 h61 n0 O61 A61 F61_62 F61_63 gn61) hZ (ow hw 5 rfl) (ow hw 2 rfl) (by decide) (by decide)) (g := (mkF m 30 #[iv p0, iv p1, iv p2, iv p3, iv (1 : Int32), iv ca, iv cb, iv cz, un, un, un, un] [(.ref b61), (.ref b61)])) rfl (by rw [hml]; rfl) (Steps.refl _) (a := b61) (argsL := []) (rest := [(.ref b61)]) (lenOf pd_13 rfl) rfl (by show 2 * 0 + _ ≤ _; exact Nat.le_of_eq rfl) (hb hby at_30) (fun _ _ => ⟨rfl, e61, (by decide : 1 + 1 ≤ _), (by decide : 2 + 1024 ≤ _)⟩)
  dsimp only [Pt.U, Pt.locs, Pt.cells, Pt.slots] at X64 l64 y64 z64 st64 hQ64
  subst l64 y64 z64
  obtain ⟨b_64, kb_64, rfl, N64q, Kq64, u64_0, u64_1, u64_2, u64_3, u64_4, u64_5, u64_6⟩ := hQ64
  have N64 := Fr.app N0 N64q
  have E64_65 := A61.keep Kq64
  have K64 := K61.trans Kq64 (allS (Or.inr sz61) all0)
  have O64 := O61.keep Kq64 (allS gn61 all0)
  have sz66 : h0.size ≤ b_64 := Nat.le_trans K61.1 u64_5
  have gn66 : n0 ≤ b_64 := Nat.le_trans (Nat.le_trans (Nat.le_of_eq O61.1.symm) O61.2.1) u64_5
  have ne67 : b61 ≠ b_64 := Nat.ne_of_lt (Nat.lt_of_lt_of_le (A61).lt u64_5)
  obtain ⟨cq68, kq68, q68a, q68b, q68c⟩ := isOf hZ rfl E64_65
  obtain ⟨_, _, ⟨T68, L68, k68, n68⟩, -, X68, ⟨Lc68, hQ68, l68, y68, z68⟩, st68⟩ := X64.virtualBack hx (y := y3) (z := y3) hown (mvT hZ (ow hw 12 rfl)) (mvT hZ (ow hw 13 rfl)) (notFace_of_selects (args := #[]) (mvT hZ (ow hw 15 rfl))) (mvT hZ (ow hw 15 rfl)) (mvT hZ (ow hw 14 rfl)) (by decide) (backOf (W := 0) (rm3_0 l Z ar hw [] b61 b_64 kb_64 (0 : Int32) (0 : Int32) (0 : Int32) (0 : Int32) (0 : Int32) (0 : Int32) (0 : Int32) (0 : Int32) T64.heap n0 O64 E64_65 u64_1 u64_3 u64_2) hZ (ow hw 16 rfl) (ow hw 2 rfl) (by decide) (by decide)) q68a q68c (g := (mkF m 37 #[iv p0, iv p1, iv p2, iv p3, iv (1 : Int32), iv ca, iv cb, iv cz, rv b61, un, un, un] [(.ref b61)])) rfl (by rw [hml]; rfl) (Steps.refl _) (argsL := []) (rest := []) (lenOf pd_14 rfl) rfl (by show 2 * 0 + _ ≤ _; exact Nat.le_of_eq rfl) (hb hby at_37) (fun _ _ => ⟨rfl, rfl, (by decide : 2 + 1 ≤ _), (by decide : 1026 + 0 ≤ _)⟩)
  dsimp only [Pt.U, Pt.locs, Pt.cells, Pt.slots] at X68 l68 y68 z68 st68 hQ68
  subst l68 y68 z68
  obtain ⟨b_68, kb_68, rfl, N68q, Kq68, u68_0, u68_1, u68_2⟩ := hQ68
  have N68 := Fr.app N64 N68q
  have E68_69 := E64_65.keep Kq68
  have F68_70 := u64_1.keep Kq68 nin0
  have F68_71 := u64_2.keep Kq68 nin0
  have V68_72 := u64_3.keep Kq68 nin0
  have E68_73 := u64_4.keep Kq68
  have K68 := K64.trans Kq68 all0
  have O68 := O64.keep Kq68 all0
  have sz74 : h0.size ≤ b_68 := Nat.le_trans K64.1 u68_2
  have gn74 : n0 ≤ b_68 := Nat.le_trans (Nat.le_trans (Nat.le_of_eq O64.1.symm) O64.2.1) u68_2
  have ne75 : b61 ≠ b_68 := Nat.ne_of_lt (Nat.lt_of_lt_of_le (E64_65).lt u68_2)
  have ne76 : b_64 ≠ b_68 := Nat.ne_of_lt (Nat.lt_of_lt_of_le (u64_3).lt u68_2)
  obtain ⟨cl77, Ar77, q77, S77, N77, H77, G77⟩ := id u68_0
  obtain ⟨_, _, ⟨T78, L78, k78, n78⟩, -, X78, ⟨Lc78, hQ78, l78, y78, z78⟩, st78⟩ := Jvm.LawKit.callS X68 hx (y := y7) hown (mvT hZ (ow hw 35 rfl)) (mvT hZ (ow hw 36 rfl)) (mvT hZ (ow hw 37 rfl)) (mvT hZ (ow hw 38 rfl)) (by decide) (backOf (W := 1) (rm7 l Z ar hw [] ca w_CS0 w_SF1 T68.heap n0 O68 HW (own_l255 _ okca)) hZ (ow hw 38 rfl) (ow hw 37 rfl) (by decide) (by decide)) (g := (mkF m 60 #[iv p0, iv p1, iv p2, iv p3, iv (1 : Int32), iv ca, iv cb, iv cz, rv b61, rv b_68, un, un] [(.int ca), (.ref b61)])) rfl (by rw [hml]; rfl) (argsL := [(.int ca)]) (rest := [(.ref b61)]) (lenOf pd_16 rfl) rfl (by show 2 * 0 + _ ≤ _; exact Nat.le_of_eq rfl) (hb hby at_60) (fun _ _ => ⟨rfl, rfl, (by decide : 3 + 2 ≤ _), (by decide : 1026 + 5 ≤ _)⟩)
  dsimp only [Pt.U, Pt.locs, Pt.cells, Pt.slots] at X78 l78 y78 z78 st78 hQ78
  subst l78 y78 z78
  obtain ⟨t_78, b_78, kb_78, rfl, N78q, Kq78, u78_0, u78_1, u78_2, u78_3, u78_4, u78_5, u78_6, u78_7⟩ := hQ78
  have N78 := Fr.app N68 N78q
  have E78_79 := E68_69.keep Kq78
  have F78_80 := F68_70.keep Kq78 nin0
  have F78_81 := F68_71.keep Kq78 nin0
  have V78_82 := V68_72.keep Kq78 nin0
  have E78_83 := E68_73.keep Kq78
  have V78_84 := u68_0.keep Kq78 nin0
  have E78_85 := u68_1.keep Kq78
  have K78 := K68.trans Kq78 all0
  have O78 := O68.keep Kq78 all0
  have sz86 : h0.size ≤ t_78 := Nat.le_trans K68.1 u78_5
  have gn86 : n0 ≤ t_78 := Nat.le_trans (Nat.le_trans (Nat.le_of_eq O68.1.symm) O68.2.1) u78_5
  have ne87 : b61 ≠ t_78 := Nat.ne_of_lt (Nat.lt_of_lt_of_le (E68_69).lt u78_5)
  have ne88 : b_64 ≠ t_78 := Nat.ne_of_lt (Nat.lt_of_lt_of_le (V68_72).lt u78_5)
  have ne89 : b_68 ≠ t_78 := Nat.ne_of_lt (Nat.lt_of_lt_of_le (u68_0).lt u78_5)
  have sz90 : h0.size ≤ b_78 := Nat.le_trans K68.1 u78_6
  have gn90 : n0 ≤ b_78 := Nat.le_trans (Nat.le_trans (Nat.le_of_eq O68.1.symm) O68.2.1) u78_6
  have ne91 : b61 ≠ b_78 := Nat.ne_of_lt (Nat.lt_of_lt_of_le (E68_69).lt u78_6)
  have ne92 : b_64 ≠ b_78 := Nat.ne_of_lt (Nat.lt_of_lt_of_le (V68_72).lt u78_6)
  have ne93 : b_68 ≠ b_78 := Nat.ne_of_lt (Nat.lt_of_lt_of_le (u68_0).lt u78_6)
  obtain ⟨cq94, kq94, q94a, q94b, q94c⟩ := isOf hZ rfl E78_79
  obtain ⟨_, _, ⟨T94, L94, k94, n94⟩, -, X94, ⟨Lc94, hQ94, l94, y94, z94⟩, st94⟩ := X78.virtualBack hx (y := y11) (z := y11) hown (mvT hZ (ow hw 58 rfl)) (mvT hZ (ow hw 59 rfl)) (notFace_of_selects (args := #[]) (mvT hZ (ow hw 61 rfl))) (mvT hZ (ow hw 61 rfl)) (mvT hZ (ow hw 60 rfl)) (by decide) (backOf (W := 0) (rm11_0 l Z ar hw [] b61 t_78 w_CS0 w_SF1 b_64 kb_64 (0 : Int32) (0 : Int32) (0 : Int32) (0 : Int32) (0 : Int32) (0 : Int32) (0 : Int32) (0 : Int32) b_78 kb_78 (nar .byte (ca.toInt8.toInt32)) T78.heap n0 O78 HW E78_79 F78_80 V78_82 F78_81 gn61 gn66 u64_6 u78_0 u78_1 u78_2 u78_3 (Ne.symm ne87) (Ne.symm ne92) (Ne.symm ne91) (Ne.symm ne88) (own_l127 _ okca)) hZ (ow hw 62 rfl) (ow hw 2 rfl) (by decide) (by decide)) q94a q94c (g := (mkF m 63 #[iv p0, iv p1, iv p2, iv p3, iv (1 : Int32), iv ca, iv cb, iv cz, rv b61, rv b_68, un, un] [(.ref t_78), (.ref b61)])) rfl (by rw [hml]; rfl) (Steps.refl _) (argsL := [(.ref t_78)]) (rest := []) (lenOf pd_17 rfl) rfl (by show 2 * 0 + _ ≤ _; exact Nat.le_of_eq rfl) (hb hby at_63) (fun _ _ => ⟨rfl, rfl, (by decide : 5 + 0 ≤ _), (by decide : 1031 + 0 ≤ _)⟩)
  dsimp only [Pt.U, Pt.locs, Pt.cells, Pt.slots] at X94 l94 y94 z94 st94 hQ94
  subst l94 y94 z94
  obtain ⟨rfl, N94q, Kq94, u94_0, u94_1, u94_2, u94_3⟩ := hQ94
  have N94 := Fr.app N78 N94q
  have E94_95 := E78_79.keep Kq94
  have E94_96 := E78_83.keep Kq94
  have V94_97 := V78_84.keep Kq94 (ninS (Ne.symm ne75) (ninS (Ne.symm ne76) nin0))
  have E94_98 := E78_85.keep Kq94
  have E94_99 := u78_0.keep Kq94
  have F94_100 := u78_1.keep Kq94 (ninS (Ne.symm ne87) (ninS (Ne.symm ne88) nin0))
  have F94_101 := u78_2.keep Kq94 (ninS (Ne.symm ne87) (ninS (Ne.symm ne88) nin0))
  have V94_102 := u78_3.keep Kq94 (ninS (Ne.symm ne91) (ninS (Ne.symm ne92) nin0))
  have E94_103 := u78_4.keep Kq94
  have K94 := K78.trans Kq94 (allS (Or.inr sz61) (allS (Or.inr sz66) all0))
  have O94 := O78.keep Kq94 (allS gn61 (allS gn66 all0))
  obtain ⟨cq104, kq104, q104a, q104b, q104c⟩ := isOf hZ rfl E94_95
  obtain ⟨_, _, ⟨T104, L104, k104, n104⟩, -, X104, ⟨Lc104, hQ104, l104, y104, z104⟩, st104⟩ := X94.virtualBack hx (y := y3) (z := y3) hown (mvT hZ (ow hw 12 rfl)) (mvT hZ (ow hw 13 rfl)) (notFace_of_selects (args := #[]) (mvT hZ (ow hw 15 rfl))) (mvT hZ (ow hw 15 rfl)) (mvT hZ (ow hw 14 rfl)) (by decide) (backOf (W := 0) (rm3_1 l Z ar hw [] b61 b_64 kb_64 (nar .byte ((nar .char (nar .char (((nar .byte (ca.toInt8.toInt32)) &&& (255 : Int32)).toUInt32.toUInt16.toUInt32.toInt32))).toInt8.toInt32)) (0 : Int32) (0 : Int32) (0 : Int32) (0 : Int32) (0 : Int32) (0 : Int32) (0 : Int32) T94.heap n0 O94 E94_95 u94_1 u94_3 u94_2) hZ (ow hw 16 rfl) (ow hw 2 rfl) (by decide) (by decide)) q104a q104c (g := (mkF m 103 #[iv p0, iv p1, iv p2, iv p3, iv (1 : Int32), iv ca, iv cb, iv cz, rv b61, rv b_68, un, un] [(.ref b61)])) rfl (by rw [hml]; rfl) (Steps.refl _) (argsL := []) (rest := []) (lenOf pd_14 rfl) rfl (by show 2 * 0 + _ ≤ _; exact Nat.le_of_eq rfl) (hb hby at_103) (fun _ _ => ⟨rfl, rfl, (by decide : 5 + 1 ≤ _), (by decide : 1031 + 1 ≤ _)⟩)
  dsimp only [Pt.U, Pt.locs, Pt.cells, Pt.slots] at X104 l104 y104 z104 st104 hQ104
  subst l104 y104 z104
  obtain ⟨b_104, kb_104, rfl, N104q, Kq104, u104_0, u104_1, u104_2⟩ := hQ104
  have N104 := Fr.app N94 N104q
  have E104_105 := E94_95.keep Kq104
  have E104_106 := E94_96.keep Kq104
  have V104_107 := V94_97.keep Kq104 nin0
  have E104_108 := E94_98.keep Kq104
  have E104_109 := E94_99.keep Kq104
  have F104_110 := F94_100.keep Kq104 nin0
  have F104_111 := F94_101.keep Kq104 nin0
  have V104_112 := V94_102.keep Kq104 nin0
  have E104_113 := E94_103.keep Kq104
  have F104_114 := u94_1.keep Kq104 nin0
  have F104_115 := u94_2.keep Kq104 nin0
  have V104_116 := u94_3.keep Kq104 nin0
  have K104 := K94.trans Kq104 all0
  have O104 := O94.keep Kq104 all0
  have sz117 : h0.size ≤ b_104 := Nat.le_trans K94.1 u104_2
  have gn117 : n0 ≤ b_104 := Nat.le_trans (Nat.le_trans (Nat.le_of_eq O94.1.symm) O94.2.1) u104_2
  have ne118 : b61 ≠ b_104 := Nat.ne_of_lt (Nat.lt_of_lt_of_le (E94_95).lt u104_2)
  have ne119 : b_64 ≠ b_104 := Nat.ne_of_lt (Nat.lt_of_lt_of_le (E94_96).lt u104_2)
  have ne120 : b_68 ≠ b_104 := Nat.ne_of_lt (Nat.lt_of_lt_of_le (V94_97).lt u104_2)
  have ne121 : t_78 ≠ b_104 := Nat.ne_of_lt (Nat.lt_of_lt_of_le (E94_99).lt u104_2)
  have ne122 : b_78 ≠ b_104 := Nat.ne_of_lt (Nat.lt_of_lt_of_le (V94_102).lt u104_2)
  obtain ⟨_, _, ⟨T123, L123, k123, n123⟩, -, X123, ⟨Lc123, hQ123, l123, y123, z123⟩, st123⟩ := Jvm.LawKit.callS X104 hx (y := y6) hown (mvT hZ (ow hw 31 rfl)) (mvT hZ (ow hw 32 rfl)) (mvT hZ (ow hw 33 rfl)) (mvT hZ (ow hw 34 rfl)) (by decide) (backOf (W := 0) (rm6_1 l Z ar hw [] b_104 ca cb cz kb_104 (nar .byte ((nar .char (nar .char (((nar .byte (ca.toInt8.toInt32)) &&& (255 : Int32)).toUInt32.toUInt16.toUInt32.toInt32))).toInt8.toInt32)) T104.heap n0 O104 u104_0) hZ (ow hw 34 rfl) (ow hw 33 rfl) (by decide) (by decide)) (g := (mkF m 118 #[iv p0, iv p1, iv p2, iv p3, iv (1 : Int32), iv ca, iv cb, iv cz, rv b61, rv b_68, rv b_104, un] [(.int cz), (.int cb), (.int ca), (.int (1 : Int32)), (.ref b_104)])) rfl (by rw [hml]; rfl) (argsL := [(.ref b_104), (.int (1 : Int32)), (.int ca), (.int cb), (.int cz)]) (rest := []) (lenOf pd_15 rfl) rfl (by show 2 * 0 + _ ≤ _; exact Nat.le_of_eq rfl) (hb hby at_118) (fun _ _ => ⟨rfl, rfl, (by decide : 6 + 0 ≤ _), (by decide : 1032 + 0 ≤ _)⟩)
  dsimp only [Pt.U, Pt.locs, Pt.cells, Pt.slots] at X123 l123 y123 z123 st123 hQ123
  subst l123 y123 z123
  obtain ⟨rfl, N123q, e123⟩ := hQ123
  have N123 := Fr.app N104 N123q
  have pre124 : ∀ tg, AT p e below T123 m 121 #[iv p0, iv p1, iv p2, iv p3, iv (1 : Int32), iv ca, iv cb, iv cz, rv b61, rv b_68, rv b_104, un] [(.int (f6_1 ca (nar .byte ((nar .char (nar .char (((nar .byte (ca.toInt8.toInt32)) &&& (255 : Int32)).toUInt32.toUInt16.toUInt32.toInt32))).toInt8.toInt32))))] tg → Steps p.tables e below S0 tg := fun tg kg => pre60 tg (by
   refine st61 _ ?_
   show AT p e below T61 m 29 #[iv p0, iv p1, iv p2, iv p3, iv (1 : Int32), iv ca, iv cb, iv cz, un, un, un, un] [(.ref b61)] _
   refine XS.dup X61.here hx rfl (hb hby at_29) rfl rfl ?_
   show AT p e below T61 m 30 #[iv p0, iv p1, iv p2, iv p3, iv (1 : Int32), iv ca, iv cb, iv cz, un, un, un, un] [(.ref b61), (.ref b61)] _
   refine st64.trans ?_
   show AT p e below T64 m 33 #[iv p0, iv p1, iv p2, iv p3, iv (1 : Int32), iv ca, iv cb, iv cz, un, un, un, un] [(.ref b61)] _
   refine XS.astore X64.here hx rfl (hb hby at_33) rfl rfl (l' := #[iv p0, iv p1, iv p2, iv p3, iv (1 : Int32), iv ca, iv cb, iv cz, rv b61, un, un, un]) rfl ?_
   show AT p e below T64 m 35 #[iv p0, iv p1, iv p2, iv p3, iv (1 : Int32), iv ca, iv cb, iv cz, rv b61, un, un, un] [] _
   refine XS.aload X64.here hx rfl (hb hby at_35) rfl rfl ?_
   show AT p e below T64 m 37 #[iv p0, iv p1, iv p2, iv p3, iv (1 : Int32), iv ca, iv cb, iv cz, rv b61, un, un, un] [(.ref b61)] _
   refine st68.trans ?_
   show AT p e below T68 m 40 #[iv p0, iv p1, iv p2, iv p3, iv (1 : Int32), iv ca, iv cb, iv cz, rv b61, un, un, un] [(.ref b_68)] _
   refine XS.astore X68.here hx rfl (hb hby at_40) rfl rfl (l' := #[iv p0, iv p1, iv p2, iv p3, iv (1 : Int32), iv ca, iv cb, iv cz, rv b61, rv b_68, un, un]) rfl ?_
   show AT p e below T68 m 42 #[iv p0, iv p1, iv p2, iv p3, iv (1 : Int32), iv ca, iv cb, iv cz, rv b61, rv b_68, un, un] [] _
   refine XS.aload X68.here hx rfl (hb hby at_42) rfl rfl ?_
   show AT p e below T68 m 44 #[iv p0, iv p1, iv p2, iv p3, iv (1 : Int32), iv ca, iv cb, iv cz, rv b61, rv b_68, un, un] [(.ref b_68)] _
   refine X68.arraylength hx Ar77.1 (State.isArrayOf_alike hZ.alike Ar77.2.1) (g := (mkF m 44 #[iv p0, iv p1, iv p2, iv p3, iv (1 : Int32), iv ca, iv cb, iv cz, rv b61, rv b_68, un, un] [(.ref b_68)])) rfl rfl (hb hby at_44) _ ?_
   rw [len_of S77 N77]
   show AT p e below T68 m 45 #[iv p0, iv p1, iv p2, iv p3, iv (1 : Int32), iv ca, iv cb, iv cz, rv b61, rv b_68, un, un] [(.int (0 : Int32))] _
   refine XS.ifYes X68.here hx rfl (pc0 := 45) (pc' := 50) rfl (hb hby at_45) rfl (XT.i0_eq_t ((by decide) : (0 : Int32) = (0 : Int32))) (by decide) (by decide) ?_
   show AT p e below T68 m 50 #[iv p0, iv p1, iv p2, iv p3, iv (1 : Int32), iv ca, iv cb, iv cz, rv b61, rv b_68, un, un] [] _
   refine XS.iload X68.here hx rfl (hb hby at_50) rfl ?_
   show AT p e below T68 m 52 #[iv p0, iv p1, iv p2, iv p3, iv (1 : Int32), iv ca, iv cb, iv cz, rv b61, rv b_68, un, un] [(.int (1 : Int32))] _
   refine XS.iconst X68.here hx rfl (hb hby at_52) ?_
   show AT p e below T68 m 53 #[iv p0, iv p1, iv p2, iv p3, iv (1 : Int32), iv ca, iv cb, iv cz, rv b61, rv b_68, un, un] [(.int (1 : Int32)), (.int (1 : Int32))] _
   refine XS.icmpNo X68.here hx rfl (hb hby at_53) rfl (XT.ii_lt_f ((by decide) : ¬ ((1 : Int32) < (1 : Int32)))) ?_
   show AT p e below T68 m 56 #[iv p0, iv p1, iv p2, iv p3, iv (1 : Int32), iv ca, iv cb, iv cz, rv b61, rv b_68, un, un] [] _
   refine XS.aload X68.here hx rfl (hb hby at_56) rfl rfl ?_
   show AT p e below T68 m 58 #[iv p0, iv p1, iv p2, iv p3, iv (1 : Int32), iv ca, iv cb, iv cz, rv b61, rv b_68, un, un] [(.ref b61)] _
   refine XS.iload X68.here hx rfl (hb hby at_58) rfl ?_
   show AT p e below T68 m 60 #[iv p0, iv p1, iv p2, iv p3, iv (1 : Int32), iv ca, iv cb, iv cz, rv b61, rv b_68, un, un] [(.int ca), (.ref b61)] _
   refine st78 _ ?_
   show AT p e below T78 m 63 #[iv p0, iv p1, iv p2, iv p3, iv (1 : Int32), iv ca, iv cb, iv cz, rv b61, rv b_68, un, un] [(.ref t_78), (.ref b61)] _
   refine st94.trans ?_
   show AT p e below T94 m 66 #[iv p0, iv p1, iv p2, iv p3, iv (1 : Int32), iv ca, iv cb, iv cz, rv b61, rv b_68, un, un] [(.ref b61)] _
   refine XS.pop X94.here hx rfl (hb hby at_66) rfl rfl ?_
   show AT p e below T94 m 67 #[iv p0, iv p1, iv p2, iv p3, iv (1 : Int32), iv ca, iv cb, iv cz, rv b61, rv b_68, un, un] [] _
   refine XS.iload X94.here hx rfl (hb hby at_67) rfl ?_
   show AT p e below T94 m 69 #[iv p0, iv p1, iv p2, iv p3, iv (1 : Int32), iv ca, iv cb, iv cz, rv b61, rv b_68, un, un] [(.int (1 : Int32))] _
   refine XS.iconst X94.here hx rfl (hb hby at_69) ?_
   show AT p e below T94 m 70 #[iv p0, iv p1, iv p2, iv p3, iv (1 : Int32), iv ca, iv cb, iv cz, rv b61, rv b_68, un, un] [(.int (2 : Int32)), (.int (1 : Int32))] _
   refine XS.icmpYes X94.here hx rfl (pc0 := 70) (pc' := 84) rfl (hb hby at_70) rfl (XT.ii_lt_t ((by decide) : (1 : Int32) < (2 : Int32))) (by decide) (by decide) ?_
   show AT p e below T94 m 84 #[iv p0, iv p1, iv p2, iv p3, iv (1 : Int32), iv ca, iv cb, iv cz, rv b61, rv b_68, un, un] [] _
   refine XS.iload X94.here hx rfl (hb hby at_84) rfl ?_
   show AT p e below T94 m 86 #[iv p0, iv p1, iv p2, iv p3, iv (1 : Int32), iv ca, iv cb, iv cz, rv b61, rv b_68, un, un] [(.int (1 : Int32))] _
   refine XS.iconst X94.here hx rfl (hb hby at_86) ?_
   show AT p e below T94 m 87 #[iv p0, iv p1, iv p2, iv p3, iv (1 : Int32), iv ca, iv cb, iv cz, rv b61, rv b_68, un, un] [(.int (3 : Int32)), (.int (1 : Int32))] _
   refine XS.icmpYes X94.here hx rfl (pc0 := 87) (pc' := 101) rfl (hb hby at_87) rfl (XT.ii_lt_t ((by decide) : (1 : Int32) < (3 : Int32))) (by decide) (by decide) ?_
   show AT p e below T94 m 101 #[iv p0, iv p1, iv p2, iv p3, iv (1 : Int32), iv ca, iv cb, iv cz, rv b61, rv b_68, un, un] [] _
   refine XS.aload X94.here hx rfl (hb hby at_101) rfl rfl ?_
   show AT p e below T94 m 103 #[iv p0, iv p1, iv p2, iv p3, iv (1 : Int32), iv ca, iv cb, iv cz, rv b61, rv b_68, un, un] [(.ref b61)] _
   refine st104.trans ?_
   show AT p e below T104 m 106 #[iv p0, iv p1, iv p2, iv p3, iv (1 : Int32), iv ca, iv cb, iv cz, rv b61, rv b_68, un, un] [(.ref b_104)] _
   refine XS.astore X104.here hx rfl (hb hby at_106) rfl rfl (l' := #[iv p0, iv p1, iv p2, iv p3, iv (1 : Int32), iv ca, iv cb, iv cz, rv b61, rv b_68, rv b_104, un]) rfl ?_
   show AT p e below T104 m 108 #[iv p0, iv p1, iv p2, iv p3, iv (1 : Int32), iv ca, iv cb, iv cz, rv b61, rv b_68, rv b_104, un] [] _
   refine XS.aload X104.here hx rfl (hb hby at_108) rfl rfl ?_
   show AT p e below T104 m 110 #[iv p0, iv p1, iv p2, iv p3, iv (1 : Int32), iv ca, iv cb, iv cz, rv b61, rv b_68, rv b_104, un] [(.ref b_104)] _
   refine XS.iload X104.here hx rfl (hb hby at_110) rfl ?_
   show AT p e below T104 m 112 #[iv p0, iv p1, iv p2, iv p3, iv (1 : Int32), iv ca, iv cb, iv cz, rv b61, rv b_68, rv b_104, un] [(.int (1 : Int32)), (.ref b_104)] _
   refine XS.iload X104.here hx rfl (hb hby at_112) rfl ?_
   show AT p e below T104 m 114 #[iv p0, iv p1, iv p2, iv p3, iv (1 : Int32), iv ca, iv cb, iv cz, rv b61, rv b_68, rv b_104, un] [(.int ca), (.int (1 : Int32)), (.ref b_104)] _
   refine XS.iload X104.here hx rfl (hb hby at_114) rfl ?_
   show AT p e below T104 m 116 #[iv p0, iv p1, iv p2, iv p3, iv (1 : Int32), iv ca, iv cb, iv cz, rv b61, rv b_68, rv b_104, un] [(.int cb), (.int ca), (.int (1 : Int32)), (.ref b_104)] _
   refine XS.iload X104.here hx rfl (hb hby at_116) rfl ?_
   show AT p e below T104 m 118 #[iv p0, iv p1, iv p2, iv p3, iv (1 : Int32), iv ca, iv cb, iv cz, rv b61, rv b_68, rv b_104, un] [(.int cz), (.int cb), (.int ca), (.int (1 : Int32)), (.ref b_104)] _
   refine st123 _ ?_
   exact kg)
  have hw125 : (f6_1 ca (nar .byte ((nar .char (nar .char (((nar .byte (ca.toInt8.toInt32)) &&& (255 : Int32)).toUInt32.toUInt16.toUInt32.toInt32))).toInt8.toInt32))) = (1 : Int32) := by rw [own_fin ca okca]; unfold f6_1; rw [own_byte ca okca]; simp
  have pre125 : ∀ tg, AT p e below T123 m 121 #[iv p0, iv p1, iv p2, iv p3, iv (1 : Int32), iv ca, iv cb, iv cz, rv b61, rv b_68, rv b_104, un] [(.int (1 : Int32))] tg → Steps p.tables e below S0 tg := by
    have q := pre124
    rw [hw125] at q
    exact q
  obtain ⟨cl126, Ar126, q126, S126, N126, H126, G126⟩ := id u104_0
  have hin126 := own_in (0 : Int32) S126 ⟨by decide, by decide⟩
  have hat126 : cl126.slots[((0 : Int32)).toNatClampNeg]? = some (.int (nar .byte ((nar .char (nar .char (((nar .byte (ca.toInt8.toInt32)) &&& (255 : Int32)).toUInt32.toUInt16.toUInt32.toInt32))).toInt8.toInt32))) := Has.at H126 hin126 rfl
  obtain ⟨cl127, Ar127, q127, S127, M127, H127, G127⟩ := id u104_0
  have hin127 := own_in (0 : Int32) S127 ⟨by decide, by decide⟩
  obtain ⟨T127, h127, X127, e127, W127, st127⟩ := stB X123 hx hZ e123 Ar127 (j := (0 : Int32)) hin127 (g := (mkF m 142 #[iv p0, iv p1, iv p2, iv p3, iv (1 : Int32), iv ca, iv cb, iv cz, rv b61, rv b_68, rv b_104, un] [(.int (((nar .byte ((nar .char (nar .char (((nar .byte (ca.toInt8.toInt32)) &&& (255 : Int32)).toUInt32.toUInt16.toUInt32.toInt32))).toInt8.toInt32)) ^^^ (1 : Int32)).toInt8.toInt32)), (.int (0 : Int32)), (.ref b_104)])) rfl rfl (hb hby at_142)
  have V127_128 : Arv Z h127 b_104 kb_104 .byte (1 : Int32) [(.int (nar .byte (((nar .byte ((nar .char (nar .char (((nar .byte (ca.toInt8.toInt32)) &&& (255 : Int32)).toUInt32.toUInt16.toUInt32.toInt32))).toInt8.toInt32)) ^^^ (1 : Int32)).toInt8.toInt32)))] (.int (0 : Int32)) := Arv.set Ar127 q127 S127 M127 H127 G127 (fits_nar_byte _) W127 0 rfl (Nat.le_of_ble_eq_true rfl)
  have E127_129 := E104_105.wr W127
  have E127_130 := E104_106.wr W127
  have V127_131 := V104_107.other W127 ne120
  have E127_132 := E104_108.wr W127
  have E127_133 := E104_109.wr W127
  have F127_134 := F104_110.other W127 (Or.inl ne121)
  have F127_135 := F104_111.other W127 (Or.inl ne121)
  have V127_136 := V104_112.other W127 ne122
  have E127_137 := E104_113.wr W127
  have F127_138 := F104_114.other W127 (Or.inl ne118)
  have F127_139 := F104_115.other W127 (Or.inl ne118)
  have V127_140 := V104_116.other W127 ne119
  have E127_141 := u104_1.wr W127
  have K127 := K104.wr W127 (Or.inr sz117)
  have O127 := O104.wr W127 gn117
  have N127 := Fr.snoc X127 N123 gn117
  obtain ⟨cq142, kq142, q142a, q142b, q142c⟩ := isOf hZ e127 E127_129
  obtain ⟨_, _, ⟨T142, L142, k142, n142⟩, -, X142, ⟨Lc142, hQ142, l142, y142, z142⟩, st142⟩ := X127.virtualBack hx (y := y3) (z := y3) hown (mvT hZ (ow hw 12 rfl)) (mvT hZ (ow hw 13 rfl)) (notFace_of_selects (args := #[]) (mvT hZ (ow hw 15 rfl))) (mvT hZ (ow hw 15 rfl)) (mvT hZ (ow hw 14 rfl)) (by decide) (backOf (W := 0) (rm3_1 l Z ar hw [] b61 b_64 kb_64 (nar .byte ((nar .char (nar .char (((nar .byte (ca.toInt8.toInt32)) &&& (255 : Int32)).toUInt32.toUInt16.toUInt32.toInt32))).toInt8.toInt32)) (0 : Int32) (0 : Int32) (0 : Int32) (0 : Int32) (0 : Int32) (0 : Int32) (0 : Int32) h127 n0 O127 E127_129 F127_138 V127_140 F127_139) hZ (ow hw 16 rfl) (ow hw 2 rfl) (by decide) (by decide)) q142a q142c (g := (mkF m 145 #[iv p0, iv p1, iv p2, iv p3, iv (1 : Int32), iv ca, iv cb, iv cz, rv b61, rv b_68, rv b_104, un] [(.ref b61)])) rfl (by rw [hml]; rfl) (Steps.refl _) (argsL := []) (rest := []) (lenOf pd_14 rfl) rfl (by show 2 * 0 + _ ≤ _; exact Nat.le_of_eq rfl) (hb hby at_145) (fun _ _ => ⟨rfl, e127, (by decide : 6 + 1 ≤ _), (by decide : 1032 + 1 ≤ _)⟩)
  dsimp only [Pt.U, Pt.locs, Pt.cells, Pt.slots] at X142 l142 y142 z142 st142 hQ142
  subst l142 y142 z142
  obtain ⟨b_142, kb_142, rfl, N142q, Kq142, u142_0, u142_1, u142_2⟩ := hQ142
  have N142 := Fr.app N127 N142q
  have E142_143 := E127_129.keep Kq142
  have E142_144 := E127_130.keep Kq142
  have V142_145 := V127_131.keep Kq142 nin0
  have E142_146 := E127_132.keep Kq142
  have E142_147 := E127_133.keep Kq142
  have F142_148 := F127_134.keep Kq142 nin0
  have F142_149 := F127_135.keep Kq142 nin0
  have V142_150 := V127_136.keep Kq142 nin0
  have E142_151 := E127_137.keep Kq142
  have F142_152 := F127_138.keep Kq142 nin0
  have F142_153 := F127_139.keep Kq142 nin0
  have V142_154 := V127_140.keep Kq142 nin0
  have V142_155 := V127_128.keep Kq142 nin0
  have E142_156 := E127_141.keep Kq142
  have K142 := K127.trans Kq142 all0
  have O142 := O127.keep Kq142 all0
  have sz157 : h0.size ≤ b_142 := Nat.le_trans K127.1 u142_2
  have gn157 : n0 ≤ b_142 := Nat.le_trans (Nat.le_trans (Nat.le_of_eq O127.1.symm) O127.2.1) u142_2
  have ne158 : b61 ≠ b_142 := Nat.ne_of_lt (Nat.lt_of_lt_of_le (E127_129).lt u142_2)
  have ne159 : b_64 ≠ b_142 := Nat.ne_of_lt (Nat.lt_of_lt_of_le (E127_130).lt u142_2)
  have ne160 : b_68 ≠ b_142 := Nat.ne_of_lt (Nat.lt_of_lt_of_le (V127_131).lt u142_2)
  have ne161 : t_78 ≠ b_142 := Nat.ne_of_lt (Nat.lt_of_lt_of_le (E127_133).lt u142_2)
  have ne162 : b_78 ≠ b_142 := Nat.ne_of_lt (Nat.lt_of_lt_of_le (V127_136).lt u142_2)
  have ne163 : b_104 ≠ b_142 := Nat.ne_of_lt (Nat.lt_of_lt_of_le (V127_128).lt u142_2)
  obtain ⟨_, _, ⟨T164, L164, k164, n164⟩, -, X164, ⟨Lc164, hQ164, l164, y164, z164⟩, st164⟩ := Jvm.LawKit.callS X142 hx (y := y6) hown (mvT hZ (ow hw 31 rfl)) (mvT hZ (ow hw 32 rfl)) (mvT hZ (ow hw 33 rfl)) (mvT hZ (ow hw 34 rfl)) (by decide) (backOf (W := 0) (rm6_1 l Z ar hw [] b_142 ca cb cz kb_142 (nar .byte ((nar .char (nar .char (((nar .byte (ca.toInt8.toInt32)) &&& (255 : Int32)).toUInt32.toUInt16.toUInt32.toInt32))).toInt8.toInt32)) T142.heap n0 O142 u142_0) hZ (ow hw 34 rfl) (ow hw 33 rfl) (by decide) (by decide)) (g := (mkF m 160 #[iv p0, iv p1, iv p2, iv p3, iv (1 : Int32), iv ca, iv cb, iv cz, rv b61, rv b_68, rv b_104, rv b_142] [(.int cz), (.int cb), (.int ca), (.int (1 : Int32)), (.ref b_142)])) rfl (by rw [hml]; rfl) (argsL := [(.ref b_142), (.int (1 : Int32)), (.int ca), (.int cb), (.int cz)]) (rest := []) (lenOf pd_15 rfl) rfl (by show 2 * 0 + _ ≤ _; exact Nat.le_of_eq rfl) (hb hby at_160) (fun _ _ => ⟨rfl, rfl, (by decide : 7 + 0 ≤ _), (by decide : 1033 + 0 ≤ _)⟩)
  dsimp only [Pt.U, Pt.locs, Pt.cells, Pt.slots] at X164 l164 y164 z164 st164 hQ164
  subst l164 y164 z164
  obtain ⟨rfl, N164q, e164⟩ := hQ164
  have N164 := Fr.app N142 N164q
  have pre165 : ∀ tg, AT p e below T164 m 163 #[iv p0, iv p1, iv p2, iv p3, iv (1 : Int32), iv ca, iv cb, iv cz, rv b61, rv b_68, rv b_104, rv b_142] [(.int (f6_1 ca (nar .byte ((nar .char (nar .char (((nar .byte (ca.toInt8.toInt32)) &&& (255 : Int32)).toUInt32.toUInt16.toUInt32.toInt32))).toInt8.toInt32))))] tg → Steps p.tables e below S0 tg := fun tg kg => pre125 tg (by
   refine XS.ifYes X123.here hx rfl (pc0 := 121) (pc' := 126) rfl (hb hby at_121) rfl (XT.i0_ne_t ((by decide) : ¬ ((1 : Int32) = (0 : Int32)))) (by decide) (by decide) ?_
   show AT p e below T123 m 126 #[iv p0, iv p1, iv p2, iv p3, iv (1 : Int32), iv ca, iv cb, iv cz, rv b61, rv b_68, rv b_104, un] [] _
   refine XS.iload X123.here hx rfl (hb hby at_126) rfl ?_
   show AT p e below T123 m 128 #[iv p0, iv p1, iv p2, iv p3, iv (1 : Int32), iv ca, iv cb, iv cz, rv b61, rv b_68, rv b_104, un] [(.int (1 : Int32))] _
   refine XS.iconst X123.here hx rfl (hb hby at_128) ?_
   show AT p e below T123 m 129 #[iv p0, iv p1, iv p2, iv p3, iv (1 : Int32), iv ca, iv cb, iv cz, rv b61, rv b_68, rv b_104, un] [(.int (1 : Int32)), (.int (1 : Int32))] _
   refine XS.icmpNo X123.here hx rfl (hb hby at_129) rfl (XT.ii_lt_f ((by decide) : ¬ ((1 : Int32) < (1 : Int32)))) ?_
   show AT p e below T123 m 132 #[iv p0, iv p1, iv p2, iv p3, iv (1 : Int32), iv ca, iv cb, iv cz, rv b61, rv b_68, rv b_104, un] [] _
   refine XS.aload X123.here hx rfl (hb hby at_132) rfl rfl ?_
   show AT p e below T123 m 134 #[iv p0, iv p1, iv p2, iv p3, iv (1 : Int32), iv ca, iv cb, iv cz, rv b61, rv b_68, rv b_104, un] [(.ref b_104)] _
   refine XS.iconst X123.here hx rfl (hb hby at_134) ?_
   show AT p e below T123 m 135 #[iv p0, iv p1, iv p2, iv p3, iv (1 : Int32), iv ca, iv cb, iv cz, rv b61, rv b_68, rv b_104, un] [(.int (0 : Int32)), (.ref b_104)] _
   refine XS.aload X123.here hx rfl (hb hby at_135) rfl rfl ?_
   show AT p e below T123 m 137 #[iv p0, iv p1, iv p2, iv p3, iv (1 : Int32), iv ca, iv cb, iv cz, rv b61, rv b_68, rv b_104, un] [(.ref b_104), (.int (0 : Int32)), (.ref b_104)] _
   refine XS.iconst X123.here hx rfl (hb hby at_137) ?_
   show AT p e below T123 m 138 #[iv p0, iv p1, iv p2, iv p3, iv (1 : Int32), iv ca, iv cb, iv cz, rv b61, rv b_68, rv b_104, un] [(.int (0 : Int32)), (.ref b_104), (.int (0 : Int32)), (.ref b_104)] _
   refine X123.baloadBytes hx (j := (0 : Int32)) (v := (.int (nar .byte ((nar .char (nar .char (((nar .byte (ca.toInt8.toInt32)) &&& (255 : Int32)).toUInt32.toUInt16.toUInt32.toInt32))).toInt8.toInt32)))) (by rw [e123]; exact Ar126.1) (State.isArrayOf_alike hZ.alike Ar126.2.1) Ar126.2.2 hin126 hat126 (g := (mkF m 138 #[iv p0, iv p1, iv p2, iv p3, iv (1 : Int32), iv ca, iv cb, iv cz, rv b61, rv b_68, rv b_104, un] [(.int (0 : Int32)), (.ref b_104), (.int (0 : Int32)), (.ref b_104)])) rfl rfl (hb hby at_138) _ ?_
   show AT p e below T123 m 139 #[iv p0, iv p1, iv p2, iv p3, iv (1 : Int32), iv ca, iv cb, iv cz, rv b61, rv b_68, rv b_104, un] [(.int (nar .byte ((nar .char (nar .char (((nar .byte (ca.toInt8.toInt32)) &&& (255 : Int32)).toUInt32.toUInt16.toUInt32.toInt32))).toInt8.toInt32))), (.int (0 : Int32)), (.ref b_104)] _
   refine XS.iconst X123.here hx rfl (hb hby at_139) ?_
   show AT p e below T123 m 140 #[iv p0, iv p1, iv p2, iv p3, iv (1 : Int32), iv ca, iv cb, iv cz, rv b61, rv b_68, rv b_104, un] [(.int (1 : Int32)), (.int (nar .byte ((nar .char (nar .char (((nar .byte (ca.toInt8.toInt32)) &&& (255 : Int32)).toUInt32.toUInt16.toUInt32.toInt32))).toInt8.toInt32))), (.int (0 : Int32)), (.ref b_104)] _
   refine XS.ixor X123.here hx rfl (hb hby at_140) rfl ?_
   show AT p e below T123 m 141 #[iv p0, iv p1, iv p2, iv p3, iv (1 : Int32), iv ca, iv cb, iv cz, rv b61, rv b_68, rv b_104, un] [(.int ((nar .byte ((nar .char (nar .char (((nar .byte (ca.toInt8.toInt32)) &&& (255 : Int32)).toUInt32.toUInt16.toUInt32.toInt32))).toInt8.toInt32)) ^^^ (1 : Int32))), (.int (0 : Int32)), (.ref b_104)] _
   refine XS.i2b X123.here hx rfl (hb hby at_141) rfl ?_
   show AT p e below T123 m 142 #[iv p0, iv p1, iv p2, iv p3, iv (1 : Int32), iv ca, iv cb, iv cz, rv b61, rv b_68, rv b_104, un] [(.int (((nar .byte ((nar .char (nar .char (((nar .byte (ca.toInt8.toInt32)) &&& (255 : Int32)).toUInt32.toUInt16.toUInt32.toInt32))).toInt8.toInt32)) ^^^ (1 : Int32)).toInt8.toInt32)), (.int (0 : Int32)), (.ref b_104)] _
   refine st127 _ ?_
   show AT p e below T127 m 143 #[iv p0, iv p1, iv p2, iv p3, iv (1 : Int32), iv ca, iv cb, iv cz, rv b61, rv b_68, rv b_104, un] [] _
   refine XS.aload X127.here hx rfl (hb hby at_143) rfl rfl ?_
   show AT p e below T127 m 145 #[iv p0, iv p1, iv p2, iv p3, iv (1 : Int32), iv ca, iv cb, iv cz, rv b61, rv b_68, rv b_104, un] [(.ref b61)] _
   refine st142.trans ?_
   show AT p e below T142 m 148 #[iv p0, iv p1, iv p2, iv p3, iv (1 : Int32), iv ca, iv cb, iv cz, rv b61, rv b_68, rv b_104, un] [(.ref b_142)] _
   refine XS.astore X142.here hx rfl (hb hby at_148) rfl rfl (l' := #[iv p0, iv p1, iv p2, iv p3, iv (1 : Int32), iv ca, iv cb, iv cz, rv b61, rv b_68, rv b_104, rv b_142]) rfl ?_
   show AT p e below T142 m 150 #[iv p0, iv p1, iv p2, iv p3, iv (1 : Int32), iv ca, iv cb, iv cz, rv b61, rv b_68, rv b_104, rv b_142] [] _
   refine XS.aload X142.here hx rfl (hb hby at_150) rfl rfl ?_
   show AT p e below T142 m 152 #[iv p0, iv p1, iv p2, iv p3, iv (1 : Int32), iv ca, iv cb, iv cz, rv b61, rv b_68, rv b_104, rv b_142] [(.ref b_142)] _
   refine XS.iload X142.here hx rfl (hb hby at_152) rfl ?_
   show AT p e below T142 m 154 #[iv p0, iv p1, iv p2, iv p3, iv (1 : Int32), iv ca, iv cb, iv cz, rv b61, rv b_68, rv b_104, rv b_142] [(.int (1 : Int32)), (.ref b_142)] _
   refine XS.iload X142.here hx rfl (hb hby at_154) rfl ?_
   show AT p e below T142 m 156 #[iv p0, iv p1, iv p2, iv p3, iv (1 : Int32), iv ca, iv cb, iv cz, rv b61, rv b_68, rv b_104, rv b_142] [(.int ca), (.int (1 : Int32)), (.ref b_142)] _
   refine XS.iload X142.here hx rfl (hb hby at_156) rfl ?_
   show AT p e below T142 m 158 #[iv p0, iv p1, iv p2, iv p3, iv (1 : Int32), iv ca, iv cb, iv cz, rv b61, rv b_68, rv b_104, rv b_142] [(.int cb), (.int ca), (.int (1 : Int32)), (.ref b_142)] _
   refine XS.iload X142.here hx rfl (hb hby at_158) rfl ?_
   show AT p e below T142 m 160 #[iv p0, iv p1, iv p2, iv p3, iv (1 : Int32), iv ca, iv cb, iv cz, rv b61, rv b_68, rv b_104, rv b_142] [(.int cz), (.int cb), (.int ca), (.int (1 : Int32)), (.ref b_142)] _
   refine st164 _ ?_
   exact kg)
  have hw166 : (f6_1 ca (nar .byte ((nar .char (nar .char (((nar .byte (ca.toInt8.toInt32)) &&& (255 : Int32)).toUInt32.toUInt16.toUInt32.toInt32))).toInt8.toInt32))) = (1 : Int32) := by rw [own_fin ca okca]; unfold f6_1; rw [own_byte ca okca]; simp
  have pre166 : ∀ tg, AT p e below T164 m 163 #[iv p0, iv p1, iv p2, iv p3, iv (1 : Int32), iv ca, iv cb, iv cz, rv b61, rv b_68, rv b_104, rv b_142] [(.int (1 : Int32))] tg → Steps p.tables e below S0 tg := by
    have q := pre165
    rw [hw166] at q
    exact q
  obtain ⟨fs, hr, hrun, hended, hW, hsame⟩ := X164.leave (v := some (.int (1 : Int32))) (fun h => by rw [Bd.returns] at h; cases h)
  subst hS0
  refine ⟨_, _, pre166 _ ?_, hrun, hended, _, _, rfl, ?_, ⟨_, rfl⟩, hW, hsame.mono (by decide) (by decide)⟩
  ·
   exact retN X164 hx (t := .boolean) Bd.returns (by simp) (hb hby at_163) hr
  ·
   show Q0 Z p0 p1 p2 p3 w_CS0 w_SF1 h0 n0 _ T164.heap _
   rw [e164]
   exact ⟨rfl, N164⟩
 ·
  have pre167 : ∀ tg, AT p e below s₁ m 12 #[iv p0, iv p1, iv p2, iv p3, iv (2 : Int32), iv ((p1 &&& (127 : Int32)).toUInt32.toUInt16.toUInt32.toInt32), un, un, un, un, un, un] [] tg → Steps p.tables e below S0 tg := fun tg kg => pre2 tg (by
   refine XS.iloadN X0.here hx rfl (hb hby at_5) rfl ?_
   show AT p e below s₁ m 6 #[iv p0, iv p1, iv p2, iv p3, iv (2 : Int32), un, un, un, un, un, un, un] [(.int p1)] _
   refine XS.bipush X0.here hx rfl (hb hby at_6) ?_
   show AT p e below s₁ m 8 #[iv p0, iv p1, iv p2, iv p3, iv (2 : Int32), un, un, un, un, un, un, un] [(.int (127 : Int32)), (.int p1)] _
   refine XS.iand X0.here hx rfl (hb hby at_8) rfl ?_
   show AT p e below s₁ m 9 #[iv p0, iv p1, iv p2, iv p3, iv (2 : Int32), un, un, un, un, un, un, un] [(.int (p1 &&& (127 : Int32)))] _
   refine XS.i2c X0.here hx rfl (hb hby at_9) rfl ?_
   show AT p e below s₁ m 10 #[iv p0, iv p1, iv p2, iv p3, iv (2 : Int32), un, un, un, un, un, un, un] [(.int ((p1 &&& (127 : Int32)).toUInt32.toUInt16.toUInt32.toInt32))] _
   refine XS.istore X0.here hx rfl (hb hby at_10) rfl (l' := #[iv p0, iv p1, iv p2, iv p3, iv (2 : Int32), iv ((p1 &&& (127 : Int32)).toUInt32.toUInt16.toUInt32.toInt32), un, un, un, un, un, un]) rfl ?_
   exact kg)
  obtain ⟨ca, hca⟩ : ∃ z, z = ((p1 &&& (127 : Int32)).toUInt32.toUInt16.toUInt32.toInt32) := ⟨_, rfl⟩
  have pre168 : ∀ tg, AT p e below s₁ m 12 #[iv p0, iv p1, iv p2, iv p3, iv (2 : Int32), iv ca, un, un, un, un, un, un] [] tg → Steps p.tables e below S0 tg := by rw [hca]; exact pre167
  have okca : ok7 ca := by rw [hca]; exact own_ok p1
  have pre169 : ∀ tg, AT p e below s₁ m 19 #[iv p0, iv p1, iv p2, iv p3, iv (2 : Int32), iv ca, iv ((p2 &&& (127 : Int32)).toUInt32.toUInt16.toUInt32.toInt32), un, un, un, un, un] [] tg → Steps p.tables e below S0 tg := fun tg kg => pre168 tg (by
   refine XS.iloadN X0.here hx rfl (hb hby at_12) rfl ?_
   show AT p e below s₁ m 13 #[iv p0, iv p1, iv p2, iv p3, iv (2 : Int32), iv ca, un, un, un, un, un, un] [(.int p2)] _
   refine XS.bipush X0.here hx rfl (hb hby at_13) ?_
   show AT p e below s₁ m 15 #[iv p0, iv p1, iv p2, iv p3, iv (2 : Int32), iv ca, un, un, un, un, un, un] [(.int (127 : Int32)), (.int p2)] _
   refine XS.iand X0.here hx rfl (hb hby at_15) rfl ?_
   show AT p e below s₁ m 16 #[iv p0, iv p1, iv p2, iv p3, iv (2 : Int32), iv ca, un, un, un, un, un, un] [(.int (p2 &&& (127 : Int32)))] _
   refine XS.i2c X0.here hx rfl (hb hby at_16) rfl ?_
   show AT p e below s₁ m 17 #[iv p0, iv p1, iv p2, iv p3, iv (2 : Int32), iv ca, un, un, un, un, un, un] [(.int ((p2 &&& (127 : Int32)).toUInt32.toUInt16.toUInt32.toInt32))] _
   refine XS.istore X0.here hx rfl (hb hby at_17) rfl (l' := #[iv p0, iv p1, iv p2, iv p3, iv (2 : Int32), iv ca, iv ((p2 &&& (127 : Int32)).toUInt32.toUInt16.toUInt32.toInt32), un, un, un, un, un]) rfl ?_
   exact kg)
  obtain ⟨cb, hcb⟩ : ∃ z, z = ((p2 &&& (127 : Int32)).toUInt32.toUInt16.toUInt32.toInt32) := ⟨_, rfl⟩
  have pre170 : ∀ tg, AT p e below s₁ m 19 #[iv p0, iv p1, iv p2, iv p3, iv (2 : Int32), iv ca, iv cb, un, un, un, un, un] [] tg → Steps p.tables e below S0 tg := by rw [hcb]; exact pre169
  have okcb : ok7 cb := by rw [hcb]; exact own_ok p2
  have pre171 : ∀ tg, AT p e below s₁ m 26 #[iv p0, iv p1, iv p2, iv p3, iv (2 : Int32), iv ca, iv cb, iv ((p3 &&& (127 : Int32)).toUInt32.toUInt16.toUInt32.toInt32), un, un, un, un] [] tg → Steps p.tables e below S0 tg := fun tg kg => pre170 tg (by
   refine XS.iloadN X0.here hx rfl (hb hby at_19) rfl ?_
   show AT p e below s₁ m 20 #[iv p0, iv p1, iv p2, iv p3, iv (2 : Int32), iv ca, iv cb, un, un, un, un, un] [(.int p3)] _
   refine XS.bipush X0.here hx rfl (hb hby at_20) ?_
   show AT p e below s₁ m 22 #[iv p0, iv p1, iv p2, iv p3, iv (2 : Int32), iv ca, iv cb, un, un, un, un, un] [(.int (127 : Int32)), (.int p3)] _
   refine XS.iand X0.here hx rfl (hb hby at_22) rfl ?_
   show AT p e below s₁ m 23 #[iv p0, iv p1, iv p2, iv p3, iv (2 : Int32), iv ca, iv cb, un, un, un, un, un] [(.int (p3 &&& (127 : Int32)))] _
   refine XS.i2c X0.here hx rfl (hb hby at_23) rfl ?_
   show AT p e below s₁ m 24 #[iv p0, iv p1, iv p2, iv p3, iv (2 : Int32), iv ca, iv cb, un, un, un, un, un] [(.int ((p3 &&& (127 : Int32)).toUInt32.toUInt16.toUInt32.toInt32))] _
   refine XS.istore X0.here hx rfl (hb hby at_24) rfl (l' := #[iv p0, iv p1, iv p2, iv p3, iv (2 : Int32), iv ca, iv cb, iv ((p3 &&& (127 : Int32)).toUInt32.toUInt16.toUInt32.toInt32), un, un, un, un]) rfl ?_
   exact kg)
  obtain ⟨cz, hcz⟩ : ∃ z, z = ((p3 &&& (127 : Int32)).toUInt32.toUInt16.toUInt32.toInt32) := ⟨_, rfl⟩
  have pre172 : ∀ tg, AT p e below s₁ m 26 #[iv p0, iv p1, iv p2, iv p3, iv (2 : Int32), iv ca, iv cb, iv cz, un, un, un, un] [] tg → Steps p.tables e below S0 tg := by rw [hcz]; exact pre171
  have okcz : ok7 cz := by rw [hcz]; exact own_ok p3
  obtain ⟨T173, h173, X173, e173, E173, A173, D173, -, st173⟩ := newO X0 hx hZ hown (ow hw 0 rfl) (ow hw 1 rfl) (ow hw 2 rfl) e0 (g := (mkF m 26 #[iv p0, iv p1, iv p2, iv p3, iv (2 : Int32), iv ca, iv cb, iv cz, un, un, un, un] [])) rfl (hb hby at_26) (by decide) (by decide)
  obtain ⟨b173, g173⟩ : ∃ z, z = h0.size := ⟨_, rfl⟩
  rw [← g173] at A173 D173 st173
  have gn173 : n0 ≤ b173 := Nat.le_trans (Nat.le_trans (Nat.le_of_eq O0.1.symm) O0.2.1) (Nat.le_of_eq g173.symm)
  have sz173 : h0.size ≤ b173 := Nat.le_trans (Keep.refl h0 []).1 (Nat.le_of_eq g173.symm)
  have K173 := (Keep.refl h0 []).ext E173
  have O173 := O0.ext E173
  have F173_174 : Fld Z h173 b173 "com/example/polity/polity/io/saml/CanonicalXml" "bytes" "[B" .null := D173 (Or.inl (ow hw 11 rfl)) (ty := (.array .byte)) (by decide)
  have F173_175 : Fld Z h173 b173 "com/example/polity/polity/io/saml/CanonicalXml" "length" "I" (.int (0 : Int32)) := D173 (Or.inl (ow hw 18 rfl)) (ty := .int) (by decide)
  obtain ⟨_, _, ⟨T176, L176, k176, n176⟩, -, X176, ⟨Lc176, hQ176, l176, y176, z176⟩, st176⟩ := X173.specialBack hx (y := y1) rfl hown (mvT hZ (ow hw 3 rfl)) (mvT hZ (ow hw 4 rfl)) (mvT hZ (ow hw 5 rfl)) (by decide) (backOf (W := 1) (rm1 l Z ar hw [] b173 h173 n0 O173 A173 F173_174 F173_175 gn173) hZ (ow hw 5 rfl) (ow hw 2 rfl) (by decide) (by decide)) (g := (mkF m 30 #[iv p0, iv p1, iv p2, iv p3, iv (2 : Int32), iv ca, iv cb, iv cz, un, un, un, un] [(.ref b173), (.ref b173)])) rfl (by rw [hml]; rfl) (Steps.refl _) (a := b173) (argsL := []) (rest := [(.ref b173)]) (lenOf pd_13 rfl) rfl (by show 2 * 0 + _ ≤ _; exact Nat.le_of_eq rfl) (hb hby at_30) (fun _ _ => ⟨rfl, e173, (by decide : 1 + 1 ≤ _), (by decide : 2 + 1024 ≤ _)⟩)
  dsimp only [Pt.U, Pt.locs, Pt.cells, Pt.slots] at X176 l176 y176 z176 st176 hQ176
  subst l176 y176 z176
  obtain ⟨b_176, kb_176, rfl, N176q, Kq176, u176_0, u176_1, u176_2, u176_3, u176_4, u176_5, u176_6⟩ := hQ176
  have N176 := Fr.app N0 N176q
  have E176_177 := A173.keep Kq176
  have K176 := K173.trans Kq176 (allS (Or.inr sz173) all0)
  have O176 := O173.keep Kq176 (allS gn173 all0)
  have sz178 : h0.size ≤ b_176 := Nat.le_trans K173.1 u176_5
  have gn178 : n0 ≤ b_176 := Nat.le_trans (Nat.le_trans (Nat.le_of_eq O173.1.symm) O173.2.1) u176_5
  have ne179 : b173 ≠ b_176 := Nat.ne_of_lt (Nat.lt_of_lt_of_le (A173).lt u176_5)
  obtain ⟨cq180, kq180, q180a, q180b, q180c⟩ := isOf hZ rfl E176_177
  obtain ⟨_, _, ⟨T180, L180, k180, n180⟩, -, X180, ⟨Lc180, hQ180, l180, y180, z180⟩, st180⟩ := X176.virtualBack hx (y := y3) (z := y3) hown (mvT hZ (ow hw 12 rfl)) (mvT hZ (ow hw 13 rfl)) (notFace_of_selects (args := #[]) (mvT hZ (ow hw 15 rfl))) (mvT hZ (ow hw 15 rfl)) (mvT hZ (ow hw 14 rfl)) (by decide) (backOf (W := 0) (rm3_0 l Z ar hw [] b173 b_176 kb_176 (0 : Int32) (0 : Int32) (0 : Int32) (0 : Int32) (0 : Int32) (0 : Int32) (0 : Int32) (0 : Int32) T176.heap n0 O176 E176_177 u176_1 u176_3 u176_2) hZ (ow hw 16 rfl) (ow hw 2 rfl) (by decide) (by decide)) q180a q180c (g := (mkF m 37 #[iv p0, iv p1, iv p2, iv p3, iv (2 : Int32), iv ca, iv cb, iv cz, rv b173, un, un, un] [(.ref b173)])) rfl (by rw [hml]; rfl) (Steps.refl _) (argsL := []) (rest := []) (lenOf pd_14 rfl) rfl (by show 2 * 0 + _ ≤ _; exact Nat.le_of_eq rfl) (hb hby at_37) (fun _ _ => ⟨rfl, rfl, (by decide : 2 + 1 ≤ _), (by decide : 1026 + 0 ≤ _)⟩)
  dsimp only [Pt.U, Pt.locs, Pt.cells, Pt.slots] at X180 l180 y180 z180 st180 hQ180
  subst l180 y180 z180
  obtain ⟨b_180, kb_180, rfl, N180q, Kq180, u180_0, u180_1, u180_2⟩ := hQ180
  have N180 := Fr.app N176 N180q
  have E180_181 := E176_177.keep Kq180
  have F180_182 := u176_1.keep Kq180 nin0
  have F180_183 := u176_2.keep Kq180 nin0
  have V180_184 := u176_3.keep Kq180 nin0
  have E180_185 := u176_4.keep Kq180
  have K180 := K176.trans Kq180 all0
  have O180 := O176.keep Kq180 all0
  have sz186 : h0.size ≤ b_180 := Nat.le_trans K176.1 u180_2
  have gn186 : n0 ≤ b_180 := Nat.le_trans (Nat.le_trans (Nat.le_of_eq O176.1.symm) O176.2.1) u180_2
  have ne187 : b173 ≠ b_180 := Nat.ne_of_lt (Nat.lt_of_lt_of_le (E176_177).lt u180_2)
  have ne188 : b_176 ≠ b_180 := Nat.ne_of_lt (Nat.lt_of_lt_of_le (u176_3).lt u180_2)
  obtain ⟨cl189, Ar189, q189, S189, N189, H189, G189⟩ := id u180_0
  obtain ⟨_, _, ⟨T190, L190, k190, n190⟩, -, X190, ⟨Lc190, hQ190, l190, y190, z190⟩, st190⟩ := Jvm.LawKit.callS X180 hx (y := y7) hown (mvT hZ (ow hw 35 rfl)) (mvT hZ (ow hw 36 rfl)) (mvT hZ (ow hw 37 rfl)) (mvT hZ (ow hw 38 rfl)) (by decide) (backOf (W := 1) (rm7 l Z ar hw [] ca w_CS0 w_SF1 T180.heap n0 O180 HW (own_l255 _ okca)) hZ (ow hw 38 rfl) (ow hw 37 rfl) (by decide) (by decide)) (g := (mkF m 60 #[iv p0, iv p1, iv p2, iv p3, iv (2 : Int32), iv ca, iv cb, iv cz, rv b173, rv b_180, un, un] [(.int ca), (.ref b173)])) rfl (by rw [hml]; rfl) (argsL := [(.int ca)]) (rest := [(.ref b173)]) (lenOf pd_16 rfl) rfl (by show 2 * 0 + _ ≤ _; exact Nat.le_of_eq rfl) (hb hby at_60) (fun _ _ => ⟨rfl, rfl, (by decide : 3 + 2 ≤ _), (by decide : 1026 + 5 ≤ _)⟩)
  dsimp only [Pt.U, Pt.locs, Pt.cells, Pt.slots] at X190 l190 y190 z190 st190 hQ190
  subst l190 y190 z190
  obtain ⟨t_190, b_190, kb_190, rfl, N190q, Kq190, u190_0, u190_1, u190_2, u190_3, u190_4, u190_5, u190_6, u190_7⟩ := hQ190
  have N190 := Fr.app N180 N190q
  have E190_191 := E180_181.keep Kq190
  have F190_192 := F180_182.keep Kq190 nin0
  have F190_193 := F180_183.keep Kq190 nin0
  have V190_194 := V180_184.keep Kq190 nin0
  have E190_195 := E180_185.keep Kq190
  have V190_196 := u180_0.keep Kq190 nin0
  have E190_197 := u180_1.keep Kq190
  have K190 := K180.trans Kq190 all0
  have O190 := O180.keep Kq190 all0
  have sz198 : h0.size ≤ t_190 := Nat.le_trans K180.1 u190_5
  have gn198 : n0 ≤ t_190 := Nat.le_trans (Nat.le_trans (Nat.le_of_eq O180.1.symm) O180.2.1) u190_5
  have ne199 : b173 ≠ t_190 := Nat.ne_of_lt (Nat.lt_of_lt_of_le (E180_181).lt u190_5)
  have ne200 : b_176 ≠ t_190 := Nat.ne_of_lt (Nat.lt_of_lt_of_le (V180_184).lt u190_5)
  have ne201 : b_180 ≠ t_190 := Nat.ne_of_lt (Nat.lt_of_lt_of_le (u180_0).lt u190_5)
  have sz202 : h0.size ≤ b_190 := Nat.le_trans K180.1 u190_6
  have gn202 : n0 ≤ b_190 := Nat.le_trans (Nat.le_trans (Nat.le_of_eq O180.1.symm) O180.2.1) u190_6
  have ne203 : b173 ≠ b_190 := Nat.ne_of_lt (Nat.lt_of_lt_of_le (E180_181).lt u190_6)
  have ne204 : b_176 ≠ b_190 := Nat.ne_of_lt (Nat.lt_of_lt_of_le (V180_184).lt u190_6)
  have ne205 : b_180 ≠ b_190 := Nat.ne_of_lt (Nat.lt_of_lt_of_le (u180_0).lt u190_6)
  obtain ⟨cq206, kq206, q206a, q206b, q206c⟩ := isOf hZ rfl E190_191
  obtain ⟨_, _, ⟨T206, L206, k206, n206⟩, -, X206, ⟨Lc206, hQ206, l206, y206, z206⟩, st206⟩ := X190.virtualBack hx (y := y11) (z := y11) hown (mvT hZ (ow hw 58 rfl)) (mvT hZ (ow hw 59 rfl)) (notFace_of_selects (args := #[]) (mvT hZ (ow hw 61 rfl))) (mvT hZ (ow hw 61 rfl)) (mvT hZ (ow hw 60 rfl)) (by decide) (backOf (W := 0) (rm11_0 l Z ar hw [] b173 t_190 w_CS0 w_SF1 b_176 kb_176 (0 : Int32) (0 : Int32) (0 : Int32) (0 : Int32) (0 : Int32) (0 : Int32) (0 : Int32) (0 : Int32) b_190 kb_190 (nar .byte (ca.toInt8.toInt32)) T190.heap n0 O190 HW E190_191 F190_192 V190_194 F190_193 gn173 gn178 u176_6 u190_0 u190_1 u190_2 u190_3 (Ne.symm ne199) (Ne.symm ne204) (Ne.symm ne203) (Ne.symm ne200) (own_l127 _ okca)) hZ (ow hw 62 rfl) (ow hw 2 rfl) (by decide) (by decide)) q206a q206c (g := (mkF m 63 #[iv p0, iv p1, iv p2, iv p3, iv (2 : Int32), iv ca, iv cb, iv cz, rv b173, rv b_180, un, un] [(.ref t_190), (.ref b173)])) rfl (by rw [hml]; rfl) (Steps.refl _) (argsL := [(.ref t_190)]) (rest := []) (lenOf pd_17 rfl) rfl (by show 2 * 0 + _ ≤ _; exact Nat.le_of_eq rfl) (hb hby at_63) (fun _ _ => ⟨rfl, rfl, (by decide : 5 + 0 ≤ _), (by decide : 1031 + 0 ≤ _)⟩)
  dsimp only [Pt.U, Pt.locs, Pt.cells, Pt.slots] at X206 l206 y206 z206 st206 hQ206
  subst l206 y206 z206
  obtain ⟨rfl, N206q, Kq206, u206_0, u206_1, u206_2, u206_3⟩ := hQ206
  have N206 := Fr.app N190 N206q
  have E206_207 := E190_191.keep Kq206
  have E206_208 := E190_195.keep Kq206
  have V206_209 := V190_196.keep Kq206 (ninS (Ne.symm ne187) (ninS (Ne.symm ne188) nin0))
  have E206_210 := E190_197.keep Kq206
  have E206_211 := u190_0.keep Kq206
  have F206_212 := u190_1.keep Kq206 (ninS (Ne.symm ne199) (ninS (Ne.symm ne200) nin0))
  have F206_213 := u190_2.keep Kq206 (ninS (Ne.symm ne199) (ninS (Ne.symm ne200) nin0))
  have V206_214 := u190_3.keep Kq206 (ninS (Ne.symm ne203) (ninS (Ne.symm ne204) nin0))
  have E206_215 := u190_4.keep Kq206
  have K206 := K190.trans Kq206 (allS (Or.inr sz173) (allS (Or.inr sz178) all0))
  have O206 := O190.keep Kq206 (allS gn173 (allS gn178 all0))
  obtain ⟨_, _, ⟨T216, L216, k216, n216⟩, -, X216, ⟨Lc216, hQ216, l216, y216, z216⟩, st216⟩ := Jvm.LawKit.callS X206 hx (y := y7) hown (mvT hZ (ow hw 35 rfl)) (mvT hZ (ow hw 36 rfl)) (mvT hZ (ow hw 37 rfl)) (mvT hZ (ow hw 38 rfl)) (by decide) (backOf (W := 1) (rm7 l Z ar hw [] cb w_CS0 w_SF1 T206.heap n0 O206 HW (own_l255 _ okcb)) hZ (ow hw 38 rfl) (ow hw 37 rfl) (by decide) (by decide)) (g := (mkF m 77 #[iv p0, iv p1, iv p2, iv p3, iv (2 : Int32), iv ca, iv cb, iv cz, rv b173, rv b_180, un, un] [(.int cb), (.ref b173)])) rfl (by rw [hml]; rfl) (argsL := [(.int cb)]) (rest := [(.ref b173)]) (lenOf pd_16 rfl) rfl (by show 2 * 0 + _ ≤ _; exact Nat.le_of_eq rfl) (hb hby at_77) (fun _ _ => ⟨rfl, rfl, (by decide : 5 + 2 ≤ _), (by decide : 1031 + 5 ≤ _)⟩)
  dsimp only [Pt.U, Pt.locs, Pt.cells, Pt.slots] at X216 l216 y216 z216 st216 hQ216
  subst l216 y216 z216
  obtain ⟨t_216, b_216, kb_216, rfl, N216q, Kq216, u216_0, u216_1, u216_2, u216_3, u216_4, u216_5, u216_6, u216_7⟩ := hQ216
  have N216 := Fr.app N206 N216q
  have E216_217 := E206_207.keep Kq216
  have E216_218 := E206_208.keep Kq216
  have V216_219 := V206_209.keep Kq216 nin0
  have E216_220 := E206_210.keep Kq216
  have E216_221 := E206_211.keep Kq216
  have F216_222 := F206_212.keep Kq216 nin0
  have F216_223 := F206_213.keep Kq216 nin0
  have V216_224 := V206_214.keep Kq216 nin0
  have E216_225 := E206_215.keep Kq216
  have F216_226 := u206_1.keep Kq216 nin0
  have F216_227 := u206_2.keep Kq216 nin0
  have V216_228 := u206_3.keep Kq216 nin0
  have K216 := K206.trans Kq216 all0
  have O216 := O206.keep Kq216 all0
  have sz229 : h0.size ≤ t_216 := Nat.le_trans K206.1 u216_5
  have gn229 : n0 ≤ t_216 := Nat.le_trans (Nat.le_trans (Nat.le_of_eq O206.1.symm) O206.2.1) u216_5
  have ne230 : b173 ≠ t_216 := Nat.ne_of_lt (Nat.lt_of_lt_of_le (E206_207).lt u216_5)
  have ne231 : b_176 ≠ t_216 := Nat.ne_of_lt (Nat.lt_of_lt_of_le (E206_208).lt u216_5)
  have ne232 : b_180 ≠ t_216 := Nat.ne_of_lt (Nat.lt_of_lt_of_le (V206_209).lt u216_5)
  have ne233 : t_190 ≠ t_216 := Nat.ne_of_lt (Nat.lt_of_lt_of_le (E206_211).lt u216_5)
  have ne234 : b_190 ≠ t_216 := Nat.ne_of_lt (Nat.lt_of_lt_of_le (V206_214).lt u216_5)
  have sz235 : h0.size ≤ b_216 := Nat.le_trans K206.1 u216_6
  have gn235 : n0 ≤ b_216 := Nat.le_trans (Nat.le_trans (Nat.le_of_eq O206.1.symm) O206.2.1) u216_6
  have ne236 : b173 ≠ b_216 := Nat.ne_of_lt (Nat.lt_of_lt_of_le (E206_207).lt u216_6)
  have ne237 : b_176 ≠ b_216 := Nat.ne_of_lt (Nat.lt_of_lt_of_le (E206_208).lt u216_6)
  have ne238 : b_180 ≠ b_216 := Nat.ne_of_lt (Nat.lt_of_lt_of_le (V206_209).lt u216_6)
  have ne239 : t_190 ≠ b_216 := Nat.ne_of_lt (Nat.lt_of_lt_of_le (E206_211).lt u216_6)
  have ne240 : b_190 ≠ b_216 := Nat.ne_of_lt (Nat.lt_of_lt_of_le (V206_214).lt u216_6)
  obtain ⟨cq241, kq241, q241a, q241b, q241c⟩ := isOf hZ rfl E216_217
  obtain ⟨_, _, ⟨T241, L241, k241, n241⟩, -, X241, ⟨Lc241, hQ241, l241, y241, z241⟩, st241⟩ := X216.virtualBack hx (y := y11) (z := y11) hown (mvT hZ (ow hw 58 rfl)) (mvT hZ (ow hw 59 rfl)) (notFace_of_selects (args := #[]) (mvT hZ (ow hw 61 rfl))) (mvT hZ (ow hw 61 rfl)) (mvT hZ (ow hw 60 rfl)) (by decide) (backOf (W := 0) (rm11_1 l Z ar hw [] b173 t_216 w_CS0 w_SF1 b_176 kb_176 (nar .byte ((nar .char (nar .char (((nar .byte (ca.toInt8.toInt32)) &&& (255 : Int32)).toUInt32.toUInt16.toUInt32.toInt32))).toInt8.toInt32)) (0 : Int32) (0 : Int32) (0 : Int32) (0 : Int32) (0 : Int32) (0 : Int32) (0 : Int32) b_216 kb_216 (nar .byte (cb.toInt8.toInt32)) T216.heap n0 O216 HW E216_217 F216_226 V216_228 F216_227 gn173 gn178 u176_6 u216_0 u216_1 u216_2 u216_3 (Ne.symm ne230) (Ne.symm ne237) (Ne.symm ne236) (Ne.symm ne231) (own_l127 _ okcb)) hZ (ow hw 62 rfl) (ow hw 2 rfl) (by decide) (by decide)) q241a q241c (g := (mkF m 80 #[iv p0, iv p1, iv p2, iv p3, iv (2 : Int32), iv ca, iv cb, iv cz, rv b173, rv b_180, un, un] [(.ref t_216), (.ref b173)])) rfl (by rw [hml]; rfl) (Steps.refl _) (argsL := [(.ref t_216)]) (rest := []) (lenOf pd_17 rfl) rfl (by show 2 * 0 + _ ≤ _; exact Nat.le_of_eq rfl) (hb hby at_80) (fun _ _ => ⟨rfl, rfl, (by decide : 7 + 0 ≤ _), (by decide : 1036 + 0 ≤ _)⟩)
  dsimp only [Pt.U, Pt.locs, Pt.cells, Pt.slots] at X241 l241 y241 z241 st241 hQ241
  subst l241 y241 z241
  obtain ⟨rfl, N241q, Kq241, u241_0, u241_1, u241_2, u241_3⟩ := hQ241
  have N241 := Fr.app N216 N241q
  have E241_242 := E216_217.keep Kq241
  have E241_243 := E216_218.keep Kq241
  have V241_244 := V216_219.keep Kq241 (ninS (Ne.symm ne187) (ninS (Ne.symm ne188) nin0))
  have E241_245 := E216_220.keep Kq241
  have E241_246 := E216_221.keep Kq241
  have F241_247 := F216_222.keep Kq241 (ninS (Ne.symm ne199) (ninS (Ne.symm ne200) nin0))
  have F241_248 := F216_223.keep Kq241 (ninS (Ne.symm ne199) (ninS (Ne.symm ne200) nin0))
  have V241_249 := V216_224.keep Kq241 (ninS (Ne.symm ne203) (ninS (Ne.symm ne204) nin0))
  have E241_250 := E216_225.keep Kq241
  have E241_251 := u216_0.keep Kq241
  have F241_252 := u216_1.keep Kq241 (ninS (Ne.symm ne230) (ninS (Ne.symm ne231) nin0))
  have F241_253 := u216_2.keep Kq241 (ninS (Ne.symm ne230) (ninS (Ne.symm ne231) nin0))
  have V241_254 := u216_3.keep Kq241 (ninS (Ne.symm ne236) (ninS (Ne.symm ne237) nin0))
  have E241_255 := u216_4.keep Kq241
  have K241 := K216.trans Kq241 (allS (Or.inr sz173) (allS (Or.inr sz178) all0))
  have O241 := O216.keep Kq241 (allS gn173 (allS gn178 all0))
  obtain ⟨cq256, kq256, q256a, q256b, q256c⟩ := isOf hZ rfl E241_242
  obtain ⟨_, _, ⟨T256, L256, k256, n256⟩, -, X256, ⟨Lc256, hQ256, l256, y256, z256⟩, st256⟩ := X241.virtualBack hx (y := y3) (z := y3) hown (mvT hZ (ow hw 12 rfl)) (mvT hZ (ow hw 13 rfl)) (notFace_of_selects (args := #[]) (mvT hZ (ow hw 15 rfl))) (mvT hZ (ow hw 15 rfl)) (mvT hZ (ow hw 14 rfl)) (by decide) (backOf (W := 0) (rm3_2 l Z ar hw [] b173 b_176 kb_176 (nar .byte ((nar .char (nar .char (((nar .byte (ca.toInt8.toInt32)) &&& (255 : Int32)).toUInt32.toUInt16.toUInt32.toInt32))).toInt8.toInt32)) (nar .byte ((nar .char (nar .char (((nar .byte (cb.toInt8.toInt32)) &&& (255 : Int32)).toUInt32.toUInt16.toUInt32.toInt32))).toInt8.toInt32)) (0 : Int32) (0 : Int32) (0 : Int32) (0 : Int32) (0 : Int32) (0 : Int32) T241.heap n0 O241 E241_242 u241_1 u241_3 u241_2) hZ (ow hw 16 rfl) (ow hw 2 rfl) (by decide) (by decide)) q256a q256c (g := (mkF m 103 #[iv p0, iv p1, iv p2, iv p3, iv (2 : Int32), iv ca, iv cb, iv cz, rv b173, rv b_180, un, un] [(.ref b173)])) rfl (by rw [hml]; rfl) (Steps.refl _) (argsL := []) (rest := []) (lenOf pd_14 rfl) rfl (by show 2 * 0 + _ ≤ _; exact Nat.le_of_eq rfl) (hb hby at_103) (fun _ _ => ⟨rfl, rfl, (by decide : 7 + 1 ≤ _), (by decide : 1036 + 2 ≤ _)⟩)
  dsimp only [Pt.U, Pt.locs, Pt.cells, Pt.slots] at X256 l256 y256 z256 st256 hQ256
  subst l256 y256 z256
  obtain ⟨b_256, kb_256, rfl, N256q, Kq256, u256_0, u256_1, u256_2⟩ := hQ256
  have N256 := Fr.app N241 N256q
  have E256_257 := E241_242.keep Kq256
  have E256_258 := E241_243.keep Kq256
  have V256_259 := V241_244.keep Kq256 nin0
  have E256_260 := E241_245.keep Kq256
  have E256_261 := E241_246.keep Kq256
  have F256_262 := F241_247.keep Kq256 nin0
  have F256_263 := F241_248.keep Kq256 nin0
  have V256_264 := V241_249.keep Kq256 nin0
  have E256_265 := E241_250.keep Kq256
  have E256_266 := E241_251.keep Kq256
  have F256_267 := F241_252.keep Kq256 nin0
  have F256_268 := F241_253.keep Kq256 nin0
  have V256_269 := V241_254.keep Kq256 nin0
  have E256_270 := E241_255.keep Kq256
  have F256_271 := u241_1.keep Kq256 nin0
  have F256_272 := u241_2.keep Kq256 nin0
  have V256_273 := u241_3.keep Kq256 nin0
  have K256 := K241.trans Kq256 all0
  have O256 := O241.keep Kq256 all0
  have sz274 : h0.size ≤ b_256 := Nat.le_trans K241.1 u256_2
  have gn274 : n0 ≤ b_256 := Nat.le_trans (Nat.le_trans (Nat.le_of_eq O241.1.symm) O241.2.1) u256_2
  have ne275 : b173 ≠ b_256 := Nat.ne_of_lt (Nat.lt_of_lt_of_le (E241_242).lt u256_2)
  have ne276 : b_176 ≠ b_256 := Nat.ne_of_lt (Nat.lt_of_lt_of_le (E241_243).lt u256_2)
  have ne277 : b_180 ≠ b_256 := Nat.ne_of_lt (Nat.lt_of_lt_of_le (V241_244).lt u256_2)
  have ne278 : t_190 ≠ b_256 := Nat.ne_of_lt (Nat.lt_of_lt_of_le (E241_246).lt u256_2)
  have ne279 : b_190 ≠ b_256 := Nat.ne_of_lt (Nat.lt_of_lt_of_le (V241_249).lt u256_2)
  have ne280 : t_216 ≠ b_256 := Nat.ne_of_lt (Nat.lt_of_lt_of_le (E241_251).lt u256_2)
  have ne281 : b_216 ≠ b_256 := Nat.ne_of_lt (Nat.lt_of_lt_of_le (V241_254).lt u256_2)
  obtain ⟨_, _, ⟨T282, L282, k282, n282⟩, -, X282, ⟨Lc282, hQ282, l282, y282, z282⟩, st282⟩ := Jvm.LawKit.callS X256 hx (y := y6) hown (mvT hZ (ow hw 31 rfl)) (mvT hZ (ow hw 32 rfl)) (mvT hZ (ow hw 33 rfl)) (mvT hZ (ow hw 34 rfl)) (by decide) (backOf (W := 0) (rm6_2 l Z ar hw [] b_256 ca cb cz kb_256 (nar .byte ((nar .char (nar .char (((nar .byte (ca.toInt8.toInt32)) &&& (255 : Int32)).toUInt32.toUInt16.toUInt32.toInt32))).toInt8.toInt32)) (nar .byte ((nar .char (nar .char (((nar .byte (cb.toInt8.toInt32)) &&& (255 : Int32)).toUInt32.toUInt16.toUInt32.toInt32))).toInt8.toInt32)) T256.heap n0 O256 u256_0) hZ (ow hw 34 rfl) (ow hw 33 rfl) (by decide) (by decide)) (g := (mkF m 118 #[iv p0, iv p1, iv p2, iv p3, iv (2 : Int32), iv ca, iv cb, iv cz, rv b173, rv b_180, rv b_256, un] [(.int cz), (.int cb), (.int ca), (.int (2 : Int32)), (.ref b_256)])) rfl (by rw [hml]; rfl) (argsL := [(.ref b_256), (.int (2 : Int32)), (.int ca), (.int cb), (.int cz)]) (rest := []) (lenOf pd_15 rfl) rfl (by show 2 * 0 + _ ≤ _; exact Nat.le_of_eq rfl) (hb hby at_118) (fun _ _ => ⟨rfl, rfl, (by decide : 8 + 0 ≤ _), (by decide : 1038 + 0 ≤ _)⟩)
  dsimp only [Pt.U, Pt.locs, Pt.cells, Pt.slots] at X282 l282 y282 z282 st282 hQ282
  subst l282 y282 z282
  obtain ⟨rfl, N282q, e282⟩ := hQ282
  have N282 := Fr.app N256 N282q
  have pre283 : ∀ tg, AT p e below T282 m 121 #[iv p0, iv p1, iv p2, iv p3, iv (2 : Int32), iv ca, iv cb, iv cz, rv b173, rv b_180, rv b_256, un] [(.int (f6_2 ca cb (nar .byte ((nar .char (nar .char (((nar .byte (ca.toInt8.toInt32)) &&& (255 : Int32)).toUInt32.toUInt16.toUInt32.toInt32))).toInt8.toInt32)) (nar .byte ((nar .char (nar .char (((nar .byte (cb.toInt8.toInt32)) &&& (255 : Int32)).toUInt32.toUInt16.toUInt32.toInt32))).toInt8.toInt32))))] tg → Steps p.tables e below S0 tg := fun tg kg => pre172 tg (by
   refine st173 _ ?_
   show AT p e below T173 m 29 #[iv p0, iv p1, iv p2, iv p3, iv (2 : Int32), iv ca, iv cb, iv cz, un, un, un, un] [(.ref b173)] _
   refine XS.dup X173.here hx rfl (hb hby at_29) rfl rfl ?_
   show AT p e below T173 m 30 #[iv p0, iv p1, iv p2, iv p3, iv (2 : Int32), iv ca, iv cb, iv cz, un, un, un, un] [(.ref b173), (.ref b173)] _
   refine st176.trans ?_
   show AT p e below T176 m 33 #[iv p0, iv p1, iv p2, iv p3, iv (2 : Int32), iv ca, iv cb, iv cz, un, un, un, un] [(.ref b173)] _
   refine XS.astore X176.here hx rfl (hb hby at_33) rfl rfl (l' := #[iv p0, iv p1, iv p2, iv p3, iv (2 : Int32), iv ca, iv cb, iv cz, rv b173, un, un, un]) rfl ?_
   show AT p e below T176 m 35 #[iv p0, iv p1, iv p2, iv p3, iv (2 : Int32), iv ca, iv cb, iv cz, rv b173, un, un, un] [] _
   refine XS.aload X176.here hx rfl (hb hby at_35) rfl rfl ?_
   show AT p e below T176 m 37 #[iv p0, iv p1, iv p2, iv p3, iv (2 : Int32), iv ca, iv cb, iv cz, rv b173, un, un, un] [(.ref b173)] _
   refine st180.trans ?_
   show AT p e below T180 m 40 #[iv p0, iv p1, iv p2, iv p3, iv (2 : Int32), iv ca, iv cb, iv cz, rv b173, un, un, un] [(.ref b_180)] _
   refine XS.astore X180.here hx rfl (hb hby at_40) rfl rfl (l' := #[iv p0, iv p1, iv p2, iv p3, iv (2 : Int32), iv ca, iv cb, iv cz, rv b173, rv b_180, un, un]) rfl ?_
   show AT p e below T180 m 42 #[iv p0, iv p1, iv p2, iv p3, iv (2 : Int32), iv ca, iv cb, iv cz, rv b173, rv b_180, un, un] [] _
   refine XS.aload X180.here hx rfl (hb hby at_42) rfl rfl ?_
   show AT p e below T180 m 44 #[iv p0, iv p1, iv p2, iv p3, iv (2 : Int32), iv ca, iv cb, iv cz, rv b173, rv b_180, un, un] [(.ref b_180)] _
   refine X180.arraylength hx Ar189.1 (State.isArrayOf_alike hZ.alike Ar189.2.1) (g := (mkF m 44 #[iv p0, iv p1, iv p2, iv p3, iv (2 : Int32), iv ca, iv cb, iv cz, rv b173, rv b_180, un, un] [(.ref b_180)])) rfl rfl (hb hby at_44) _ ?_
   rw [len_of S189 N189]
   show AT p e below T180 m 45 #[iv p0, iv p1, iv p2, iv p3, iv (2 : Int32), iv ca, iv cb, iv cz, rv b173, rv b_180, un, un] [(.int (0 : Int32))] _
   refine XS.ifYes X180.here hx rfl (pc0 := 45) (pc' := 50) rfl (hb hby at_45) rfl (XT.i0_eq_t ((by decide) : (0 : Int32) = (0 : Int32))) (by decide) (by decide) ?_
   show AT p e below T180 m 50 #[iv p0, iv p1, iv p2, iv p3, iv (2 : Int32), iv ca, iv cb, iv cz, rv b173, rv b_180, un, un] [] _
   refine XS.iload X180.here hx rfl (hb hby at_50) rfl ?_
   show AT p e below T180 m 52 #[iv p0, iv p1, iv p2, iv p3, iv (2 : Int32), iv ca, iv cb, iv cz, rv b173, rv b_180, un, un] [(.int (2 : Int32))] _
   refine XS.iconst X180.here hx rfl (hb hby at_52) ?_
   show AT p e below T180 m 53 #[iv p0, iv p1, iv p2, iv p3, iv (2 : Int32), iv ca, iv cb, iv cz, rv b173, rv b_180, un, un] [(.int (1 : Int32)), (.int (2 : Int32))] _
   refine XS.icmpNo X180.here hx rfl (hb hby at_53) rfl (XT.ii_lt_f ((by decide) : ¬ ((2 : Int32) < (1 : Int32)))) ?_
   show AT p e below T180 m 56 #[iv p0, iv p1, iv p2, iv p3, iv (2 : Int32), iv ca, iv cb, iv cz, rv b173, rv b_180, un, un] [] _
   refine XS.aload X180.here hx rfl (hb hby at_56) rfl rfl ?_
   show AT p e below T180 m 58 #[iv p0, iv p1, iv p2, iv p3, iv (2 : Int32), iv ca, iv cb, iv cz, rv b173, rv b_180, un, un] [(.ref b173)] _
   refine XS.iload X180.here hx rfl (hb hby at_58) rfl ?_
   show AT p e below T180 m 60 #[iv p0, iv p1, iv p2, iv p3, iv (2 : Int32), iv ca, iv cb, iv cz, rv b173, rv b_180, un, un] [(.int ca), (.ref b173)] _
   refine st190 _ ?_
   show AT p e below T190 m 63 #[iv p0, iv p1, iv p2, iv p3, iv (2 : Int32), iv ca, iv cb, iv cz, rv b173, rv b_180, un, un] [(.ref t_190), (.ref b173)] _
   refine st206.trans ?_
   show AT p e below T206 m 66 #[iv p0, iv p1, iv p2, iv p3, iv (2 : Int32), iv ca, iv cb, iv cz, rv b173, rv b_180, un, un] [(.ref b173)] _
   refine XS.pop X206.here hx rfl (hb hby at_66) rfl rfl ?_
   show AT p e below T206 m 67 #[iv p0, iv p1, iv p2, iv p3, iv (2 : Int32), iv ca, iv cb, iv cz, rv b173, rv b_180, un, un] [] _
   refine XS.iload X206.here hx rfl (hb hby at_67) rfl ?_
   show AT p e below T206 m 69 #[iv p0, iv p1, iv p2, iv p3, iv (2 : Int32), iv ca, iv cb, iv cz, rv b173, rv b_180, un, un] [(.int (2 : Int32))] _
   refine XS.iconst X206.here hx rfl (hb hby at_69) ?_
   show AT p e below T206 m 70 #[iv p0, iv p1, iv p2, iv p3, iv (2 : Int32), iv ca, iv cb, iv cz, rv b173, rv b_180, un, un] [(.int (2 : Int32)), (.int (2 : Int32))] _
   refine XS.icmpNo X206.here hx rfl (hb hby at_70) rfl (XT.ii_lt_f ((by decide) : ¬ ((2 : Int32) < (2 : Int32)))) ?_
   show AT p e below T206 m 73 #[iv p0, iv p1, iv p2, iv p3, iv (2 : Int32), iv ca, iv cb, iv cz, rv b173, rv b_180, un, un] [] _
   refine XS.aload X206.here hx rfl (hb hby at_73) rfl rfl ?_
   show AT p e below T206 m 75 #[iv p0, iv p1, iv p2, iv p3, iv (2 : Int32), iv ca, iv cb, iv cz, rv b173, rv b_180, un, un] [(.ref b173)] _
   refine XS.iload X206.here hx rfl (hb hby at_75) rfl ?_
   show AT p e below T206 m 77 #[iv p0, iv p1, iv p2, iv p3, iv (2 : Int32), iv ca, iv cb, iv cz, rv b173, rv b_180, un, un] [(.int cb), (.ref b173)] _
   refine st216 _ ?_
   show AT p e below T216 m 80 #[iv p0, iv p1, iv p2, iv p3, iv (2 : Int32), iv ca, iv cb, iv cz, rv b173, rv b_180, un, un] [(.ref t_216), (.ref b173)] _
   refine st241.trans ?_
   show AT p e below T241 m 83 #[iv p0, iv p1, iv p2, iv p3, iv (2 : Int32), iv ca, iv cb, iv cz, rv b173, rv b_180, un, un] [(.ref b173)] _
   refine XS.pop X241.here hx rfl (hb hby at_83) rfl rfl ?_
   show AT p e below T241 m 84 #[iv p0, iv p1, iv p2, iv p3, iv (2 : Int32), iv ca, iv cb, iv cz, rv b173, rv b_180, un, un] [] _
   refine XS.iload X241.here hx rfl (hb hby at_84) rfl ?_
   show AT p e below T241 m 86 #[iv p0, iv p1, iv p2, iv p3, iv (2 : Int32), iv ca, iv cb, iv cz, rv b173, rv b_180, un, un] [(.int (2 : Int32))] _
   refine XS.iconst X241.here hx rfl (hb hby at_86) ?_
   show AT p e below T241 m 87 #[iv p0, iv p1, iv p2, iv p3, iv (2 : Int32), iv ca, iv cb, iv cz, rv b173, rv b_180, un, un] [(.int (3 : Int32)), (.int (2 : Int32))] _
   refine XS.icmpYes X241.here hx rfl (pc0 := 87) (pc' := 101) rfl (hb hby at_87) rfl (XT.ii_lt_t ((by decide) : (2 : Int32) < (3 : Int32))) (by decide) (by decide) ?_
   show AT p e below T241 m 101 #[iv p0, iv p1, iv p2, iv p3, iv (2 : Int32), iv ca, iv cb, iv cz, rv b173, rv b_180, un, un] [] _
   refine XS.aload X241.here hx rfl (hb hby at_101) rfl rfl ?_
   show AT p e below T241 m 103 #[iv p0, iv p1, iv p2, iv p3, iv (2 : Int32), iv ca, iv cb, iv cz, rv b173, rv b_180, un, un] [(.ref b173)] _
   refine st256.trans ?_
   show AT p e below T256 m 106 #[iv p0, iv p1, iv p2, iv p3, iv (2 : Int32), iv ca, iv cb, iv cz, rv b173, rv b_180, un, un] [(.ref b_256)] _
   refine XS.astore X256.here hx rfl (hb hby at_106) rfl rfl (l' := #[iv p0, iv p1, iv p2, iv p3, iv (2 : Int32), iv ca, iv cb, iv cz, rv b173, rv b_180, rv b_256, un]) rfl ?_
   show AT p e below T256 m 108 #[iv p0, iv p1, iv p2, iv p3, iv (2 : Int32), iv ca, iv cb, iv cz, rv b173, rv b_180, rv b_256, un] [] _
   refine XS.aload X256.here hx rfl (hb hby at_108) rfl rfl ?_
   show AT p e below T256 m 110 #[iv p0, iv p1, iv p2, iv p3, iv (2 : Int32), iv ca, iv cb, iv cz, rv b173, rv b_180, rv b_256, un] [(.ref b_256)] _
   refine XS.iload X256.here hx rfl (hb hby at_110) rfl ?_
   show AT p e below T256 m 112 #[iv p0, iv p1, iv p2, iv p3, iv (2 : Int32), iv ca, iv cb, iv cz, rv b173, rv b_180, rv b_256, un] [(.int (2 : Int32)), (.ref b_256)] _
   refine XS.iload X256.here hx rfl (hb hby at_112) rfl ?_
   show AT p e below T256 m 114 #[iv p0, iv p1, iv p2, iv p3, iv (2 : Int32), iv ca, iv cb, iv cz, rv b173, rv b_180, rv b_256, un] [(.int ca), (.int (2 : Int32)), (.ref b_256)] _
   refine XS.iload X256.here hx rfl (hb hby at_114) rfl ?_
   show AT p e below T256 m 116 #[iv p0, iv p1, iv p2, iv p3, iv (2 : Int32), iv ca, iv cb, iv cz, rv b173, rv b_180, rv b_256, un] [(.int cb), (.int ca), (.int (2 : Int32)), (.ref b_256)] _
   refine XS.iload X256.here hx rfl (hb hby at_116) rfl ?_
   show AT p e below T256 m 118 #[iv p0, iv p1, iv p2, iv p3, iv (2 : Int32), iv ca, iv cb, iv cz, rv b173, rv b_180, rv b_256, un] [(.int cz), (.int cb), (.int ca), (.int (2 : Int32)), (.ref b_256)] _
   refine st282 _ ?_
   exact kg)
  have hw284 : (f6_2 ca cb (nar .byte ((nar .char (nar .char (((nar .byte (ca.toInt8.toInt32)) &&& (255 : Int32)).toUInt32.toUInt16.toUInt32.toInt32))).toInt8.toInt32)) (nar .byte ((nar .char (nar .char (((nar .byte (cb.toInt8.toInt32)) &&& (255 : Int32)).toUInt32.toUInt16.toUInt32.toInt32))).toInt8.toInt32))) = (1 : Int32) := by rw [own_fin ca okca, own_fin cb okcb]; unfold f6_2; rw [own_byte ca okca, own_byte cb okcb]; simp
  have pre284 : ∀ tg, AT p e below T282 m 121 #[iv p0, iv p1, iv p2, iv p3, iv (2 : Int32), iv ca, iv cb, iv cz, rv b173, rv b_180, rv b_256, un] [(.int (1 : Int32))] tg → Steps p.tables e below S0 tg := by
    have q := pre283
    rw [hw284] at q
    exact q
  obtain ⟨cl285, Ar285, q285, S285, N285, H285, G285⟩ := id u256_0
  have hin285 := own_in (0 : Int32) S285 ⟨by decide, by decide⟩
  have hat285 : cl285.slots[((0 : Int32)).toNatClampNeg]? = some (.int (nar .byte ((nar .char (nar .char (((nar .byte (ca.toInt8.toInt32)) &&& (255 : Int32)).toUInt32.toUInt16.toUInt32.toInt32))).toInt8.toInt32))) := Has.at H285 hin285 rfl
  obtain ⟨cl286, Ar286, q286, S286, M286, H286, G286⟩ := id u256_0
  have hin286 := own_in (0 : Int32) S286 ⟨by decide, by decide⟩
  obtain ⟨T286, h286, X286, e286, W286, st286⟩ := stB X282 hx hZ e282 Ar286 (j := (0 : Int32)) hin286 (g := (mkF m 142 #[iv p0, iv p1, iv p2, iv p3, iv (2 : Int32), iv ca, iv cb, iv cz, rv b173, rv b_180, rv b_256, un] [(.int (((nar .byte ((nar .char (nar .char (((nar .byte (ca.toInt8.toInt32)) &&& (255 : Int32)).toUInt32.toUInt16.toUInt32.toInt32))).toInt8.toInt32)) ^^^ (1 : Int32)).toInt8.toInt32)), (.int (0 : Int32)), (.ref b_256)])) rfl rfl (hb hby at_142)
  have V286_287 : Arv Z h286 b_256 kb_256 .byte (2 : Int32) [(.int (nar .byte (((nar .byte ((nar .char (nar .char (((nar .byte (ca.toInt8.toInt32)) &&& (255 : Int32)).toUInt32.toUInt16.toUInt32.toInt32))).toInt8.toInt32)) ^^^ (1 : Int32)).toInt8.toInt32))), (.int (nar .byte ((nar .char (nar .char (((nar .byte (cb.toInt8.toInt32)) &&& (255 : Int32)).toUInt32.toUInt16.toUInt32.toInt32))).toInt8.toInt32)))] (.int (0 : Int32)) := Arv.set Ar286 q286 S286 M286 H286 G286 (fits_nar_byte _) W286 0 rfl (Nat.le_of_ble_eq_true rfl)
  have E286_288 := E256_257.wr W286
  have E286_289 := E256_258.wr W286
  have V286_290 := V256_259.other W286 ne277
  have E286_291 := E256_260.wr W286
  have E286_292 := E256_261.wr W286
  have F286_293 := F256_262.other W286 (Or.inl ne278)
  have F286_294 := F256_263.other W286 (Or.inl ne278)
  have V286_295 := V256_264.other W286 ne279
  have E286_296 := E256_265.wr W286
  have E286_297 := E256_266.wr W286
  have F286_298 := F256_267.other W286 (Or.inl ne280)
  have F286_299 := F256_268.other W286 (Or.inl ne280)
  have V286_300 := V256_269.other W286 ne281
  have E286_301 := E256_270.wr W286
  have F286_302 := F256_271.other W286 (Or.inl ne275)
  have F286_303 := F256_272.other W286 (Or.inl ne275)
  have V286_304 := V256_273.other W286 ne276
  have E286_305 := u256_1.wr W286
  have K286 := K256.wr W286 (Or.inr sz274)
  have O286 := O256.wr W286 gn274
  have N286 := Fr.snoc X286 N282 gn274
  obtain ⟨cq306, kq306, q306a, q306b, q306c⟩ := isOf hZ e286 E286_288
  obtain ⟨_, _, ⟨T306, L306, k306, n306⟩, -, X306, ⟨Lc306, hQ306, l306, y306, z306⟩, st306⟩ := X286.virtualBack hx (y := y3) (z := y3) hown (mvT hZ (ow hw 12 rfl)) (mvT hZ (ow hw 13 rfl)) (notFace_of_selects (args := #[]) (mvT hZ (ow hw 15 rfl))) (mvT hZ (ow hw 15 rfl)) (mvT hZ (ow hw 14 rfl)) (by decide) (backOf (W := 0) (rm3_2 l Z ar hw [] b173 b_176 kb_176 (nar .byte ((nar .char (nar .char (((nar .byte (ca.toInt8.toInt32)) &&& (255 : Int32)).toUInt32.toUInt16.toUInt32.toInt32))).toInt8.toInt32)) (nar .byte ((nar .char (nar .char (((nar .byte (cb.toInt8.toInt32)) &&& (255 : Int32)).toUInt32.toUInt16.toUInt32.toInt32))).toInt8.toInt32)) (0 : Int32) (0 : Int32) (0 : Int32) (0 : Int32) (0 : Int32) (0 : Int32) h286 n0 O286 E286_288 F286_302 V286_304 F286_303) hZ (ow hw 16 rfl) (ow hw 2 rfl) (by decide) (by decide)) q306a q306c (g := (mkF m 145 #[iv p0, iv p1, iv p2, iv p3, iv (2 : Int32), iv ca, iv cb, iv cz, rv b173, rv b_180, rv b_256, un] [(.ref b173)])) rfl (by rw [hml]; rfl) (Steps.refl _) (argsL := []) (rest := []) (lenOf pd_14 rfl) rfl (by show 2 * 0 + _ ≤ _; exact Nat.le_of_eq rfl) (hb hby at_145) (fun _ _ => ⟨rfl, e286, (by decide : 8 + 1 ≤ _), (by decide : 1038 + 2 ≤ _)⟩)
  dsimp only [Pt.U, Pt.locs, Pt.cells, Pt.slots] at X306 l306 y306 z306 st306 hQ306
  subst l306 y306 z306
  obtain ⟨b_306, kb_306, rfl, N306q, Kq306, u306_0, u306_1, u306_2⟩ := hQ306
  have N306 := Fr.app N286 N306q
  have E306_307 := E286_288.keep Kq306
  have E306_308 := E286_289.keep Kq306
  have V306_309 := V286_290.keep Kq306 nin0
  have E306_310 := E286_291.keep Kq306
  have E306_311 := E286_292.keep Kq306
  have F306_312 := F286_293.keep Kq306 nin0
  have F306_313 := F286_294.keep Kq306 nin0
  have V306_314 := V286_295.keep Kq306 nin0
  have E306_315 := E286_296.keep Kq306
  have E306_316 := E286_297.keep Kq306
  have F306_317 := F286_298.keep Kq306 nin0
  have F306_318 := F286_299.keep Kq306 nin0
  have V306_319 := V286_300.keep Kq306 nin0
  have E306_320 := E286_301.keep Kq306
  have F306_321 := F286_302.keep Kq306 nin0
  have F306_322 := F286_303.keep Kq306 nin0
  have V306_323 := V286_304.keep Kq306 nin0
  have V306_324 := V286_287.keep Kq306 nin0
  have E306_325 := E286_305.keep Kq306
  have K306 := K286.trans Kq306 all0
  have O306 := O286.keep Kq306 all0
  have sz326 : h0.size ≤ b_306 := Nat.le_trans K286.1 u306_2
  have gn326 : n0 ≤ b_306 := Nat.le_trans (Nat.le_trans (Nat.le_of_eq O286.1.symm) O286.2.1) u306_2
  have ne327 : b173 ≠ b_306 := Nat.ne_of_lt (Nat.lt_of_lt_of_le (E286_288).lt u306_2)
  have ne328 : b_176 ≠ b_306 := Nat.ne_of_lt (Nat.lt_of_lt_of_le (E286_289).lt u306_2)
  have ne329 : b_180 ≠ b_306 := Nat.ne_of_lt (Nat.lt_of_lt_of_le (V286_290).lt u306_2)
  have ne330 : t_190 ≠ b_306 := Nat.ne_of_lt (Nat.lt_of_lt_of_le (E286_292).lt u306_2)
  have ne331 : b_190 ≠ b_306 := Nat.ne_of_lt (Nat.lt_of_lt_of_le (V286_295).lt u306_2)
  have ne332 : t_216 ≠ b_306 := Nat.ne_of_lt (Nat.lt_of_lt_of_le (E286_297).lt u306_2)
  have ne333 : b_216 ≠ b_306 := Nat.ne_of_lt (Nat.lt_of_lt_of_le (V286_300).lt u306_2)
  have ne334 : b_256 ≠ b_306 := Nat.ne_of_lt (Nat.lt_of_lt_of_le (V286_287).lt u306_2)
  obtain ⟨_, _, ⟨T335, L335, k335, n335⟩, -, X335, ⟨Lc335, hQ335, l335, y335, z335⟩, st335⟩ := Jvm.LawKit.callS X306 hx (y := y6) hown (mvT hZ (ow hw 31 rfl)) (mvT hZ (ow hw 32 rfl)) (mvT hZ (ow hw 33 rfl)) (mvT hZ (ow hw 34 rfl)) (by decide) (backOf (W := 0) (rm6_2 l Z ar hw [] b_306 ca cb cz kb_306 (nar .byte ((nar .char (nar .char (((nar .byte (ca.toInt8.toInt32)) &&& (255 : Int32)).toUInt32.toUInt16.toUInt32.toInt32))).toInt8.toInt32)) (nar .byte ((nar .char (nar .char (((nar .byte (cb.toInt8.toInt32)) &&& (255 : Int32)).toUInt32.toUInt16.toUInt32.toInt32))).toInt8.toInt32)) T306.heap n0 O306 u306_0) hZ (ow hw 34 rfl) (ow hw 33 rfl) (by decide) (by decide)) (g := (mkF m 160 #[iv p0, iv p1, iv p2, iv p3, iv (2 : Int32), iv ca, iv cb, iv cz, rv b173, rv b_180, rv b_256, rv b_306] [(.int cz), (.int cb), (.int ca), (.int (2 : Int32)), (.ref b_306)])) rfl (by rw [hml]; rfl) (argsL := [(.ref b_306), (.int (2 : Int32)), (.int ca), (.int cb), (.int cz)]) (rest := []) (lenOf pd_15 rfl) rfl (by show 2 * 0 + _ ≤ _; exact Nat.le_of_eq rfl) (hb hby at_160) (fun _ _ => ⟨rfl, rfl, (by decide : 9 + 0 ≤ _), (by decide : 1040 + 0 ≤ _)⟩)
  dsimp only [Pt.U, Pt.locs, Pt.cells, Pt.slots] at X335 l335 y335 z335 st335 hQ335
  subst l335 y335 z335
  obtain ⟨rfl, N335q, e335⟩ := hQ335
  have N335 := Fr.app N306 N335q
  have pre336 : ∀ tg, AT p e below T335 m 163 #[iv p0, iv p1, iv p2, iv p3, iv (2 : Int32), iv ca, iv cb, iv cz, rv b173, rv b_180, rv b_256, rv b_306] [(.int (f6_2 ca cb (nar .byte ((nar .char (nar .char (((nar .byte (ca.toInt8.toInt32)) &&& (255 : Int32)).toUInt32.toUInt16.toUInt32.toInt32))).toInt8.toInt32)) (nar .byte ((nar .char (nar .char (((nar .byte (cb.toInt8.toInt32)) &&& (255 : Int32)).toUInt32.toUInt16.toUInt32.toInt32))).toInt8.toInt32))))] tg → Steps p.tables e below S0 tg := fun tg kg => pre284 tg (by
   refine XS.ifYes X282.here hx rfl (pc0 := 121) (pc' := 126) rfl (hb hby at_121) rfl (XT.i0_ne_t ((by decide) : ¬ ((1 : Int32) = (0 : Int32)))) (by decide) (by decide) ?_
   show AT p e below T282 m 126 #[iv p0, iv p1, iv p2, iv p3, iv (2 : Int32), iv ca, iv cb, iv cz, rv b173, rv b_180, rv b_256, un] [] _
   refine XS.iload X282.here hx rfl (hb hby at_126) rfl ?_
   show AT p e below T282 m 128 #[iv p0, iv p1, iv p2, iv p3, iv (2 : Int32), iv ca, iv cb, iv cz, rv b173, rv b_180, rv b_256, un] [(.int (2 : Int32))] _
   refine XS.iconst X282.here hx rfl (hb hby at_128) ?_
   show AT p e below T282 m 129 #[iv p0, iv p1, iv p2, iv p3, iv (2 : Int32), iv ca, iv cb, iv cz, rv b173, rv b_180, rv b_256, un] [(.int (1 : Int32)), (.int (2 : Int32))] _
   refine XS.icmpNo X282.here hx rfl (hb hby at_129) rfl (XT.ii_lt_f ((by decide) : ¬ ((2 : Int32) < (1 : Int32)))) ?_
   show AT p e below T282 m 132 #[iv p0, iv p1, iv p2, iv p3, iv (2 : Int32), iv ca, iv cb, iv cz, rv b173, rv b_180, rv b_256, un] [] _
   refine XS.aload X282.here hx rfl (hb hby at_132) rfl rfl ?_
   show AT p e below T282 m 134 #[iv p0, iv p1, iv p2, iv p3, iv (2 : Int32), iv ca, iv cb, iv cz, rv b173, rv b_180, rv b_256, un] [(.ref b_256)] _
   refine XS.iconst X282.here hx rfl (hb hby at_134) ?_
   show AT p e below T282 m 135 #[iv p0, iv p1, iv p2, iv p3, iv (2 : Int32), iv ca, iv cb, iv cz, rv b173, rv b_180, rv b_256, un] [(.int (0 : Int32)), (.ref b_256)] _
   refine XS.aload X282.here hx rfl (hb hby at_135) rfl rfl ?_
   show AT p e below T282 m 137 #[iv p0, iv p1, iv p2, iv p3, iv (2 : Int32), iv ca, iv cb, iv cz, rv b173, rv b_180, rv b_256, un] [(.ref b_256), (.int (0 : Int32)), (.ref b_256)] _
   refine XS.iconst X282.here hx rfl (hb hby at_137) ?_
   show AT p e below T282 m 138 #[iv p0, iv p1, iv p2, iv p3, iv (2 : Int32), iv ca, iv cb, iv cz, rv b173, rv b_180, rv b_256, un] [(.int (0 : Int32)), (.ref b_256), (.int (0 : Int32)), (.ref b_256)] _
   refine X282.baloadBytes hx (j := (0 : Int32)) (v := (.int (nar .byte ((nar .char (nar .char (((nar .byte (ca.toInt8.toInt32)) &&& (255 : Int32)).toUInt32.toUInt16.toUInt32.toInt32))).toInt8.toInt32)))) (by rw [e282]; exact Ar285.1) (State.isArrayOf_alike hZ.alike Ar285.2.1) Ar285.2.2 hin285 hat285 (g := (mkF m 138 #[iv p0, iv p1, iv p2, iv p3, iv (2 : Int32), iv ca, iv cb, iv cz, rv b173, rv b_180, rv b_256, un] [(.int (0 : Int32)), (.ref b_256), (.int (0 : Int32)), (.ref b_256)])) rfl rfl (hb hby at_138) _ ?_
   show AT p e below T282 m 139 #[iv p0, iv p1, iv p2, iv p3, iv (2 : Int32), iv ca, iv cb, iv cz, rv b173, rv b_180, rv b_256, un] [(.int (nar .byte ((nar .char (nar .char (((nar .byte (ca.toInt8.toInt32)) &&& (255 : Int32)).toUInt32.toUInt16.toUInt32.toInt32))).toInt8.toInt32))), (.int (0 : Int32)), (.ref b_256)] _
   refine XS.iconst X282.here hx rfl (hb hby at_139) ?_
   show AT p e below T282 m 140 #[iv p0, iv p1, iv p2, iv p3, iv (2 : Int32), iv ca, iv cb, iv cz, rv b173, rv b_180, rv b_256, un] [(.int (1 : Int32)), (.int (nar .byte ((nar .char (nar .char (((nar .byte (ca.toInt8.toInt32)) &&& (255 : Int32)).toUInt32.toUInt16.toUInt32.toInt32))).toInt8.toInt32))), (.int (0 : Int32)), (.ref b_256)] _
   refine XS.ixor X282.here hx rfl (hb hby at_140) rfl ?_
   show AT p e below T282 m 141 #[iv p0, iv p1, iv p2, iv p3, iv (2 : Int32), iv ca, iv cb, iv cz, rv b173, rv b_180, rv b_256, un] [(.int ((nar .byte ((nar .char (nar .char (((nar .byte (ca.toInt8.toInt32)) &&& (255 : Int32)).toUInt32.toUInt16.toUInt32.toInt32))).toInt8.toInt32)) ^^^ (1 : Int32))), (.int (0 : Int32)), (.ref b_256)] _
   refine XS.i2b X282.here hx rfl (hb hby at_141) rfl ?_
   show AT p e below T282 m 142 #[iv p0, iv p1, iv p2, iv p3, iv (2 : Int32), iv ca, iv cb, iv cz, rv b173, rv b_180, rv b_256, un] [(.int (((nar .byte ((nar .char (nar .char (((nar .byte (ca.toInt8.toInt32)) &&& (255 : Int32)).toUInt32.toUInt16.toUInt32.toInt32))).toInt8.toInt32)) ^^^ (1 : Int32)).toInt8.toInt32)), (.int (0 : Int32)), (.ref b_256)] _
   refine st286 _ ?_
   show AT p e below T286 m 143 #[iv p0, iv p1, iv p2, iv p3, iv (2 : Int32), iv ca, iv cb, iv cz, rv b173, rv b_180, rv b_256, un] [] _
   refine XS.aload X286.here hx rfl (hb hby at_143) rfl rfl ?_
   show AT p e below T286 m 145 #[iv p0, iv p1, iv p2, iv p3, iv (2 : Int32), iv ca, iv cb, iv cz, rv b173, rv b_180, rv b_256, un] [(.ref b173)] _
   refine st306.trans ?_
   show AT p e below T306 m 148 #[iv p0, iv p1, iv p2, iv p3, iv (2 : Int32), iv ca, iv cb, iv cz, rv b173, rv b_180, rv b_256, un] [(.ref b_306)] _
   refine XS.astore X306.here hx rfl (hb hby at_148) rfl rfl (l' := #[iv p0, iv p1, iv p2, iv p3, iv (2 : Int32), iv ca, iv cb, iv cz, rv b173, rv b_180, rv b_256, rv b_306]) rfl ?_
   show AT p e below T306 m 150 #[iv p0, iv p1, iv p2, iv p3, iv (2 : Int32), iv ca, iv cb, iv cz, rv b173, rv b_180, rv b_256, rv b_306] [] _
   refine XS.aload X306.here hx rfl (hb hby at_150) rfl rfl ?_
   show AT p e below T306 m 152 #[iv p0, iv p1, iv p2, iv p3, iv (2 : Int32), iv ca, iv cb, iv cz, rv b173, rv b_180, rv b_256, rv b_306] [(.ref b_306)] _
   refine XS.iload X306.here hx rfl (hb hby at_152) rfl ?_
   show AT p e below T306 m 154 #[iv p0, iv p1, iv p2, iv p3, iv (2 : Int32), iv ca, iv cb, iv cz, rv b173, rv b_180, rv b_256, rv b_306] [(.int (2 : Int32)), (.ref b_306)] _
   refine XS.iload X306.here hx rfl (hb hby at_154) rfl ?_
   show AT p e below T306 m 156 #[iv p0, iv p1, iv p2, iv p3, iv (2 : Int32), iv ca, iv cb, iv cz, rv b173, rv b_180, rv b_256, rv b_306] [(.int ca), (.int (2 : Int32)), (.ref b_306)] _
   refine XS.iload X306.here hx rfl (hb hby at_156) rfl ?_
   show AT p e below T306 m 158 #[iv p0, iv p1, iv p2, iv p3, iv (2 : Int32), iv ca, iv cb, iv cz, rv b173, rv b_180, rv b_256, rv b_306] [(.int cb), (.int ca), (.int (2 : Int32)), (.ref b_306)] _
   refine XS.iload X306.here hx rfl (hb hby at_158) rfl ?_
   show AT p e below T306 m 160 #[iv p0, iv p1, iv p2, iv p3, iv (2 : Int32), iv ca, iv cb, iv cz, rv b173, rv b_180, rv b_256, rv b_306] [(.int cz), (.int cb), (.int ca), (.int (2 : Int32)), (.ref b_306)] _
   refine st335 _ ?_
   exact kg)
  have hw337 : (f6_2 ca cb (nar .byte ((nar .char (nar .char (((nar .byte (ca.toInt8.toInt32)) &&& (255 : Int32)).toUInt32.toUInt16.toUInt32.toInt32))).toInt8.toInt32)) (nar .byte ((nar .char (nar .char (((nar .byte (cb.toInt8.toInt32)) &&& (255 : Int32)).toUInt32.toUInt16.toUInt32.toInt32))).toInt8.toInt32))) = (1 : Int32) := by rw [own_fin ca okca, own_fin cb okcb]; unfold f6_2; rw [own_byte ca okca, own_byte cb okcb]; simp
  have pre337 : ∀ tg, AT p e below T335 m 163 #[iv p0, iv p1, iv p2, iv p3, iv (2 : Int32), iv ca, iv cb, iv cz, rv b173, rv b_180, rv b_256, rv b_306] [(.int (1 : Int32))] tg → Steps p.tables e below S0 tg := by
    have q := pre336
    rw [hw337] at q
    exact q
  obtain ⟨fs, hr, hrun, hended, hW, hsame⟩ := X335.leave (v := some (.int (1 : Int32))) (fun h => by rw [Bd.returns] at h; cases h)
  subst hS0
  refine ⟨_, _, pre337 _ ?_, hrun, hended, _, _, rfl, ?_, ⟨_, rfl⟩, hW, hsame.mono (by decide) (by decide)⟩
  ·
   exact retN X335 hx (t := .boolean) Bd.returns (by simp) (hb hby at_163) hr
  ·
   show Q0 Z p0 p1 p2 p3 w_CS0 w_SF1 h0 n0 _ T335.heap _
   rw [e335]
   exact ⟨rfl, N335⟩
 ·
  have pre338 : ∀ tg, AT p e below s₁ m 12 #[iv p0, iv p1, iv p2, iv p3, iv (3 : Int32), iv ((p1 &&& (127 : Int32)).toUInt32.toUInt16.toUInt32.toInt32), un, un, un, un, un, un] [] tg → Steps p.tables e below S0 tg := fun tg kg => pre2 tg (by
   refine XS.iloadN X0.here hx rfl (hb hby at_5) rfl ?_
   show AT p e below s₁ m 6 #[iv p0, iv p1, iv p2, iv p3, iv (3 : Int32), un, un, un, un, un, un, un] [(.int p1)] _
   refine XS.bipush X0.here hx rfl (hb hby at_6) ?_
   show AT p e below s₁ m 8 #[iv p0, iv p1, iv p2, iv p3, iv (3 : Int32), un, un, un, un, un, un, un] [(.int (127 : Int32)), (.int p1)] _
   refine XS.iand X0.here hx rfl (hb hby at_8) rfl ?_
   show AT p e below s₁ m 9 #[iv p0, iv p1, iv p2, iv p3, iv (3 : Int32), un, un, un, un, un, un, un] [(.int (p1 &&& (127 : Int32)))] _
   refine XS.i2c X0.here hx rfl (hb hby at_9) rfl ?_
   show AT p e below s₁ m 10 #[iv p0, iv p1, iv p2, iv p3, iv (3 : Int32), un, un, un, un, un, un, un] [(.int ((p1 &&& (127 : Int32)).toUInt32.toUInt16.toUInt32.toInt32))] _
   refine XS.istore X0.here hx rfl (hb hby at_10) rfl (l' := #[iv p0, iv p1, iv p2, iv p3, iv (3 : Int32), iv ((p1 &&& (127 : Int32)).toUInt32.toUInt16.toUInt32.toInt32), un, un, un, un, un, un]) rfl ?_
   exact kg)
  obtain ⟨ca, hca⟩ : ∃ z, z = ((p1 &&& (127 : Int32)).toUInt32.toUInt16.toUInt32.toInt32) := ⟨_, rfl⟩
  have pre339 : ∀ tg, AT p e below s₁ m 12 #[iv p0, iv p1, iv p2, iv p3, iv (3 : Int32), iv ca, un, un, un, un, un, un] [] tg → Steps p.tables e below S0 tg := by rw [hca]; exact pre338
  have okca : ok7 ca := by rw [hca]; exact own_ok p1
  have pre340 : ∀ tg, AT p e below s₁ m 19 #[iv p0, iv p1, iv p2, iv p3, iv (3 : Int32), iv ca, iv ((p2 &&& (127 : Int32)).toUInt32.toUInt16.toUInt32.toInt32), un, un, un, un, un] [] tg → Steps p.tables e below S0 tg := fun tg kg => pre339 tg (by
   refine XS.iloadN X0.here hx rfl (hb hby at_12) rfl ?_
   show AT p e below s₁ m 13 #[iv p0, iv p1, iv p2, iv p3, iv (3 : Int32), iv ca, un, un, un, un, un, un] [(.int p2)] _
   refine XS.bipush X0.here hx rfl (hb hby at_13) ?_
   show AT p e below s₁ m 15 #[iv p0, iv p1, iv p2, iv p3, iv (3 : Int32), iv ca, un, un, un, un, un, un] [(.int (127 : Int32)), (.int p2)] _
   refine XS.iand X0.here hx rfl (hb hby at_15) rfl ?_
   show AT p e below s₁ m 16 #[iv p0, iv p1, iv p2, iv p3, iv (3 : Int32), iv ca, un, un, un, un, un, un] [(.int (p2 &&& (127 : Int32)))] _
   refine XS.i2c X0.here hx rfl (hb hby at_16) rfl ?_
   show AT p e below s₁ m 17 #[iv p0, iv p1, iv p2, iv p3, iv (3 : Int32), iv ca, un, un, un, un, un, un] [(.int ((p2 &&& (127 : Int32)).toUInt32.toUInt16.toUInt32.toInt32))] _
   refine XS.istore X0.here hx rfl (hb hby at_17) rfl (l' := #[iv p0, iv p1, iv p2, iv p3, iv (3 : Int32), iv ca, iv ((p2 &&& (127 : Int32)).toUInt32.toUInt16.toUInt32.toInt32), un, un, un, un, un]) rfl ?_
   exact kg)
  obtain ⟨cb, hcb⟩ : ∃ z, z = ((p2 &&& (127 : Int32)).toUInt32.toUInt16.toUInt32.toInt32) := ⟨_, rfl⟩
  have pre341 : ∀ tg, AT p e below s₁ m 19 #[iv p0, iv p1, iv p2, iv p3, iv (3 : Int32), iv ca, iv cb, un, un, un, un, un] [] tg → Steps p.tables e below S0 tg := by rw [hcb]; exact pre340
  have okcb : ok7 cb := by rw [hcb]; exact own_ok p2
  have pre342 : ∀ tg, AT p e below s₁ m 26 #[iv p0, iv p1, iv p2, iv p3, iv (3 : Int32), iv ca, iv cb, iv ((p3 &&& (127 : Int32)).toUInt32.toUInt16.toUInt32.toInt32), un, un, un, un] [] tg → Steps p.tables e below S0 tg := fun tg kg => pre341 tg (by
   refine XS.iloadN X0.here hx rfl (hb hby at_19) rfl ?_
   show AT p e below s₁ m 20 #[iv p0, iv p1, iv p2, iv p3, iv (3 : Int32), iv ca, iv cb, un, un, un, un, un] [(.int p3)] _
   refine XS.bipush X0.here hx rfl (hb hby at_20) ?_
   show AT p e below s₁ m 22 #[iv p0, iv p1, iv p2, iv p3, iv (3 : Int32), iv ca, iv cb, un, un, un, un, un] [(.int (127 : Int32)), (.int p3)] _
   refine XS.iand X0.here hx rfl (hb hby at_22) rfl ?_
   show AT p e below s₁ m 23 #[iv p0, iv p1, iv p2, iv p3, iv (3 : Int32), iv ca, iv cb, un, un, un, un, un] [(.int (p3 &&& (127 : Int32)))] _
   refine XS.i2c X0.here hx rfl (hb hby at_23) rfl ?_
   show AT p e below s₁ m 24 #[iv p0, iv p1, iv p2, iv p3, iv (3 : Int32), iv ca, iv cb, un, un, un, un, un] [(.int ((p3 &&& (127 : Int32)).toUInt32.toUInt16.toUInt32.toInt32))] _
   refine XS.istore X0.here hx rfl (hb hby at_24) rfl (l' := #[iv p0, iv p1, iv p2, iv p3, iv (3 : Int32), iv ca, iv cb, iv ((p3 &&& (127 : Int32)).toUInt32.toUInt16.toUInt32.toInt32), un, un, un, un]) rfl ?_
   exact kg)
  obtain ⟨cz, hcz⟩ : ∃ z, z = ((p3 &&& (127 : Int32)).toUInt32.toUInt16.toUInt32.toInt32) := ⟨_, rfl⟩
  have pre343 : ∀ tg, AT p e below s₁ m 26 #[iv p0, iv p1, iv p2, iv p3, iv (3 : Int32), iv ca, iv cb, iv cz, un, un, un, un] [] tg → Steps p.tables e below S0 tg := by rw [hcz]; exact pre342
  have okcz : ok7 cz := by rw [hcz]; exact own_ok p3
  obtain ⟨T344, h344, X344, e344, E344, A344, D344, -, st344⟩ := newO X0 hx hZ hown (ow hw 0 rfl) (ow hw 1 rfl) (ow hw 2 rfl) e0 (g := (mkF m 26 #[iv p0, iv p1, iv p2, iv p3, iv (3 : Int32), iv ca, iv cb, iv cz, un, un, un, un] [])) rfl (hb hby at_26) (by decide) (by decide)
  obtain ⟨b344, g344⟩ : ∃ z, z = h0.size := ⟨_, rfl⟩
  rw [← g344] at A344 D344 st344
  have gn344 : n0 ≤ b344 := Nat.le_trans (Nat.le_trans (Nat.le_of_eq O0.1.symm) O0.2.1) (Nat.le_of_eq g344.symm)
  have sz344 : h0.size ≤ b344 := Nat.le_trans (Keep.refl h0 []).1 (Nat.le_of_eq g344.symm)
  have K344 := (Keep.refl h0 []).ext E344
  have O344 := O0.ext E344
  have F344_345 : Fld Z h344 b344 "com/example/polity/polity/io/saml/CanonicalXml" "bytes" "[B" .null := D344 (Or.inl (ow hw 11 rfl)) (ty := (.array .byte)) (by decide)
  have F344_346 : Fld Z h344 b344 "com/example/polity/polity/io/saml/CanonicalXml" "length" "I" (.int (0 : Int32)) := D344 (Or.inl (ow hw 18 rfl)) (ty := .int) (by decide)
  obtain ⟨_, _, ⟨T347, L347, k347, n347⟩, -, X347, ⟨Lc347, hQ347, l347, y347, z347⟩, st347⟩ := X344.specialBack hx (y := y1) rfl hown (mvT hZ (ow hw 3 rfl)) (mvT hZ (ow hw 4 rfl)) (mvT hZ (ow hw 5 rfl)) (by decide) (backOf (W := 1) (rm1 l Z ar hw [] b344 h344 n0 O344 A344 F344_345 F344_346 gn344) hZ (ow hw 5 rfl) (ow hw 2 rfl) (by decide) (by decide)) (g := (mkF m 30 #[iv p0, iv p1, iv p2, iv p3, iv (3 : Int32), iv ca, iv cb, iv cz, un, un, un, un] [(.ref b344), (.ref b344)])) rfl (by rw [hml]; rfl) (Steps.refl _) (a := b344) (argsL := []) (rest := [(.ref b344)]) (lenOf pd_13 rfl) rfl (by show 2 * 0 + _ ≤ _; exact Nat.le_of_eq rfl) (hb hby at_30) (fun _ _ => ⟨rfl, e344, (by decide : 1 + 1 ≤ _), (by decide : 2 + 1024 ≤ _)⟩)
  dsimp only [Pt.U, Pt.locs, Pt.cells, Pt.slots] at X347 l347 y347 z347 st347 hQ347
  subst l347 y347 z347
  obtain ⟨b_347, kb_347, rfl, N347q, Kq347, u347_0, u347_1, u347_2, u347_3, u347_4, u347_5, u347_6⟩ := hQ347
  have N347 := Fr.app N0 N347q
  have E347_348 := A344.keep Kq347
  have K347 := K344.trans Kq347 (allS (Or.inr sz344) all0)
  have O347 := O344.keep Kq347 (allS gn344 all0)
  have sz349 : h0.size ≤ b_347 := Nat.le_trans K344.1 u347_5
  have gn349 : n0 ≤ b_347 := Nat.le_trans (Nat.le_trans (Nat.le_of_eq O344.1.symm) O344.2.1) u347_5
  have ne350 : b344 ≠ b_347 := Nat.ne_of_lt (Nat.lt_of_lt_of_le (A344).lt u347_5)
  obtain ⟨cq351, kq351, q351a, q351b, q351c⟩ := isOf hZ rfl E347_348
  obtain ⟨_, _, ⟨T351, L351, k351, n351⟩, -, X351, ⟨Lc351, hQ351, l351, y351, z351⟩, st351⟩ := X347.virtualBack hx (y := y3) (z := y3) hown (mvT hZ (ow hw 12 rfl)) (mvT hZ (ow hw 13 rfl)) (notFace_of_selects (args := #[]) (mvT hZ (ow hw 15 rfl))) (mvT hZ (ow hw 15 rfl)) (mvT hZ (ow hw 14 rfl)) (by decide) (backOf (W := 0) (rm3_0 l Z ar hw [] b344 b_347 kb_347 (0 : Int32) (0 : Int32) (0 : Int32) (0 : Int32) (0 : Int32) (0 : Int32) (0 : Int32) (0 : Int32) T347.heap n0 O347 E347_348 u347_1 u347_3 u347_2) hZ (ow hw 16 rfl) (ow hw 2 rfl) (by decide) (by decide)) q351a q351c (g := (mkF m 37 #[iv p0, iv p1, iv p2, iv p3, iv (3 : Int32), iv ca, iv cb, iv cz, rv b344, un, un, un] [(.ref b344)])) rfl (by rw [hml]; rfl) (Steps.refl _) (argsL := []) (rest := []) (lenOf pd_14 rfl) rfl (by show 2 * 0 + _ ≤ _; exact Nat.le_of_eq rfl) (hb hby at_37) (fun _ _ => ⟨rfl, rfl, (by decide : 2 + 1 ≤ _), (by decide : 1026 + 0 ≤ _)⟩)
  dsimp only [Pt.U, Pt.locs, Pt.cells, Pt.slots] at X351 l351 y351 z351 st351 hQ351
  subst l351 y351 z351
  obtain ⟨b_351, kb_351, rfl, N351q, Kq351, u351_0, u351_1, u351_2⟩ := hQ351
  have N351 := Fr.app N347 N351q
  have E351_352 := E347_348.keep Kq351
  have F351_353 := u347_1.keep Kq351 nin0
  have F351_354 := u347_2.keep Kq351 nin0
  have V351_355 := u347_3.keep Kq351 nin0
  have E351_356 := u347_4.keep Kq351
  have K351 := K347.trans Kq351 all0
  have O351 := O347.keep Kq351 all0
  have sz357 : h0.size ≤ b_351 := Nat.le_trans K347.1 u351_2
  have gn357 : n0 ≤ b_351 := Nat.le_trans (Nat.le_trans (Nat.le_of_eq O347.1.symm) O347.2.1) u351_2
  have ne358 : b344 ≠ b_351 := Nat.ne_of_lt (Nat.lt_of_lt_of_le (E347_348).lt u351_2)
  have ne359 : b_347 ≠ b_351 := Nat.ne_of_lt (Nat.lt_of_lt_of_le (u347_3).lt u351_2)
  obtain ⟨cl360, Ar360, q360, S360, N360, H360, G360⟩ := id u351_0
  obtain ⟨_, _, ⟨T361, L361, k361, n361⟩, -, X361, ⟨Lc361, hQ361, l361, y361, z361⟩, st361⟩ := Jvm.LawKit.callS X351 hx (y := y7) hown (mvT hZ (ow hw 35 rfl)) (mvT hZ (ow hw 36 rfl)) (mvT hZ (ow hw 37 rfl)) (mvT hZ (ow hw 38 rfl)) (by decide) (backOf (W := 1) (rm7 l Z ar hw [] ca w_CS0 w_SF1 T351.heap n0 O351 HW (own_l255 _ okca)) hZ (ow hw 38 rfl) (ow hw 37 rfl) (by decide) (by decide)) (g := (mkF m 60 #[iv p0, iv p1, iv p2, iv p3, iv (3 : Int32), iv ca, iv cb, iv cz, rv b344, rv b_351, un, un] [(.int ca), (.ref b344)])) rfl (by rw [hml]; rfl) (argsL := [(.int ca)]) (rest := [(.ref b344)]) (lenOf pd_16 rfl) rfl (by show 2 * 0 + _ ≤ _; exact Nat.le_of_eq rfl) (hb hby at_60) (fun _ _ => ⟨rfl, rfl, (by decide : 3 + 2 ≤ _), (by decide : 1026 + 5 ≤ _)⟩)
  dsimp only [Pt.U, Pt.locs, Pt.cells, Pt.slots] at X361 l361 y361 z361 st361 hQ361
  subst l361 y361 z361
  obtain ⟨t_361, b_361, kb_361, rfl, N361q, Kq361, u361_0, u361_1, u361_2, u361_3, u361_4, u361_5, u361_6, u361_7⟩ := hQ361
  have N361 := Fr.app N351 N361q
  have E361_362 := E351_352.keep Kq361
  have F361_363 := F351_353.keep Kq361 nin0
  have F361_364 := F351_354.keep Kq361 nin0
  have V361_365 := V351_355.keep Kq361 nin0
  have E361_366 := E351_356.keep Kq361
  have V361_367 := u351_0.keep Kq361 nin0
  have E361_368 := u351_1.keep Kq361
  have K361 := K351.trans Kq361 all0
  have O361 := O351.keep Kq361 all0
  have sz369 : h0.size ≤ t_361 := Nat.le_trans K351.1 u361_5
  have gn369 : n0 ≤ t_361 := Nat.le_trans (Nat.le_trans (Nat.le_of_eq O351.1.symm) O351.2.1) u361_5
  have ne370 : b344 ≠ t_361 := Nat.ne_of_lt (Nat.lt_of_lt_of_le (E351_352).lt u361_5)
  have ne371 : b_347 ≠ t_361 := Nat.ne_of_lt (Nat.lt_of_lt_of_le (V351_355).lt u361_5)
  have ne372 : b_351 ≠ t_361 := Nat.ne_of_lt (Nat.lt_of_lt_of_le (u351_0).lt u361_5)
  have sz373 : h0.size ≤ b_361 := Nat.le_trans K351.1 u361_6
  have gn373 : n0 ≤ b_361 := Nat.le_trans (Nat.le_trans (Nat.le_of_eq O351.1.symm) O351.2.1) u361_6
  have ne374 : b344 ≠ b_361 := Nat.ne_of_lt (Nat.lt_of_lt_of_le (E351_352).lt u361_6)
  have ne375 : b_347 ≠ b_361 := Nat.ne_of_lt (Nat.lt_of_lt_of_le (V351_355).lt u361_6)
  have ne376 : b_351 ≠ b_361 := Nat.ne_of_lt (Nat.lt_of_lt_of_le (u351_0).lt u361_6)
  obtain ⟨cq377, kq377, q377a, q377b, q377c⟩ := isOf hZ rfl E361_362
  obtain ⟨_, _, ⟨T377, L377, k377, n377⟩, -, X377, ⟨Lc377, hQ377, l377, y377, z377⟩, st377⟩ := X361.virtualBack hx (y := y11) (z := y11) hown (mvT hZ (ow hw 58 rfl)) (mvT hZ (ow hw 59 rfl)) (notFace_of_selects (args := #[]) (mvT hZ (ow hw 61 rfl))) (mvT hZ (ow hw 61 rfl)) (mvT hZ (ow hw 60 rfl)) (by decide) (backOf (W := 0) (rm11_0 l Z ar hw [] b344 t_361 w_CS0 w_SF1 b_347 kb_347 (0 : Int32) (0 : Int32) (0 : Int32) (0 : Int32) (0 : Int32) (0 : Int32) (0 : Int32) (0 : Int32) b_361 kb_361 (nar .byte (ca.toInt8.toInt32)) T361.heap n0 O361 HW E361_362 F361_363 V361_365 F361_364 gn344 gn349 u347_6 u361_0 u361_1 u361_2 u361_3 (Ne.symm ne370) (Ne.symm ne375) (Ne.symm ne374) (Ne.symm ne371) (own_l127 _ okca)) hZ (ow hw 62 rfl) (ow hw 2 rfl) (by decide) (by decide)) q377a q377c (g := (mkF m 63 #[iv p0, iv p1, iv p2, iv p3, iv (3 : Int32), iv ca, iv cb, iv cz, rv b344, rv b_351, un, un] [(.ref t_361), (.ref b344)])) rfl (by rw [hml]; rfl) (Steps.refl _) (argsL := [(.ref t_361)]) (rest := []) (lenOf pd_17 rfl) rfl (by show 2 * 0 + _ ≤ _; exact Nat.le_of_eq rfl) (hb hby at_63) (fun _ _ => ⟨rfl, rfl, (by decide : 5 + 0 ≤ _), (by decide : 1031 + 0 ≤ _)⟩)
  dsimp only [Pt.U, Pt.locs, Pt.cells, Pt.slots] at X377 l377 y377 z377 st377 hQ377
  subst l377 y377 z377
  obtain ⟨rfl, N377q, Kq377, u377_0, u377_1, u377_2, u377_3⟩ := hQ377
  have N377 := Fr.app N361 N377q
  have E377_378 := E361_362.keep Kq377
  have E377_379 := E361_366.keep Kq377
  have V377_380 := V361_367.keep Kq377 (ninS (Ne.symm ne358) (ninS (Ne.symm ne359) nin0))
  have E377_381 := E361_368.keep Kq377
  have E377_382 := u361_0.keep Kq377
  have F377_383 := u361_1.keep Kq377 (ninS (Ne.symm ne370) (ninS (Ne.symm ne371) nin0))
  have F377_384 := u361_2.keep Kq377 (ninS (Ne.symm ne370) (ninS (Ne.symm ne371) nin0))
  have V377_385 := u361_3.keep Kq377 (ninS (Ne.symm ne374) (ninS (Ne.symm ne375) nin0))
  have E377_386 := u361_4.keep Kq377
  have K377 := K361.trans Kq377 (allS (Or.inr sz344) (allS (Or.inr sz349) all0))
  have O377 := O361.keep Kq377 (allS gn344 (allS gn349 all0))
  obtain ⟨_, _, ⟨T387, L387, k387, n387⟩, -, X387, ⟨Lc387, hQ387, l387, y387, z387⟩, st387⟩ := Jvm.LawKit.callS X377 hx (y := y7) hown (mvT hZ (ow hw 35 rfl)) (mvT hZ (ow hw 36 rfl)) (mvT hZ (ow hw 37 rfl)) (mvT hZ (ow hw 38 rfl)) (by decide) (backOf (W := 1) (rm7 l Z ar hw [] cb w_CS0 w_SF1 T377.heap n0 O377 HW (own_l255 _ okcb)) hZ (ow hw 38 rfl) (ow hw 37 rfl) (by decide) (by decide)) (g := (mkF m 77 #[iv p0, iv p1, iv p2, iv p3, iv (3 : Int32), iv ca, iv cb, iv cz, rv b344, rv b_351, un, un] [(.int cb), (.ref b344)])) rfl (by rw [hml]; rfl) (argsL := [(.int cb)]) (rest := [(.ref b344)]) (lenOf pd_16 rfl) rfl (by show 2 * 0 + _ ≤ _; exact Nat.le_of_eq rfl) (hb hby at_77) (fun _ _ => ⟨rfl, rfl, (by decide : 5 + 2 ≤ _), (by decide : 1031 + 5 ≤ _)⟩)
  dsimp only [Pt.U, Pt.locs, Pt.cells, Pt.slots] at X387 l387 y387 z387 st387 hQ387
  subst l387 y387 z387
  obtain ⟨t_387, b_387, kb_387, rfl, N387q, Kq387, u387_0, u387_1, u387_2, u387_3, u387_4, u387_5, u387_6, u387_7⟩ := hQ387
  have N387 := Fr.app N377 N387q
  have E387_388 := E377_378.keep Kq387
  have E387_389 := E377_379.keep Kq387
  have V387_390 := V377_380.keep Kq387 nin0
  have E387_391 := E377_381.keep Kq387
  have E387_392 := E377_382.keep Kq387
  have F387_393 := F377_383.keep Kq387 nin0
  have F387_394 := F377_384.keep Kq387 nin0
  have V387_395 := V377_385.keep Kq387 nin0
  have E387_396 := E377_386.keep Kq387
  have F387_397 := u377_1.keep Kq387 nin0
  have F387_398 := u377_2.keep Kq387 nin0
  have V387_399 := u377_3.keep Kq387 nin0
  have K387 := K377.trans Kq387 all0
  have O387 := O377.keep Kq387 all0
  have sz400 : h0.size ≤ t_387 := Nat.le_trans K377.1 u387_5
  have gn400 : n0 ≤ t_387 := Nat.le_trans (Nat.le_trans (Nat.le_of_eq O377.1.symm) O377.2.1) u387_5
  have ne401 : b344 ≠ t_387 := Nat.ne_of_lt (Nat.lt_of_lt_of_le (E377_378).lt u387_5)
  have ne402 : b_347 ≠ t_387 := Nat.ne_of_lt (Nat.lt_of_lt_of_le (E377_379).lt u387_5)
  have ne403 : b_351 ≠ t_387 := Nat.ne_of_lt (Nat.lt_of_lt_of_le (V377_380).lt u387_5)
  have ne404 : t_361 ≠ t_387 := Nat.ne_of_lt (Nat.lt_of_lt_of_le (E377_382).lt u387_5)
  have ne405 : b_361 ≠ t_387 := Nat.ne_of_lt (Nat.lt_of_lt_of_le (V377_385).lt u387_5)
  have sz406 : h0.size ≤ b_387 := Nat.le_trans K377.1 u387_6
  have gn406 : n0 ≤ b_387 := Nat.le_trans (Nat.le_trans (Nat.le_of_eq O377.1.symm) O377.2.1) u387_6
  have ne407 : b344 ≠ b_387 := Nat.ne_of_lt (Nat.lt_of_lt_of_le (E377_378).lt u387_6)
  have ne408 : b_347 ≠ b_387 := Nat.ne_of_lt (Nat.lt_of_lt_of_le (E377_379).lt u387_6)
  have ne409 : b_351 ≠ b_387 := Nat.ne_of_lt (Nat.lt_of_lt_of_le (V377_380).lt u387_6)
  have ne410 : t_361 ≠ b_387 := Nat.ne_of_lt (Nat.lt_of_lt_of_le (E377_382).lt u387_6)
  have ne411 : b_361 ≠ b_387 := Nat.ne_of_lt (Nat.lt_of_lt_of_le (V377_385).lt u387_6)
  obtain ⟨cq412, kq412, q412a, q412b, q412c⟩ := isOf hZ rfl E387_388
  obtain ⟨_, _, ⟨T412, L412, k412, n412⟩, -, X412, ⟨Lc412, hQ412, l412, y412, z412⟩, st412⟩ := X387.virtualBack hx (y := y11) (z := y11) hown (mvT hZ (ow hw 58 rfl)) (mvT hZ (ow hw 59 rfl)) (notFace_of_selects (args := #[]) (mvT hZ (ow hw 61 rfl))) (mvT hZ (ow hw 61 rfl)) (mvT hZ (ow hw 60 rfl)) (by decide) (backOf (W := 0) (rm11_1 l Z ar hw [] b344 t_387 w_CS0 w_SF1 b_347 kb_347 (nar .byte ((nar .char (nar .char (((nar .byte (ca.toInt8.toInt32)) &&& (255 : Int32)).toUInt32.toUInt16.toUInt32.toInt32))).toInt8.toInt32)) (0 : Int32) (0 : Int32) (0 : Int32) (0 : Int32) (0 : Int32) (0 : Int32) (0 : Int32) b_387 kb_387 (nar .byte (cb.toInt8.toInt32)) T387.heap n0 O387 HW E387_388 F387_397 V387_399 F387_398 gn344 gn349 u347_6 u387_0 u387_1 u387_2 u387_3 (Ne.symm ne401) (Ne.symm ne408) (Ne.symm ne407) (Ne.symm ne402) (own_l127 _ okcb)) hZ (ow hw 62 rfl) (ow hw 2 rfl) (by decide) (by decide)) q412a q412c (g := (mkF m 80 #[iv p0, iv p1, iv p2, iv p3, iv (3 : Int32), iv ca, iv cb, iv cz, rv b344, rv b_351, un, un] [(.ref t_387), (.ref b344)])) rfl (by rw [hml]; rfl) (Steps.refl _) (argsL := [(.ref t_387)]) (rest := []) (lenOf pd_17 rfl) rfl (by show 2 * 0 + _ ≤ _; exact Nat.le_of_eq rfl) (hb hby at_80) (fun _ _ => ⟨rfl, rfl, (by decide : 7 + 0 ≤ _), (by decide : 1036 + 0 ≤ _)⟩)
  dsimp only [Pt.U, Pt.locs, Pt.cells, Pt.slots] at X412 l412 y412 z412 st412 hQ412
  subst l412 y412 z412
  obtain ⟨rfl, N412q, Kq412, u412_0, u412_1, u412_2, u412_3⟩ := hQ412
  have N412 := Fr.app N387 N412q
  have E412_413 := E387_388.keep Kq412
  have E412_414 := E387_389.keep Kq412
  have V412_415 := V387_390.keep Kq412 (ninS (Ne.symm ne358) (ninS (Ne.symm ne359) nin0))
  have E412_416 := E387_391.keep Kq412
  have E412_417 := E387_392.keep Kq412
  have F412_418 := F387_393.keep Kq412 (ninS (Ne.symm ne370) (ninS (Ne.symm ne371) nin0))
  have F412_419 := F387_394.keep Kq412 (ninS (Ne.symm ne370) (ninS (Ne.symm ne371) nin0))
  have V412_420 := V387_395.keep Kq412 (ninS (Ne.symm ne374) (ninS (Ne.symm ne375) nin0))
  have E412_421 := E387_396.keep Kq412
  have E412_422 := u387_0.keep Kq412
  have F412_423 := u387_1.keep Kq412 (ninS (Ne.symm ne401) (ninS (Ne.symm ne402) nin0))
  have F412_424 := u387_2.keep Kq412 (ninS (Ne.symm ne401) (ninS (Ne.symm ne402) nin0))
  have V412_425 := u387_3.keep Kq412 (ninS (Ne.symm ne407) (ninS (Ne.symm ne408) nin0))
  have E412_426 := u387_4.keep Kq412
  have K412 := K387.trans Kq412 (allS (Or.inr sz344) (allS (Or.inr sz349) all0))
  have O412 := O387.keep Kq412 (allS gn344 (allS gn349 all0))
  obtain ⟨_, _, ⟨T427, L427, k427, n427⟩, -, X427, ⟨Lc427, hQ427, l427, y427, z427⟩, st427⟩ := Jvm.LawKit.callS X412 hx (y := y7) hown (mvT hZ (ow hw 35 rfl)) (mvT hZ (ow hw 36 rfl)) (mvT hZ (ow hw 37 rfl)) (mvT hZ (ow hw 38 rfl)) (by decide) (backOf (W := 1) (rm7 l Z ar hw [] cz w_CS0 w_SF1 T412.heap n0 O412 HW (own_l255 _ okcz)) hZ (ow hw 38 rfl) (ow hw 37 rfl) (by decide) (by decide)) (g := (mkF m 94 #[iv p0, iv p1, iv p2, iv p3, iv (3 : Int32), iv ca, iv cb, iv cz, rv b344, rv b_351, un, un] [(.int cz), (.ref b344)])) rfl (by rw [hml]; rfl) (argsL := [(.int cz)]) (rest := [(.ref b344)]) (lenOf pd_16 rfl) rfl (by show 2 * 0 + _ ≤ _; exact Nat.le_of_eq rfl) (hb hby at_94) (fun _ _ => ⟨rfl, rfl, (by decide : 7 + 2 ≤ _), (by decide : 1036 + 5 ≤ _)⟩)
  dsimp only [Pt.U, Pt.locs, Pt.cells, Pt.slots] at X427 l427 y427 z427 st427 hQ427
  subst l427 y427 z427
  obtain ⟨t_427, b_427, kb_427, rfl, N427q, Kq427, u427_0, u427_1, u427_2, u427_3, u427_4, u427_5, u427_6, u427_7⟩ := hQ427
  have N427 := Fr.app N412 N427q
  have E427_428 := E412_413.keep Kq427
  have E427_429 := E412_414.keep Kq427
  have V427_430 := V412_415.keep Kq427 nin0
  have E427_431 := E412_416.keep Kq427
  have E427_432 := E412_417.keep Kq427
  have F427_433 := F412_418.keep Kq427 nin0
  have F427_434 := F412_419.keep Kq427 nin0
  have V427_435 := V412_420.keep Kq427 nin0
  have E427_436 := E412_421.keep Kq427
  have E427_437 := E412_422.keep Kq427
  have F427_438 := F412_423.keep Kq427 nin0
  have F427_439 := F412_424.keep Kq427 nin0
  have V427_440 := V412_425.keep Kq427 nin0
  have E427_441 := E412_426.keep Kq427
  have F427_442 := u412_1.keep Kq427 nin0
  have F427_443 := u412_2.keep Kq427 nin0
  have V427_444 := u412_3.keep Kq427 nin0
  have K427 := K412.trans Kq427 all0
  have O427 := O412.keep Kq427 all0
  have sz445 : h0.size ≤ t_427 := Nat.le_trans K412.1 u427_5
  have gn445 : n0 ≤ t_427 := Nat.le_trans (Nat.le_trans (Nat.le_of_eq O412.1.symm) O412.2.1) u427_5
  have ne446 : b344 ≠ t_427 := Nat.ne_of_lt (Nat.lt_of_lt_of_le (E412_413).lt u427_5)
  have ne447 : b_347 ≠ t_427 := Nat.ne_of_lt (Nat.lt_of_lt_of_le (E412_414).lt u427_5)
  have ne448 : b_351 ≠ t_427 := Nat.ne_of_lt (Nat.lt_of_lt_of_le (V412_415).lt u427_5)
  have ne449 : t_361 ≠ t_427 := Nat.ne_of_lt (Nat.lt_of_lt_of_le (E412_417).lt u427_5)
  have ne450 : b_361 ≠ t_427 := Nat.ne_of_lt (Nat.lt_of_lt_of_le (V412_420).lt u427_5)
  have ne451 : t_387 ≠ t_427 := Nat.ne_of_lt (Nat.lt_of_lt_of_le (E412_422).lt u427_5)
  have ne452 : b_387 ≠ t_427 := Nat.ne_of_lt (Nat.lt_of_lt_of_le (V412_425).lt u427_5)
  have sz453 : h0.size ≤ b_427 := Nat.le_trans K412.1 u427_6
  have gn453 : n0 ≤ b_427 := Nat.le_trans (Nat.le_trans (Nat.le_of_eq O412.1.symm) O412.2.1) u427_6
  have ne454 : b344 ≠ b_427 := Nat.ne_of_lt (Nat.lt_of_lt_of_le (E412_413).lt u427_6)
  have ne455 : b_347 ≠ b_427 := Nat.ne_of_lt (Nat.lt_of_lt_of_le (E412_414).lt u427_6)
  have ne456 : b_351 ≠ b_427 := Nat.ne_of_lt (Nat.lt_of_lt_of_le (V412_415).lt u427_6)
  have ne457 : t_361 ≠ b_427 := Nat.ne_of_lt (Nat.lt_of_lt_of_le (E412_417).lt u427_6)
  have ne458 : b_361 ≠ b_427 := Nat.ne_of_lt (Nat.lt_of_lt_of_le (V412_420).lt u427_6)
  have ne459 : t_387 ≠ b_427 := Nat.ne_of_lt (Nat.lt_of_lt_of_le (E412_422).lt u427_6)
  have ne460 : b_387 ≠ b_427 := Nat.ne_of_lt (Nat.lt_of_lt_of_le (V412_425).lt u427_6)
  obtain ⟨cq461, kq461, q461a, q461b, q461c⟩ := isOf hZ rfl E427_428
  obtain ⟨_, _, ⟨T461, L461, k461, n461⟩, -, X461, ⟨Lc461, hQ461, l461, y461, z461⟩, st461⟩ := X427.virtualBack hx (y := y11) (z := y11) hown (mvT hZ (ow hw 58 rfl)) (mvT hZ (ow hw 59 rfl)) (notFace_of_selects (args := #[]) (mvT hZ (ow hw 61 rfl))) (mvT hZ (ow hw 61 rfl)) (mvT hZ (ow hw 60 rfl)) (by decide) (backOf (W := 0) (rm11_2 l Z ar hw [] b344 t_427 w_CS0 w_SF1 b_347 kb_347 (nar .byte ((nar .char (nar .char (((nar .byte (ca.toInt8.toInt32)) &&& (255 : Int32)).toUInt32.toUInt16.toUInt32.toInt32))).toInt8.toInt32)) (nar .byte ((nar .char (nar .char (((nar .byte (cb.toInt8.toInt32)) &&& (255 : Int32)).toUInt32.toUInt16.toUInt32.toInt32))).toInt8.toInt32)) (0 : Int32) (0 : Int32) (0 : Int32) (0 : Int32) (0 : Int32) (0 : Int32) b_427 kb_427 (nar .byte (cz.toInt8.toInt32)) T427.heap n0 O427 HW E427_428 F427_442 V427_444 F427_443 gn344 gn349 u347_6 u427_0 u427_1 u427_2 u427_3 (Ne.symm ne446) (Ne.symm ne455) (Ne.symm ne454) (Ne.symm ne447) (own_l127 _ okcz)) hZ (ow hw 62 rfl) (ow hw 2 rfl) (by decide) (by decide)) q461a q461c (g := (mkF m 97 #[iv p0, iv p1, iv p2, iv p3, iv (3 : Int32), iv ca, iv cb, iv cz, rv b344, rv b_351, un, un] [(.ref t_427), (.ref b344)])) rfl (by rw [hml]; rfl) (Steps.refl _) (argsL := [(.ref t_427)]) (rest := []) (lenOf pd_17 rfl) rfl (by show 2 * 0 + _ ≤ _; exact Nat.le_of_eq rfl) (hb hby at_97) (fun _ _ => ⟨rfl, rfl, (by decide : 9 + 0 ≤ _), (by decide : 1041 + 0 ≤ _)⟩)
  dsimp only [Pt.U, Pt.locs, Pt.cells, Pt.slots] at X461 l461 y461 z461 st461 hQ461
  subst l461 y461 z461
  obtain ⟨rfl, N461q, Kq461, u461_0, u461_1, u461_2, u461_3⟩ := hQ461
  have N461 := Fr.app N427 N461q
  have E461_462 := E427_428.keep Kq461
  have E461_463 := E427_429.keep Kq461
  have V461_464 := V427_430.keep Kq461 (ninS (Ne.symm ne358) (ninS (Ne.symm ne359) nin0))
  have E461_465 := E427_431.keep Kq461
  have E461_466 := E427_432.keep Kq461
  have F461_467 := F427_433.keep Kq461 (ninS (Ne.symm ne370) (ninS (Ne.symm ne371) nin0))
  have F461_468 := F427_434.keep Kq461 (ninS (Ne.symm ne370) (ninS (Ne.symm ne371) nin0))
  have V461_469 := V427_435.keep Kq461 (ninS (Ne.symm ne374) (ninS (Ne.symm ne375) nin0))
  have E461_470 := E427_436.keep Kq461
  have E461_471 := E427_437.keep Kq461
  have F461_472 := F427_438.keep Kq461 (ninS (Ne.symm ne401) (ninS (Ne.symm ne402) nin0))
  have F461_473 := F427_439.keep Kq461 (ninS (Ne.symm ne401) (ninS (Ne.symm ne402) nin0))
  have V461_474 := V427_440.keep Kq461 (ninS (Ne.symm ne407) (ninS (Ne.symm ne408) nin0))
  have E461_475 := E427_441.keep Kq461
  have E461_476 := u427_0.keep Kq461
  have F461_477 := u427_1.keep Kq461 (ninS (Ne.symm ne446) (ninS (Ne.symm ne447) nin0))
  have F461_478 := u427_2.keep Kq461 (ninS (Ne.symm ne446) (ninS (Ne.symm ne447) nin0))
  have V461_479 := u427_3.keep Kq461 (ninS (Ne.symm ne454) (ninS (Ne.symm ne455) nin0))
  have E461_480 := u427_4.keep Kq461
  have K461 := K427.trans Kq461 (allS (Or.inr sz344) (allS (Or.inr sz349) all0))
  have O461 := O427.keep Kq461 (allS gn344 (allS gn349 all0))
  obtain ⟨cq481, kq481, q481a, q481b, q481c⟩ := isOf hZ rfl E461_462
  obtain ⟨_, _, ⟨T481, L481, k481, n481⟩, -, X481, ⟨Lc481, hQ481, l481, y481, z481⟩, st481⟩ := X461.virtualBack hx (y := y3) (z := y3) hown (mvT hZ (ow hw 12 rfl)) (mvT hZ (ow hw 13 rfl)) (notFace_of_selects (args := #[]) (mvT hZ (ow hw 15 rfl))) (mvT hZ (ow hw 15 rfl)) (mvT hZ (ow hw 14 rfl)) (by decide) (backOf (W := 0) (rm3_3 l Z ar hw [] b344 b_347 kb_347 (nar .byte ((nar .char (nar .char (((nar .byte (ca.toInt8.toInt32)) &&& (255 : Int32)).toUInt32.toUInt16.toUInt32.toInt32))).toInt8.toInt32)) (nar .byte ((nar .char (nar .char (((nar .byte (cb.toInt8.toInt32)) &&& (255 : Int32)).toUInt32.toUInt16.toUInt32.toInt32))).toInt8.toInt32)) (nar .byte ((nar .char (nar .char (((nar .byte (cz.toInt8.toInt32)) &&& (255 : Int32)).toUInt32.toUInt16.toUInt32.toInt32))).toInt8.toInt32)) (0 : Int32) (0 : Int32) (0 : Int32) (0 : Int32) (0 : Int32) T461.heap n0 O461 E461_462 u461_1 u461_3 u461_2) hZ (ow hw 16 rfl) (ow hw 2 rfl) (by decide) (by decide)) q481a q481c (g := (mkF m 103 #[iv p0, iv p1, iv p2, iv p3, iv (3 : Int32), iv ca, iv cb, iv cz, rv b344, rv b_351, un, un] [(.ref b344)])) rfl (by rw [hml]; rfl) (Steps.refl _) (argsL := []) (rest := []) (lenOf pd_14 rfl) rfl (by show 2 * 0 + _ ≤ _; exact Nat.le_of_eq rfl) (hb hby at_103) (fun _ _ => ⟨rfl, rfl, (by decide : 9 + 1 ≤ _), (by decide : 1041 + 3 ≤ _)⟩)
  dsimp only [Pt.U, Pt.locs, Pt.cells, Pt.slots] at X481 l481 y481 z481 st481 hQ481
  subst l481 y481 z481
  obtain ⟨b_481, kb_481, rfl, N481q, Kq481, u481_0, u481_1, u481_2⟩ := hQ481
  have N481 := Fr.app N461 N481q
  have E481_482 := E461_462.keep Kq481
  have E481_483 := E461_463.keep Kq481
  have V481_484 := V461_464.keep Kq481 nin0
  have E481_485 := E461_465.keep Kq481
  have E481_486 := E461_466.keep Kq481
  have F481_487 := F461_467.keep Kq481 nin0
  have F481_488 := F461_468.keep Kq481 nin0
  have V481_489 := V461_469.keep Kq481 nin0
  have E481_490 := E461_470.keep Kq481
  have E481_491 := E461_471.keep Kq481
  have F481_492 := F461_472.keep Kq481 nin0
  have F481_493 := F461_473.keep Kq481 nin0
  have V481_494 := V461_474.keep Kq481 nin0
  have E481_495 := E461_475.keep Kq481
  have E481_496 := E461_476.keep Kq481
  have F481_497 := F461_477.keep Kq481 nin0
  have F481_498 := F461_478.keep Kq481 nin0
  have V481_499 := V461_479.keep Kq481 nin0
  have E481_500 := E461_480.keep Kq481
  have F481_501 := u461_1.keep Kq481 nin0
  have F481_502 := u461_2.keep Kq481 nin0
  have V481_503 := u461_3.keep Kq481 nin0
  have K481 := K461.trans Kq481 all0
  have O481 := O461.keep Kq481 all0
  have sz504 : h0.size ≤ b_481 := Nat.le_trans K461.1 u481_2
  have gn504 : n0 ≤ b_481 := Nat.le_trans (Nat.le_trans (Nat.le_of_eq O461.1.symm) O461.2.1) u481_2
  have ne505 : b344 ≠ b_481 := Nat.ne_of_lt (Nat.lt_of_lt_of_le (E461_462).lt u481_2)
  have ne506 : b_347 ≠ b_481 := Nat.ne_of_lt (Nat.lt_of_lt_of_le (E461_463).lt u481_2)
  have ne507 : b_351 ≠ b_481 := Nat.ne_of_lt (Nat.lt_of_lt_of_le (V461_464).lt u481_2)
  have ne508 : t_361 ≠ b_481 := Nat.ne_of_lt (Nat.lt_of_lt_of_le (E461_466).lt u481_2)
  have ne509 : b_361 ≠ b_481 := Nat.ne_of_lt (Nat.lt_of_lt_of_le (V461_469).lt u481_2)
  have ne510 : t_387 ≠ b_481 := Nat.ne_of_lt (Nat.lt_of_lt_of_le (E461_471).lt u481_2)
  have ne511 : b_387 ≠ b_481 := Nat.ne_of_lt (Nat.lt_of_lt_of_le (V461_474).lt u481_2)
  have ne512 : t_427 ≠ b_481 := Nat.ne_of_lt (Nat.lt_of_lt_of_le (E461_476).lt u481_2)
  have ne513 : b_427 ≠ b_481 := Nat.ne_of_lt (Nat.lt_of_lt_of_le (V461_479).lt u481_2)
  obtain ⟨_, _, ⟨T514, L514, k514, n514⟩, -, X514, ⟨Lc514, hQ514, l514, y514, z514⟩, st514⟩ := Jvm.LawKit.callS X481 hx (y := y6) hown (mvT hZ (ow hw 31 rfl)) (mvT hZ (ow hw 32 rfl)) (mvT hZ (ow hw 33 rfl)) (mvT hZ (ow hw 34 rfl)) (by decide) (backOf (W := 0) (rm6_3 l Z ar hw [] b_481 ca cb cz kb_481 (nar .byte ((nar .char (nar .char (((nar .byte (ca.toInt8.toInt32)) &&& (255 : Int32)).toUInt32.toUInt16.toUInt32.toInt32))).toInt8.toInt32)) (nar .byte ((nar .char (nar .char (((nar .byte (cb.toInt8.toInt32)) &&& (255 : Int32)).toUInt32.toUInt16.toUInt32.toInt32))).toInt8.toInt32)) (nar .byte ((nar .char (nar .char (((nar .byte (cz.toInt8.toInt32)) &&& (255 : Int32)).toUInt32.toUInt16.toUInt32.toInt32))).toInt8.toInt32)) T481.heap n0 O481 u481_0) hZ (ow hw 34 rfl) (ow hw 33 rfl) (by decide) (by decide)) (g := (mkF m 118 #[iv p0, iv p1, iv p2, iv p3, iv (3 : Int32), iv ca, iv cb, iv cz, rv b344, rv b_351, rv b_481, un] [(.int cz), (.int cb), (.int ca), (.int (3 : Int32)), (.ref b_481)])) rfl (by rw [hml]; rfl) (argsL := [(.ref b_481), (.int (3 : Int32)), (.int ca), (.int cb), (.int cz)]) (rest := []) (lenOf pd_15 rfl) rfl (by show 2 * 0 + _ ≤ _; exact Nat.le_of_eq rfl) (hb hby at_118) (fun _ _ => ⟨rfl, rfl, (by decide : 10 + 0 ≤ _), (by decide : 1044 + 0 ≤ _)⟩)
  dsimp only [Pt.U, Pt.locs, Pt.cells, Pt.slots] at X514 l514 y514 z514 st514 hQ514
  subst l514 y514 z514
  obtain ⟨rfl, N514q, e514⟩ := hQ514
  have N514 := Fr.app N481 N514q
  have pre515 : ∀ tg, AT p e below T514 m 121 #[iv p0, iv p1, iv p2, iv p3, iv (3 : Int32), iv ca, iv cb, iv cz, rv b344, rv b_351, rv b_481, un] [(.int (f6_3 ca cb cz (nar .byte ((nar .char (nar .char (((nar .byte (ca.toInt8.toInt32)) &&& (255 : Int32)).toUInt32.toUInt16.toUInt32.toInt32))).toInt8.toInt32)) (nar .byte ((nar .char (nar .char (((nar .byte (cb.toInt8.toInt32)) &&& (255 : Int32)).toUInt32.toUInt16.toUInt32.toInt32))).toInt8.toInt32)) (nar .byte ((nar .char (nar .char (((nar .byte (cz.toInt8.toInt32)) &&& (255 : Int32)).toUInt32.toUInt16.toUInt32.toInt32))).toInt8.toInt32))))] tg → Steps p.tables e below S0 tg := fun tg kg => pre343 tg (by
   refine st344 _ ?_
   show AT p e below T344 m 29 #[iv p0, iv p1, iv p2, iv p3, iv (3 : Int32), iv ca, iv cb, iv cz, un, un, un, un] [(.ref b344)] _
   refine XS.dup X344.here hx rfl (hb hby at_29) rfl rfl ?_
   show AT p e below T344 m 30 #[iv p0, iv p1, iv p2, iv p3, iv (3 : Int32), iv ca, iv cb, iv cz, un, un, un, un] [(.ref b344), (.ref b344)] _
   refine st347.trans ?_
   show AT p e below T347 m 33 #[iv p0, iv p1, iv p2, iv p3, iv (3 : Int32), iv ca, iv cb, iv cz, un, un, un, un] [(.ref b344)] _
   refine XS.astore X347.here hx rfl (hb hby at_33) rfl rfl (l' := #[iv p0, iv p1, iv p2, iv p3, iv (3 : Int32), iv ca, iv cb, iv cz, rv b344, un, un, un]) rfl ?_
   show AT p e below T347 m 35 #[iv p0, iv p1, iv p2, iv p3, iv (3 : Int32), iv ca, iv cb, iv cz, rv b344, un, un, un] [] _
   refine XS.aload X347.here hx rfl (hb hby at_35) rfl rfl ?_
   show AT p e below T347 m 37 #[iv p0, iv p1, iv p2, iv p3, iv (3 : Int32), iv ca, iv cb, iv cz, rv b344, un, un, un] [(.ref b344)] _
   refine st351.trans ?_
   show AT p e below T351 m 40 #[iv p0, iv p1, iv p2, iv p3, iv (3 : Int32), iv ca, iv cb, iv cz, rv b344, un, un, un] [(.ref b_351)] _
   refine XS.astore X351.here hx rfl (hb hby at_40) rfl rfl (l' := #[iv p0, iv p1, iv p2, iv p3, iv (3 : Int32), iv ca, iv cb, iv cz, rv b344, rv b_351, un, un]) rfl ?_
   show AT p e below T351 m 42 #[iv p0, iv p1, iv p2, iv p3, iv (3 : Int32), iv ca, iv cb, iv cz, rv b344, rv b_351, un, un] [] _
   refine XS.aload X351.here hx rfl (hb hby at_42) rfl rfl ?_
   show AT p e below T351 m 44 #[iv p0, iv p1, iv p2, iv p3, iv (3 : Int32), iv ca, iv cb, iv cz, rv b344, rv b_351, un, un] [(.ref b_351)] _
   refine X351.arraylength hx Ar360.1 (State.isArrayOf_alike hZ.alike Ar360.2.1) (g := (mkF m 44 #[iv p0, iv p1, iv p2, iv p3, iv (3 : Int32), iv ca, iv cb, iv cz, rv b344, rv b_351, un, un] [(.ref b_351)])) rfl rfl (hb hby at_44) _ ?_
   rw [len_of S360 N360]
   show AT p e below T351 m 45 #[iv p0, iv p1, iv p2, iv p3, iv (3 : Int32), iv ca, iv cb, iv cz, rv b344, rv b_351, un, un] [(.int (0 : Int32))] _
   refine XS.ifYes X351.here hx rfl (pc0 := 45) (pc' := 50) rfl (hb hby at_45) rfl (XT.i0_eq_t ((by decide) : (0 : Int32) = (0 : Int32))) (by decide) (by decide) ?_
   show AT p e below T351 m 50 #[iv p0, iv p1, iv p2, iv p3, iv (3 : Int32), iv ca, iv cb, iv cz, rv b344, rv b_351, un, un] [] _
   refine XS.iload X351.here hx rfl (hb hby at_50) rfl ?_
   show AT p e below T351 m 52 #[iv p0, iv p1, iv p2, iv p3, iv (3 : Int32), iv ca, iv cb, iv cz, rv b344, rv b_351, un, un] [(.int (3 : Int32))] _
   refine XS.iconst X351.here hx rfl (hb hby at_52) ?_
   show AT p e below T351 m 53 #[iv p0, iv p1, iv p2, iv p3, iv (3 : Int32), iv ca, iv cb, iv cz, rv b344, rv b_351, un, un] [(.int (1 : Int32)), (.int (3 : Int32))] _
   refine XS.icmpNo X351.here hx rfl (hb hby at_53) rfl (XT.ii_lt_f ((by decide) : ¬ ((3 : Int32) < (1 : Int32)))) ?_
   show AT p e below T351 m 56 #[iv p0, iv p1, iv p2, iv p3, iv (3 : Int32), iv ca, iv cb, iv cz, rv b344, rv b_351, un, un] [] _
   refine XS.aload X351.here hx rfl (hb hby at_56) rfl rfl ?_
   show AT p e below T351 m 58 #[iv p0, iv p1, iv p2, iv p3, iv (3 : Int32), iv ca, iv cb, iv cz, rv b344, rv b_351, un, un] [(.ref b344)] _
   refine XS.iload X351.here hx rfl (hb hby at_58) rfl ?_
   show AT p e below T351 m 60 #[iv p0, iv p1, iv p2, iv p3, iv (3 : Int32), iv ca, iv cb, iv cz, rv b344, rv b_351, un, un] [(.int ca), (.ref b344)] _
   refine st361 _ ?_
   show AT p e below T361 m 63 #[iv p0, iv p1, iv p2, iv p3, iv (3 : Int32), iv ca, iv cb, iv cz, rv b344, rv b_351, un, un] [(.ref t_361), (.ref b344)] _
   refine st377.trans ?_
   show AT p e below T377 m 66 #[iv p0, iv p1, iv p2, iv p3, iv (3 : Int32), iv ca, iv cb, iv cz, rv b344, rv b_351, un, un] [(.ref b344)] _
   refine XS.pop X377.here hx rfl (hb hby at_66) rfl rfl ?_
   show AT p e below T377 m 67 #[iv p0, iv p1, iv p2, iv p3, iv (3 : Int32), iv ca, iv cb, iv cz, rv b344, rv b_351, un, un] [] _
   refine XS.iload X377.here hx rfl (hb hby at_67) rfl ?_
   show AT p e below T377 m 69 #[iv p0, iv p1, iv p2, iv p3, iv (3 : Int32), iv ca, iv cb, iv cz, rv b344, rv b_351, un, un] [(.int (3 : Int32))] _
   refine XS.iconst X377.here hx rfl (hb hby at_69) ?_
   show AT p e below T377 m 70 #[iv p0, iv p1, iv p2, iv p3, iv (3 : Int32), iv ca, iv cb, iv cz, rv b344, rv b_351, un, un] [(.int (2 : Int32)), (.int (3 : Int32))] _
   refine XS.icmpNo X377.here hx rfl (hb hby at_70) rfl (XT.ii_lt_f ((by decide) : ¬ ((3 : Int32) < (2 : Int32)))) ?_
   show AT p e below T377 m 73 #[iv p0, iv p1, iv p2, iv p3, iv (3 : Int32), iv ca, iv cb, iv cz, rv b344, rv b_351, un, un] [] _
   refine XS.aload X377.here hx rfl (hb hby at_73) rfl rfl ?_
   show AT p e below T377 m 75 #[iv p0, iv p1, iv p2, iv p3, iv (3 : Int32), iv ca, iv cb, iv cz, rv b344, rv b_351, un, un] [(.ref b344)] _
   refine XS.iload X377.here hx rfl (hb hby at_75) rfl ?_
   show AT p e below T377 m 77 #[iv p0, iv p1, iv p2, iv p3, iv (3 : Int32), iv ca, iv cb, iv cz, rv b344, rv b_351, un, un] [(.int cb), (.ref b344)] _
   refine st387 _ ?_
   show AT p e below T387 m 80 #[iv p0, iv p1, iv p2, iv p3, iv (3 : Int32), iv ca, iv cb, iv cz, rv b344, rv b_351, un, un] [(.ref t_387), (.ref b344)] _
   refine st412.trans ?_
   show AT p e below T412 m 83 #[iv p0, iv p1, iv p2, iv p3, iv (3 : Int32), iv ca, iv cb, iv cz, rv b344, rv b_351, un, un] [(.ref b344)] _
   refine XS.pop X412.here hx rfl (hb hby at_83) rfl rfl ?_
   show AT p e below T412 m 84 #[iv p0, iv p1, iv p2, iv p3, iv (3 : Int32), iv ca, iv cb, iv cz, rv b344, rv b_351, un, un] [] _
   refine XS.iload X412.here hx rfl (hb hby at_84) rfl ?_
   show AT p e below T412 m 86 #[iv p0, iv p1, iv p2, iv p3, iv (3 : Int32), iv ca, iv cb, iv cz, rv b344, rv b_351, un, un] [(.int (3 : Int32))] _
   refine XS.iconst X412.here hx rfl (hb hby at_86) ?_
   show AT p e below T412 m 87 #[iv p0, iv p1, iv p2, iv p3, iv (3 : Int32), iv ca, iv cb, iv cz, rv b344, rv b_351, un, un] [(.int (3 : Int32)), (.int (3 : Int32))] _
   refine XS.icmpNo X412.here hx rfl (hb hby at_87) rfl (XT.ii_lt_f ((by decide) : ¬ ((3 : Int32) < (3 : Int32)))) ?_
   show AT p e below T412 m 90 #[iv p0, iv p1, iv p2, iv p3, iv (3 : Int32), iv ca, iv cb, iv cz, rv b344, rv b_351, un, un] [] _
   refine XS.aload X412.here hx rfl (hb hby at_90) rfl rfl ?_
   show AT p e below T412 m 92 #[iv p0, iv p1, iv p2, iv p3, iv (3 : Int32), iv ca, iv cb, iv cz, rv b344, rv b_351, un, un] [(.ref b344)] _
   refine XS.iload X412.here hx rfl (hb hby at_92) rfl ?_
   show AT p e below T412 m 94 #[iv p0, iv p1, iv p2, iv p3, iv (3 : Int32), iv ca, iv cb, iv cz, rv b344, rv b_351, un, un] [(.int cz), (.ref b344)] _
   refine st427 _ ?_
   show AT p e below T427 m 97 #[iv p0, iv p1, iv p2, iv p3, iv (3 : Int32), iv ca, iv cb, iv cz, rv b344, rv b_351, un, un] [(.ref t_427), (.ref b344)] _
   refine st461.trans ?_
   show AT p e below T461 m 100 #[iv p0, iv p1, iv p2, iv p3, iv (3 : Int32), iv ca, iv cb, iv cz, rv b344, rv b_351, un, un] [(.ref b344)] _
   refine XS.pop X461.here hx rfl (hb hby at_100) rfl rfl ?_
   show AT p e below T461 m 101 #[iv p0, iv p1, iv p2, iv p3, iv (3 : Int32), iv ca, iv cb, iv cz, rv b344, rv b_351, un, un] [] _
   refine XS.aload X461.here hx rfl (hb hby at_101) rfl rfl ?_
   show AT p e below T461 m 103 #[iv p0, iv p1, iv p2, iv p3, iv (3 : Int32), iv ca, iv cb, iv cz, rv b344, rv b_351, un, un] [(.ref b344)] _
   refine st481.trans ?_
   show AT p e below T481 m 106 #[iv p0, iv p1, iv p2, iv p3, iv (3 : Int32), iv ca, iv cb, iv cz, rv b344, rv b_351, un, un] [(.ref b_481)] _
   refine XS.astore X481.here hx rfl (hb hby at_106) rfl rfl (l' := #[iv p0, iv p1, iv p2, iv p3, iv (3 : Int32), iv ca, iv cb, iv cz, rv b344, rv b_351, rv b_481, un]) rfl ?_
   show AT p e below T481 m 108 #[iv p0, iv p1, iv p2, iv p3, iv (3 : Int32), iv ca, iv cb, iv cz, rv b344, rv b_351, rv b_481, un] [] _
   refine XS.aload X481.here hx rfl (hb hby at_108) rfl rfl ?_
   show AT p e below T481 m 110 #[iv p0, iv p1, iv p2, iv p3, iv (3 : Int32), iv ca, iv cb, iv cz, rv b344, rv b_351, rv b_481, un] [(.ref b_481)] _
   refine XS.iload X481.here hx rfl (hb hby at_110) rfl ?_
   show AT p e below T481 m 112 #[iv p0, iv p1, iv p2, iv p3, iv (3 : Int32), iv ca, iv cb, iv cz, rv b344, rv b_351, rv b_481, un] [(.int (3 : Int32)), (.ref b_481)] _
   refine XS.iload X481.here hx rfl (hb hby at_112) rfl ?_
   show AT p e below T481 m 114 #[iv p0, iv p1, iv p2, iv p3, iv (3 : Int32), iv ca, iv cb, iv cz, rv b344, rv b_351, rv b_481, un] [(.int ca), (.int (3 : Int32)), (.ref b_481)] _
   refine XS.iload X481.here hx rfl (hb hby at_114) rfl ?_
   show AT p e below T481 m 116 #[iv p0, iv p1, iv p2, iv p3, iv (3 : Int32), iv ca, iv cb, iv cz, rv b344, rv b_351, rv b_481, un] [(.int cb), (.int ca), (.int (3 : Int32)), (.ref b_481)] _
   refine XS.iload X481.here hx rfl (hb hby at_116) rfl ?_
   show AT p e below T481 m 118 #[iv p0, iv p1, iv p2, iv p3, iv (3 : Int32), iv ca, iv cb, iv cz, rv b344, rv b_351, rv b_481, un] [(.int cz), (.int cb), (.int ca), (.int (3 : Int32)), (.ref b_481)] _
   refine st514 _ ?_
   exact kg)
  have hw516 : (f6_3 ca cb cz (nar .byte ((nar .char (nar .char (((nar .byte (ca.toInt8.toInt32)) &&& (255 : Int32)).toUInt32.toUInt16.toUInt32.toInt32))).toInt8.toInt32)) (nar .byte ((nar .char (nar .char (((nar .byte (cb.toInt8.toInt32)) &&& (255 : Int32)).toUInt32.toUInt16.toUInt32.toInt32))).toInt8.toInt32)) (nar .byte ((nar .char (nar .char (((nar .byte (cz.toInt8.toInt32)) &&& (255 : Int32)).toUInt32.toUInt16.toUInt32.toInt32))).toInt8.toInt32))) = (1 : Int32) := by rw [own_fin ca okca, own_fin cb okcb, own_fin cz okcz]; unfold f6_3; rw [own_byte ca okca, own_byte cb okcb, own_byte cz okcz]; simp
  have pre516 : ∀ tg, AT p e below T514 m 121 #[iv p0, iv p1, iv p2, iv p3, iv (3 : Int32), iv ca, iv cb, iv cz, rv b344, rv b_351, rv b_481, un] [(.int (1 : Int32))] tg → Steps p.tables e below S0 tg := by
    have q := pre515
    rw [hw516] at q
    exact q
  obtain ⟨cl517, Ar517, q517, S517, N517, H517, G517⟩ := id u481_0
  have hin517 := own_in (0 : Int32) S517 ⟨by decide, by decide⟩
  have hat517 : cl517.slots[((0 : Int32)).toNatClampNeg]? = some (.int (nar .byte ((nar .char (nar .char (((nar .byte (ca.toInt8.toInt32)) &&& (255 : Int32)).toUInt32.toUInt16.toUInt32.toInt32))).toInt8.toInt32))) := Has.at H517 hin517 rfl
  obtain ⟨cl518, Ar518, q518, S518, M518, H518, G518⟩ := id u481_0
  have hin518 := own_in (0 : Int32) S518 ⟨by decide, by decide⟩
  obtain ⟨T518, h518, X518, e518, W518, st518⟩ := stB X514 hx hZ e514 Ar518 (j := (0 : Int32)) hin518 (g := (mkF m 142 #[iv p0, iv p1, iv p2, iv p3, iv (3 : Int32), iv ca, iv cb, iv cz, rv b344, rv b_351, rv b_481, un] [(.int (((nar .byte ((nar .char (nar .char (((nar .byte (ca.toInt8.toInt32)) &&& (255 : Int32)).toUInt32.toUInt16.toUInt32.toInt32))).toInt8.toInt32)) ^^^ (1 : Int32)).toInt8.toInt32)), (.int (0 : Int32)), (.ref b_481)])) rfl rfl (hb hby at_142)
  have V518_519 : Arv Z h518 b_481 kb_481 .byte (3 : Int32) [(.int (nar .byte (((nar .byte ((nar .char (nar .char (((nar .byte (ca.toInt8.toInt32)) &&& (255 : Int32)).toUInt32.toUInt16.toUInt32.toInt32))).toInt8.toInt32)) ^^^ (1 : Int32)).toInt8.toInt32))), (.int (nar .byte ((nar .char (nar .char (((nar .byte (cb.toInt8.toInt32)) &&& (255 : Int32)).toUInt32.toUInt16.toUInt32.toInt32))).toInt8.toInt32))), (.int (nar .byte ((nar .char (nar .char (((nar .byte (cz.toInt8.toInt32)) &&& (255 : Int32)).toUInt32.toUInt16.toUInt32.toInt32))).toInt8.toInt32)))] (.int (0 : Int32)) := Arv.set Ar518 q518 S518 M518 H518 G518 (fits_nar_byte _) W518 0 rfl (Nat.le_of_ble_eq_true rfl)
  have E518_520 := E481_482.wr W518
  have E518_521 := E481_483.wr W518
  have V518_522 := V481_484.other W518 ne507
  have E518_523 := E481_485.wr W518
  have E518_524 := E481_486.wr W518
  have F518_525 := F481_487.other W518 (Or.inl ne508)
  have F518_526 := F481_488.other W518 (Or.inl ne508)
  have V518_527 := V481_489.other W518 ne509
  have E518_528 := E481_490.wr W518
  have E518_529 := E481_491.wr W518
  have F518_530 := F481_492.other W518 (Or.inl ne510)
  have F518_531 := F481_493.other W518 (Or.inl ne510)
  have V518_532 := V481_494.other W518 ne511
  have E518_533 := E481_495.wr W518
  have E518_534 := E481_496.wr W518
  have F518_535 := F481_497.other W518 (Or.inl ne512)
  have F518_536 := F481_498.other W518 (Or.inl ne512)
  have V518_537 := V481_499.other W518 ne513
  have E518_538 := E481_500.wr W518
  have F518_539 := F481_501.other W518 (Or.inl ne505)
  have F518_540 := F481_502.other W518 (Or.inl ne505)
  have V518_541 := V481_503.other W518 ne506
  have E518_542 := u481_1.wr W518
  have K518 := K481.wr W518 (Or.inr sz504)
  have O518 := O481.wr W518 gn504
  have N518 := Fr.snoc X518 N514 gn504
  obtain ⟨cq543, kq543, q543a, q543b, q543c⟩ := isOf hZ e518 E518_520
  obtain ⟨_, _, ⟨T543, L543, k543, n543⟩, -, X543, ⟨Lc543, hQ543, l543, y543, z543⟩, st543⟩ := X518.virtualBack hx (y := y3) (z := y3) hown (mvT hZ (ow hw 12 rfl)) (mvT hZ (ow hw 13 rfl)) (notFace_of_selects (args := #[]) (mvT hZ (ow hw 15 rfl))) (mvT hZ (ow hw 15 rfl)) (mvT hZ (ow hw 14 rfl)) (by decide) (backOf (W := 0) (rm3_3 l Z ar hw [] b344 b_347 kb_347 (nar .byte ((nar .char (nar .char (((nar .byte (ca.toInt8.toInt32)) &&& (255 : Int32)).toUInt32.toUInt16.toUInt32.toInt32))).toInt8.toInt32)) (nar .byte ((nar .char (nar .char (((nar .byte (cb.toInt8.toInt32)) &&& (255 : Int32)).toUInt32.toUInt16.toUInt32.toInt32))).toInt8.toInt32)) (nar .byte ((nar .char (nar .char (((nar .byte (cz.toInt8.toInt32)) &&& (255 : Int32)).toUInt32.toUInt16.toUInt32.toInt32))).toInt8.toInt32)) (0 : Int32) (0 : Int32) (0 : Int32) (0 : Int32) (0 : Int32) h518 n0 O518 E518_520 F518_539 V518_541 F518_540) hZ (ow hw 16 rfl) (ow hw 2 rfl) (by decide) (by decide)) q543a q543c (g := (mkF m 145 #[iv p0, iv p1, iv p2, iv p3, iv (3 : Int32), iv ca, iv cb, iv cz, rv b344, rv b_351, rv b_481, un] [(.ref b344)])) rfl (by rw [hml]; rfl) (Steps.refl _) (argsL := []) (rest := []) (lenOf pd_14 rfl) rfl (by show 2 * 0 + _ ≤ _; exact Nat.le_of_eq rfl) (hb hby at_145) (fun _ _ => ⟨rfl, e518, (by decide : 10 + 1 ≤ _), (by decide : 1044 + 3 ≤ _)⟩)
  dsimp only [Pt.U, Pt.locs, Pt.cells, Pt.slots] at X543 l543 y543 z543 st543 hQ543
  subst l543 y543 z543
  obtain ⟨b_543, kb_543, rfl, N543q, Kq543, u543_0, u543_1, u543_2⟩ := hQ543
  have N543 := Fr.app N518 N543q
  have E543_544 := E518_520.keep Kq543
  have E543_545 := E518_521.keep Kq543
  have V543_546 := V518_522.keep Kq543 nin0
  have E543_547 := E518_523.keep Kq543
  have E543_548 := E518_524.keep Kq543
  have F543_549 := F518_525.keep Kq543 nin0
  have F543_550 := F518_526.keep Kq543 nin0
  have V543_551 := V518_527.keep Kq543 nin0
  have E543_552 := E518_528.keep Kq543
  have E543_553 := E518_529.keep Kq543
  have F543_554 := F518_530.keep Kq543 nin0
  have F543_555 := F518_531.keep Kq543 nin0
  have V543_556 := V518_532.keep Kq543 nin0
  have E543_557 := E518_533.keep Kq543
  have E543_558 := E518_534.keep Kq543
  have F543_559 := F518_535.keep Kq543 nin0
  have F543_560 := F518_536.keep Kq543 nin0
  have V543_561 := V518_537.keep Kq543 nin0
  have E543_562 := E518_538.keep Kq543
  have F543_563 := F518_539.keep Kq543 nin0
  have F543_564 := F518_540.keep Kq543 nin0
  have V543_565 := V518_541.keep Kq543 nin0
  have V543_566 := V518_519.keep Kq543 nin0
  have E543_567 := E518_542.keep Kq543
  have K543 := K518.trans Kq543 all0
  have O543 := O518.keep Kq543 all0
  have sz568 : h0.size ≤ b_543 := Nat.le_trans K518.1 u543_2
  have gn568 : n0 ≤ b_543 := Nat.le_trans (Nat.le_trans (Nat.le_of_eq O518.1.symm) O518.2.1) u543_2
  have ne569 : b344 ≠ b_543 := Nat.ne_of_lt (Nat.lt_of_lt_of_le (E518_520).lt u543_2)
  have ne570 : b_347 ≠ b_543 := Nat.ne_of_lt (Nat.lt_of_lt_of_le (E518_521).lt u543_2)
  have ne571 : b_351 ≠ b_543 := Nat.ne_of_lt (Nat.lt_of_lt_of_le (V518_522).lt u543_2)
  have ne572 : t_361 ≠ b_543 := Nat.ne_of_lt (Nat.lt_of_lt_of_le (E518_524).lt u543_2)
  have ne573 : b_361 ≠ b_543 := Nat.ne_of_lt (Nat.lt_of_lt_of_le (V518_527).lt u543_2)
  have ne574 : t_387 ≠ b_543 := Nat.ne_of_lt (Nat.lt_of_lt_of_le (E518_529).lt u543_2)
  have ne575 : b_387 ≠ b_543 := Nat.ne_of_lt (Nat.lt_of_lt_of_le (V518_532).lt u543_2)
  have ne576 : t_427 ≠ b_543 := Nat.ne_of_lt (Nat.lt_of_lt_of_le (E518_534).lt u543_2)
  have ne577 : b_427 ≠ b_543 := Nat.ne_of_lt (Nat.lt_of_lt_of_le (V518_537).lt u543_2)
  have ne578 : b_481 ≠ b_543 := Nat.ne_of_lt (Nat.lt_of_lt_of_le (V518_519).lt u543_2)
  obtain ⟨_, _, ⟨T579, L579, k579, n579⟩, -, X579, ⟨Lc579, hQ579, l579, y579, z579⟩, st579⟩ := Jvm.LawKit.callS X543 hx (y := y6) hown (mvT hZ (ow hw 31 rfl)) (mvT hZ (ow hw 32 rfl)) (mvT hZ (ow hw 33 rfl)) (mvT hZ (ow hw 34 rfl)) (by decide) (backOf (W := 0) (rm6_3 l Z ar hw [] b_543 ca cb cz kb_543 (nar .byte ((nar .char (nar .char (((nar .byte (ca.toInt8.toInt32)) &&& (255 : Int32)).toUInt32.toUInt16.toUInt32.toInt32))).toInt8.toInt32)) (nar .byte ((nar .char (nar .char (((nar .byte (cb.toInt8.toInt32)) &&& (255 : Int32)).toUInt32.toUInt16.toUInt32.toInt32))).toInt8.toInt32)) (nar .byte ((nar .char (nar .char (((nar .byte (cz.toInt8.toInt32)) &&& (255 : Int32)).toUInt32.toUInt16.toUInt32.toInt32))).toInt8.toInt32)) T543.heap n0 O543 u543_0) hZ (ow hw 34 rfl) (ow hw 33 rfl) (by decide) (by decide)) (g := (mkF m 160 #[iv p0, iv p1, iv p2, iv p3, iv (3 : Int32), iv ca, iv cb, iv cz, rv b344, rv b_351, rv b_481, rv b_543] [(.int cz), (.int cb), (.int ca), (.int (3 : Int32)), (.ref b_543)])) rfl (by rw [hml]; rfl) (argsL := [(.ref b_543), (.int (3 : Int32)), (.int ca), (.int cb), (.int cz)]) (rest := []) (lenOf pd_15 rfl) rfl (by show 2 * 0 + _ ≤ _; exact Nat.le_of_eq rfl) (hb hby at_160) (fun _ _ => ⟨rfl, rfl, (by decide : 11 + 0 ≤ _), (by decide : 1047 + 0 ≤ _)⟩)
  dsimp only [Pt.U, Pt.locs, Pt.cells, Pt.slots] at X579 l579 y579 z579 st579 hQ579
  subst l579 y579 z579
  obtain ⟨rfl, N579q, e579⟩ := hQ579
  have N579 := Fr.app N543 N579q
  have pre580 : ∀ tg, AT p e below T579 m 163 #[iv p0, iv p1, iv p2, iv p3, iv (3 : Int32), iv ca, iv cb, iv cz, rv b344, rv b_351, rv b_481, rv b_543] [(.int (f6_3 ca cb cz (nar .byte ((nar .char (nar .char (((nar .byte (ca.toInt8.toInt32)) &&& (255 : Int32)).toUInt32.toUInt16.toUInt32.toInt32))).toInt8.toInt32)) (nar .byte ((nar .char (nar .char (((nar .byte (cb.toInt8.toInt32)) &&& (255 : Int32)).toUInt32.toUInt16.toUInt32.toInt32))).toInt8.toInt32)) (nar .byte ((nar .char (nar .char (((nar .byte (cz.toInt8.toInt32)) &&& (255 : Int32)).toUInt32.toUInt16.toUInt32.toInt32))).toInt8.toInt32))))] tg → Steps p.tables e below S0 tg := fun tg kg => pre516 tg (by
   refine XS.ifYes X514.here hx rfl (pc0 := 121) (pc' := 126) rfl (hb hby at_121) rfl (XT.i0_ne_t ((by decide) : ¬ ((1 : Int32) = (0 : Int32)))) (by decide) (by decide) ?_
   show AT p e below T514 m 126 #[iv p0, iv p1, iv p2, iv p3, iv (3 : Int32), iv ca, iv cb, iv cz, rv b344, rv b_351, rv b_481, un] [] _
   refine XS.iload X514.here hx rfl (hb hby at_126) rfl ?_
   show AT p e below T514 m 128 #[iv p0, iv p1, iv p2, iv p3, iv (3 : Int32), iv ca, iv cb, iv cz, rv b344, rv b_351, rv b_481, un] [(.int (3 : Int32))] _
   refine XS.iconst X514.here hx rfl (hb hby at_128) ?_
   show AT p e below T514 m 129 #[iv p0, iv p1, iv p2, iv p3, iv (3 : Int32), iv ca, iv cb, iv cz, rv b344, rv b_351, rv b_481, un] [(.int (1 : Int32)), (.int (3 : Int32))] _
   refine XS.icmpNo X514.here hx rfl (hb hby at_129) rfl (XT.ii_lt_f ((by decide) : ¬ ((3 : Int32) < (1 : Int32)))) ?_
   show AT p e below T514 m 132 #[iv p0, iv p1, iv p2, iv p3, iv (3 : Int32), iv ca, iv cb, iv cz, rv b344, rv b_351, rv b_481, un] [] _
   refine XS.aload X514.here hx rfl (hb hby at_132) rfl rfl ?_
   show AT p e below T514 m 134 #[iv p0, iv p1, iv p2, iv p3, iv (3 : Int32), iv ca, iv cb, iv cz, rv b344, rv b_351, rv b_481, un] [(.ref b_481)] _
   refine XS.iconst X514.here hx rfl (hb hby at_134) ?_
   show AT p e below T514 m 135 #[iv p0, iv p1, iv p2, iv p3, iv (3 : Int32), iv ca, iv cb, iv cz, rv b344, rv b_351, rv b_481, un] [(.int (0 : Int32)), (.ref b_481)] _
   refine XS.aload X514.here hx rfl (hb hby at_135) rfl rfl ?_
   show AT p e below T514 m 137 #[iv p0, iv p1, iv p2, iv p3, iv (3 : Int32), iv ca, iv cb, iv cz, rv b344, rv b_351, rv b_481, un] [(.ref b_481), (.int (0 : Int32)), (.ref b_481)] _
   refine XS.iconst X514.here hx rfl (hb hby at_137) ?_
   show AT p e below T514 m 138 #[iv p0, iv p1, iv p2, iv p3, iv (3 : Int32), iv ca, iv cb, iv cz, rv b344, rv b_351, rv b_481, un] [(.int (0 : Int32)), (.ref b_481), (.int (0 : Int32)), (.ref b_481)] _
   refine X514.baloadBytes hx (j := (0 : Int32)) (v := (.int (nar .byte ((nar .char (nar .char (((nar .byte (ca.toInt8.toInt32)) &&& (255 : Int32)).toUInt32.toUInt16.toUInt32.toInt32))).toInt8.toInt32)))) (by rw [e514]; exact Ar517.1) (State.isArrayOf_alike hZ.alike Ar517.2.1) Ar517.2.2 hin517 hat517 (g := (mkF m 138 #[iv p0, iv p1, iv p2, iv p3, iv (3 : Int32), iv ca, iv cb, iv cz, rv b344, rv b_351, rv b_481, un] [(.int (0 : Int32)), (.ref b_481), (.int (0 : Int32)), (.ref b_481)])) rfl rfl (hb hby at_138) _ ?_
   show AT p e below T514 m 139 #[iv p0, iv p1, iv p2, iv p3, iv (3 : Int32), iv ca, iv cb, iv cz, rv b344, rv b_351, rv b_481, un] [(.int (nar .byte ((nar .char (nar .char (((nar .byte (ca.toInt8.toInt32)) &&& (255 : Int32)).toUInt32.toUInt16.toUInt32.toInt32))).toInt8.toInt32))), (.int (0 : Int32)), (.ref b_481)] _
   refine XS.iconst X514.here hx rfl (hb hby at_139) ?_
   show AT p e below T514 m 140 #[iv p0, iv p1, iv p2, iv p3, iv (3 : Int32), iv ca, iv cb, iv cz, rv b344, rv b_351, rv b_481, un] [(.int (1 : Int32)), (.int (nar .byte ((nar .char (nar .char (((nar .byte (ca.toInt8.toInt32)) &&& (255 : Int32)).toUInt32.toUInt16.toUInt32.toInt32))).toInt8.toInt32))), (.int (0 : Int32)), (.ref b_481)] _
   refine XS.ixor X514.here hx rfl (hb hby at_140) rfl ?_
   show AT p e below T514 m 141 #[iv p0, iv p1, iv p2, iv p3, iv (3 : Int32), iv ca, iv cb, iv cz, rv b344, rv b_351, rv b_481, un] [(.int ((nar .byte ((nar .char (nar .char (((nar .byte (ca.toInt8.toInt32)) &&& (255 : Int32)).toUInt32.toUInt16.toUInt32.toInt32))).toInt8.toInt32)) ^^^ (1 : Int32))), (.int (0 : Int32)), (.ref b_481)] _
   refine XS.i2b X514.here hx rfl (hb hby at_141) rfl ?_
   show AT p e below T514 m 142 #[iv p0, iv p1, iv p2, iv p3, iv (3 : Int32), iv ca, iv cb, iv cz, rv b344, rv b_351, rv b_481, un] [(.int (((nar .byte ((nar .char (nar .char (((nar .byte (ca.toInt8.toInt32)) &&& (255 : Int32)).toUInt32.toUInt16.toUInt32.toInt32))).toInt8.toInt32)) ^^^ (1 : Int32)).toInt8.toInt32)), (.int (0 : Int32)), (.ref b_481)] _
   refine st518 _ ?_
   show AT p e below T518 m 143 #[iv p0, iv p1, iv p2, iv p3, iv (3 : Int32), iv ca, iv cb, iv cz, rv b344, rv b_351, rv b_481, un] [] _
   refine XS.aload X518.here hx rfl (hb hby at_143) rfl rfl ?_
   show AT p e below T518 m 145 #[iv p0, iv p1, iv p2, iv p3, iv (3 : Int32), iv ca, iv cb, iv cz, rv b344, rv b_351, rv b_481, un] [(.ref b344)] _
   refine st543.trans ?_
   show AT p e below T543 m 148 #[iv p0, iv p1, iv p2, iv p3, iv (3 : Int32), iv ca, iv cb, iv cz, rv b344, rv b_351, rv b_481, un] [(.ref b_543)] _
   refine XS.astore X543.here hx rfl (hb hby at_148) rfl rfl (l' := #[iv p0, iv p1, iv p2, iv p3, iv (3 : Int32), iv ca, iv cb, iv cz, rv b344, rv b_351, rv b_481, rv b_543]) rfl ?_
   show AT p e below T543 m 150 #[iv p0, iv p1, iv p2, iv p3, iv (3 : Int32), iv ca, iv cb, iv cz, rv b344, rv b_351, rv b_481, rv b_543] [] _
   refine XS.aload X543.here hx rfl (hb hby at_150) rfl rfl ?_
   show AT p e below T543 m 152 #[iv p0, iv p1, iv p2, iv p3, iv (3 : Int32), iv ca, iv cb, iv cz, rv b344, rv b_351, rv b_481, rv b_543] [(.ref b_543)] _
   refine XS.iload X543.here hx rfl (hb hby at_152) rfl ?_
   show AT p e below T543 m 154 #[iv p0, iv p1, iv p2, iv p3, iv (3 : Int32), iv ca, iv cb, iv cz, rv b344, rv b_351, rv b_481, rv b_543] [(.int (3 : Int32)), (.ref b_543)] _
   refine XS.iload X543.here hx rfl (hb hby at_154) rfl ?_
   show AT p e below T543 m 156 #[iv p0, iv p1, iv p2, iv p3, iv (3 : Int32), iv ca, iv cb, iv cz, rv b344, rv b_351, rv b_481, rv b_543] [(.int ca), (.int (3 : Int32)), (.ref b_543)] _
   refine XS.iload X543.here hx rfl (hb hby at_156) rfl ?_
   show AT p e below T543 m 158 #[iv p0, iv p1, iv p2, iv p3, iv (3 : Int32), iv ca, iv cb, iv cz, rv b344, rv b_351, rv b_481, rv b_543] [(.int cb), (.int ca), (.int (3 : Int32)), (.ref b_543)] _
   refine XS.iload X543.here hx rfl (hb hby at_158) rfl ?_
   show AT p e below T543 m 160 #[iv p0, iv p1, iv p2, iv p3, iv (3 : Int32), iv ca, iv cb, iv cz, rv b344, rv b_351, rv b_481, rv b_543] [(.int cz), (.int cb), (.int ca), (.int (3 : Int32)), (.ref b_543)] _
   refine st579 _ ?_
   exact kg)
  have hw581 : (f6_3 ca cb cz (nar .byte ((nar .char (nar .char (((nar .byte (ca.toInt8.toInt32)) &&& (255 : Int32)).toUInt32.toUInt16.toUInt32.toInt32))).toInt8.toInt32)) (nar .byte ((nar .char (nar .char (((nar .byte (cb.toInt8.toInt32)) &&& (255 : Int32)).toUInt32.toUInt16.toUInt32.toInt32))).toInt8.toInt32)) (nar .byte ((nar .char (nar .char (((nar .byte (cz.toInt8.toInt32)) &&& (255 : Int32)).toUInt32.toUInt16.toUInt32.toInt32))).toInt8.toInt32))) = (1 : Int32) := by rw [own_fin ca okca, own_fin cb okcb, own_fin cz okcz]; unfold f6_3; rw [own_byte ca okca, own_byte cb okcb, own_byte cz okcz]; simp
  have pre581 : ∀ tg, AT p e below T579 m 163 #[iv p0, iv p1, iv p2, iv p3, iv (3 : Int32), iv ca, iv cb, iv cz, rv b344, rv b_351, rv b_481, rv b_543] [(.int (1 : Int32))] tg → Steps p.tables e below S0 tg := by
    have q := pre580
    rw [hw581] at q
    exact q
  obtain ⟨fs, hr, hrun, hended, hW, hsame⟩ := X579.leave (v := some (.int (1 : Int32))) (fun h => by rw [Bd.returns] at h; cases h)
  subst hS0
  refine ⟨_, _, pre581 _ ?_, hrun, hended, _, _, rfl, ?_, ⟨_, rfl⟩, hW, hsame.mono (by decide) (by decide)⟩
  ·
   exact retN X579 hx (t := .boolean) Bd.returns (by simp) (hb hby at_163) hr
  ·
   show Q0 Z p0 p1 p2 p3 w_CS0 w_SF1 h0 n0 _ T579.heap _
   rw [e579]
   exact ⟨rfl, N579⟩

set_option maxRecDepth 65536 in
set_option maxHeartbeats 40000000 in
theorem comes_1 {Post : Tables → Env → Array Value → State → Outcome → State → Prop} (hpost : ∀ tb e args s v u, (limb_1_1.after args s (.returned v) u = true ∧ limb_1_2.after args s (.returned v) u = true ∧ True) → FrameEnd s (.returned v) u (Jvm.fieldLocs frame_1_writes args s ++ Jvm.arrayLocs frame_1_arrays args s ++ Jvm.staticLocs frame_1_statics s) 32 2176 → Post tb e args s (.returned v) u) :
    ArmFor flags0 classFile x code maxLocals ret World_1 tables_1 room_1 Calls_1 rest_1 Pre_1 Post := by
  intro l hfl _ _ p e ha hc hk s m args below hf hA hF happ hP
  obtain ⟨hcalls, hrest, hpre⟩ := hP
  obtain ⟨-, -, -, hnamed, -, -, -, hat⟩ := (Spec.applies_iff hf).mp happ
  obtain ⟨hg, hn⟩ := and_e (Cond.before_iff.mp (show (Jvm.Cond.and given_1 narrow_1).before args s = true from hpre))
  obtain ⟨hg1, hg2⟩ := and_e hg
  obtain ⟨hg21, hg22⟩ := and_e hg2
  obtain ⟨hg221, hg222⟩ := and_e hg22
  obtain ⟨hg2221, hg2222⟩ := and_e hg222
  obtain ⟨w0, w1, w2, w3, rfl⟩ : ∃ w0 w1 w2 w3 : Value, args = #[w0, w1, w2, w3] := by
    have hs : args.size = 4 := by simpa [Cond.value, given_1] using hg1
    obtain ⟨L⟩ := args
    match L, hs with
    | [w0, w1, w2, w3], _ => exact ⟨w0, w1, w2, w3, rfl⟩
  have hw := fun d (hd : d ∈ tables_1) => atoms_spec (ws := Jvm.Cond.code x code maxLocals ret :: tables_1) hat d (List.mem_cons_of_mem _ hd)
  have hfit : Fit s := fun {y c} hc i hi => by
    obtain ⟨ha, rfl⟩ := Array.getElem?_eq_some_iff.mp hc
    have q := List.all_eq_true.mp ((Array.all_eq_true_iff_forall_mem.mp hF) _ (Array.getElem_mem ha)) i (List.mem_range.mpr hi)
    simpa [Array.getElem?_eq_getElem hi] using q
  obtain ⟨hsets, hown0⟩ := atoms_of _ (rest_1_c_eq ▸ (show rest_1_c.before _ s = true from hrest))
  have hr0 := Cond.before_iff.mp hown0
  obtain ⟨i0, ei0⟩ := is_v hg21
  obtain rfl : w0 = (.int i0) := Option.some.inj ei0
  obtain ⟨i1, ei1⟩ := is_v hg221
  obtain rfl : w1 = (.int i1) := Option.some.inj ei1
  obtain ⟨i2, ei2⟩ := is_v hg2221
  obtain rfl : w2 = (.int i2) := Option.some.inj ei2
  obtain ⟨i3, ei3⟩ := is_v hg2222
  obtain rfl : w3 = (.int i3) := Option.some.inj ei3
  have hs1 := Cond.before_iff.mp (hsets _ (List.mem_of_getElem? (i := 1) rfl))
  have hs2 := Cond.before_iff.mp (hsets _ (List.mem_of_getElem? (i := 2) rfl))
  have hs8 := Cond.before_iff.mp (hsets _ (List.mem_of_getElem? (i := 8) rfl))
  obtain ⟨w_CS0, ev_w_CS0⟩ := is_v hs1
  have S_COMPACT_STRINGS : Sta s s.heap "java/lang/String" "COMPACT_STRINGS" "Z" (.int w_CS0) := Sta.start ev_w_CS0 (Or.inl (hsets _ (List.mem_of_getElem? (i := 0) rfl)))
  have hz_w_CS0 : ¬ w_CS0 = (0 : Int32) := own_neInt ev_w_CS0 hs2
  obtain ⟨w_SF1, ev_w_SF1, ir_w_SF1⟩ := isR_v hs8
  have S_SIOOBE_FORMATTER : Sta s s.heap "jdk/internal/util/Preconditions" "SIOOBE_FORMATTER" "Ljava/util/function/BiFunction;" w_SF1 := Sta.start ev_w_SF1 (Or.inl (hsets _ (List.mem_of_getElem? (i := 7) rfl)))
  have HW : Wd s w_CS0 w_SF1 := ⟨S_COMPACT_STRINGS, hz_w_CS0, S_SIOOBE_FORMATTER, ir_w_SF1⟩
  obtain ⟨n, o, h1, h2, h3, _, L, rfl, ⟨rfl, N⟩, hq⟩ := rm0 l s _ hw tables_1 i0 i1 i2 i3 w_CS0 w_SF1 s.heap s.heap.size (Old.start s) HW p e ha hc hk s m _ below hf ((Spec.applies_iff_loose hf).mp happ).1 ⟨rfl, State.Warmed39.refl s, rfl⟩ trivial
  refine ⟨n, _, h1, h2, h3, hpost _ _ _ _ _ _ ⟨Cond.after_iff.mpr rfl, Cond.after_iff.mpr (eq_i res_at (Term.int_eval (1)) rfl), trivial⟩ ⟨hq.1, hq.2.1, (hq.2.2.sift fun y hy => Or.inr (N y hy)).mono (by decide) (by decide)⟩⟩
theorem main_1_1 : Claimed_1_1 := comes_1 fun _ _ _ _ _ _ h hF => ⟨h.1, hF⟩
theorem main_1_2 : Claimed_1_2 := comes_1 fun _ _ _ _ _ _ h hF => ⟨h.2.1, hF⟩
end Jvm.Pilot.@@N@@
namespace Jvm.Pilot.@@N@@
open Jvm Jvm.ClassFile Sem Op Lib Jvm.Free Jvm.Stand Jvm.Pilot.@@N@@.Jvm.D
/-! MADE BY PROGRAM (witnessworld.py) out of the Statement's table words and the real class files: 20 classes; the members and pool entries that the words name. The judged class is class 1, her method 1. -/
namespace start1
open Jvm.ClassFile
def u (s : String) : CpInfo := .utf8 (stringToUtf16 s)
/-- a pool by its gaps: so many unusable entries, then the entry; so many at the end -/
def gap : Nat → List CpInfo → List CpInfo
  | 0, r => r
  | n + 1, r => .unusable :: gap n r
def poolList (es : List (Nat × CpInfo)) (last : Nat) : List CpInfo := es.foldr (fun e r => gap e.1 (e.2 :: r)) (gap last [])
def pool (es : List (Nat × CpInfo)) (last : Nat) : Array CpInfo := ⟨poolList es last⟩
def fileOf (pool : Array CpInfo) (this : Nat) (attrs : Array Attribute := #[]) (ms : Array MethodInfo := #[]) (fl : Nat := 33) (sup : Nat := 0) (ifs : Array Nat := #[]) (fds : Array FieldInfo := #[]) : ClassFile where
  minorVersion := 0
  majorVersion := 65
  constantPool := pool
  accessFlags := fl
  thisClass := this
  superClass := sup
  interfaces := ifs
  fields := fds
  methods := ms
  attributes := attrs
def plain (name : String) (sup : Option ClassId) : Class where
  name := name
  kind := .ordinary
  loader := none
  accessFlags := 33
  super := sup
  interfaces := #[]
  cf := none
  fields := #[]
  methods := #[]
  instanceTypes := #[]
  staticTypes := #[]
  resolved := #[]
  callSites := []
  init := .initialized
  statics := none
  mirror := none

def pool0 : Array CpInfo := pool [(5, u "<init>"), (0, u "()V"), (1, .class_ 10), (1, u "java/lang/Object")] 113

def k0c0 : Code := { maxStack := 0, maxLocals := 1, code := object_method_1_code, exceptionTable := #[], attributes := #[] }
def k0m0 : Method := { name := "<init>", desc := "()V", sig := { parameters := [], returnType := none }, accessFlags := 1, code := some k0c0 }
/-- java/lang/Object -/
def k0 : Class := { plain "java/lang/Object" none with
  accessFlags := 33
  interfaces := #[]
  cf := some (fileOf pool0 8 #[] #[{ accessFlags := 1, nameIndex := 5, descriptorIndex := 6, attributes := #[] }] 33 0 #[] #[])
  fields := #[]
  methods := #[k0m0]
  instanceTypes := #[]
  staticTypes := #[]
  resolved := Array.replicate 124 none
  statics := none }

def pool1 : Array CpInfo := pool [(2, .class_ 4), (0, .nameAndType 5 6), (0, u "java/lang/Object"), (0, u "<init>"), (0, u "()V"), (0, .class_ 8), (0, u "com/example/polity/polity/io/saml/CanonicalXml"), (0, .methodref 7 3), (0, .methodref 7 11), (0, .nameAndType 12 13), (0, u "toByteArray"), (0, u "()[B"), (0, .methodref 15 16), (0, .class_ 17), (0, .nameAndType 18 19), (0, u "java/lang/String"), (0, u "valueOf"), (0, u "(C)Ljava/lang/String;"), (0, .methodref 7 21), (0, .nameAndType 22 23), (0, u "markup"), (0, u "(Ljava/lang/String;)Lcom/example/polity/polity/io/saml/CanonicalXml;"), (0, .methodref 25 26), (0, .class_ 27), (0, .nameAndType 28 29), (0, u "com/example/polity/polity/io/saml/CanonicalXmlToByteArrayPinLaw"), (0, u "matches"), (0, u "([BICCC)Z"), (2, u "law"), (0, u "(IIII)Z")] 5

def k1m0 : Method := { name := "<init>", desc := "()V", sig := { parameters := [], returnType := none }, accessFlags := 1, code := none }
def k1c1 : Code := { maxStack := 5, maxLocals := 12, code := code, exceptionTable := #[], attributes := #[] }
def k1m1 : Method := { name := "law", desc := "(IIII)Z", sig := { parameters := [.int, .int, .int, .int], returnType := some .boolean }, accessFlags := 9, code := some k1c1 }
def k1c2 : Code := { maxStack := 2, maxLocals := 5, code := method_3_code, exceptionTable := #[], attributes := #[] }
def k1m2 : Method := { name := "matches", desc := "([BICCC)Z", sig := { parameters := [(.array .byte), .int, .char, .char, .char], returnType := some .boolean }, accessFlags := 10, code := some k1c2 }
/-- com/example/polity/polity/io/saml/CanonicalXmlToByteArrayPinLaw -/
def k1 : Class := { plain "com/example/polity/polity/io/saml/CanonicalXmlToByteArrayPinLaw" (some 0) with
  accessFlags := 49
  interfaces := #[]
  cf := some (fileOf pool1 25 #[] #[{ accessFlags := 1, nameIndex := 5, descriptorIndex := 6, attributes := #[] }, { accessFlags := 9, nameIndex := 32, descriptorIndex := 33, attributes := #[] }, { accessFlags := 10, nameIndex := 28, descriptorIndex := 29, attributes := #[] }] 49 2 #[] #[])
  fields := #[]
  methods := #[k1m0, k1m1, k1m2]
  instanceTypes := #[]
  staticTypes := #[]
  resolved := Array.replicate 39 none
  statics := none }

def pool2 : Array CpInfo := pool [(1, .methodref 2 3), (0, .class_ 4), (0, .nameAndType 5 6), (0, u "java/lang/Object"), (0, u "<init>"), (0, u "()V"), (0, .fieldref 8 9), (0, .class_ 10), (0, .nameAndType 11 12), (0, u "com/example/polity/polity/io/saml/CanonicalXml"), (0, u "bytes"), (0, u "[B"), (0, .methodref 14 15), (0, .class_ 16), (0, .nameAndType 17 18), (0, u "java/lang/String"), (0, u "length"), (0, u "()I"), (0, .methodref 8 20), (0, .nameAndType 21 22), (0, u "room"), (0, u "(I)V"), (0, .methodref 14 24), (0, .nameAndType 25 26), (0, u "charAt"), (0, u "(I)C"), (9, .fieldref 8 37), (0, .nameAndType 17 38), (0, u "I"), (16, .methodref 56 57), (0, .class_ 58), (0, .nameAndType 59 60), (0, u "java/util/Arrays"), (0, u "copyOf"), (0, u "([BI)[B"), (45, u "markup"), (0, u "(Ljava/lang/String;)Lcom/example/polity/polity/io/saml/CanonicalXml;"), (32, u "toByteArray"), (0, u "()[B")] 17

def k2c0 : Code := { maxStack := 2, maxLocals := 1, code := prog_10_method_1_code, exceptionTable := #[], attributes := #[] }
def k2m0 : Method := { name := "<init>", desc := "()V", sig := { parameters := [], returnType := none }, accessFlags := 0, code := some k2c0 }
def k2c1 : Code := { maxStack := 5, maxLocals := 4, code := prog_10_method_2_code, exceptionTable := #[], attributes := #[] }
def k2m1 : Method := { name := "markup", desc := "(Ljava/lang/String;)Lcom/example/polity/polity/io/saml/CanonicalXml;", sig := { parameters := [(.object "java/lang/String")], returnType := some (.object "com/example/polity/polity/io/saml/CanonicalXml") }, accessFlags := 0, code := some k2c1 }
def k2c2 : Code := { maxStack := 2, maxLocals := 1, code := prog_10_method_7_code, exceptionTable := #[], attributes := #[] }
def k2m2 : Method := { name := "toByteArray", desc := "()[B", sig := { parameters := [], returnType := some (.array .byte) }, accessFlags := 0, code := some k2c2 }
def k2c3 : Code := { maxStack := 5, maxLocals := 2, code := prog_10_method_12_code, exceptionTable := #[], attributes := #[] }
def k2m3 : Method := { name := "room", desc := "(I)V", sig := { parameters := [.int], returnType := none }, accessFlags := 2, code := some k2c3 }
/-- com/example/polity/polity/io/saml/CanonicalXml -/
def k2 : Class := { plain "com/example/polity/polity/io/saml/CanonicalXml" (some 0) with
  accessFlags := 48
  interfaces := #[]
  cf := some (fileOf pool2 8 #[] #[{ accessFlags := 0, nameIndex := 5, descriptorIndex := 6, attributes := #[] }, { accessFlags := 0, nameIndex := 106, descriptorIndex := 107, attributes := #[] }, { accessFlags := 0, nameIndex := 140, descriptorIndex := 141, attributes := #[] }, { accessFlags := 2, nameIndex := 21, descriptorIndex := 22, attributes := #[] }] 48 2 #[] #[{ accessFlags := 2, nameIndex := 11, descriptorIndex := 12, attributes := #[] }, { accessFlags := 2, nameIndex := 17, descriptorIndex := 38, attributes := #[] }])
  fields := #[{ name := "bytes", type := (.array .byte), accessFlags := 2, slot := 0, constantValue := 0 }, { name := "length", type := .int, accessFlags := 2, slot := 1, constantValue := 0 }]
  methods := #[k2m0, k2m1, k2m2, k2m3]
  instanceTypes := #[(.array .byte), .int]
  staticTypes := #[]
  resolved := Array.replicate 159 none
  statics := none }

def pool3 : Array CpInfo := pool [(2, .class_ 4), (1, u "java/lang/Object"), (0, u "<init>"), (0, u "()V"), (7, .class_ 16), (1, u "java/util/Arrays"), (57, .class_ 76), (1, u "java/util/Arrays$NaturalOrder"), (36, .class_ 115), (1, u "java/util/Arrays$LegacyMergeSort"), (1, u "Z"), (32, .methodref 151 152), (0, .class_ 153), (0, .nameAndType 154 155), (0, u "java/lang/System"), (0, u "arraycopy"), (0, u "(Ljava/lang/Object;ILjava/lang/Object;II)V"), (146, u "copyOf"), (1, .methodref 305 306), (0, .class_ 307), (0, .nameAndType 308 309), (0, u "java/lang/Math"), (0, u "min"), (0, u "(II)I"), (65, .class_ 376), (0, u "java/util/Arrays$ArrayList"), (68, u "$assertionsDisabled"), (269, u "MIN_ARRAY_SORT_GRAN"), (0, u "I"), (2, u "INSERTIONSORT_THRESHOLD"), (149, u "([BI)[B"), (105, .class_ 976), (0, u "java/util/Arrays$ArrayItr")] 52

def k3m0 : Method := { name := "<init>", desc := "()V", sig := { parameters := [], returnType := none }, accessFlags := 2, code := none }
def k3c1 : Code := { maxStack := 6, maxLocals := 3, code := jdk_65_method_121_code, exceptionTable := #[], attributes := #[] }
def k3m1 : Method := { name := "copyOf", desc := "([BI)[B", sig := { parameters := [(.array .byte), .int], returnType := some (.array .byte) }, accessFlags := 9, code := some k3c1 }
/-- java/util/Arrays -/
def k3 : Class := { plain "java/util/Arrays" (some 0) with
  accessFlags := 49
  interfaces := #[]
  cf := some (fileOf pool3 14 #[.nestMembers #[975, 375, 113, 74]] #[{ accessFlags := 2, nameIndex := 5, descriptorIndex := 6, attributes := #[] }, { accessFlags := 9, nameIndex := 302, descriptorIndex := 869, attributes := #[] }] 49 2 #[] #[{ accessFlags := 26, nameIndex := 715, descriptorIndex := 716, attributes := #[] }, { accessFlags := 26, nameIndex := 719, descriptorIndex := 716, attributes := #[] }, { accessFlags := 4120, nameIndex := 445, descriptorIndex := 117, attributes := #[] }])
  fields := #[{ name := "MIN_ARRAY_SORT_GRAN", type := .int, accessFlags := 26, slot := 0, constantValue := 0 }, { name := "INSERTIONSORT_THRESHOLD", type := .int, accessFlags := 26, slot := 1, constantValue := 0 }, { name := "$assertionsDisabled", type := .boolean, accessFlags := 4120, slot := 2, constantValue := 0 }]
  methods := #[k3m0, k3m1]
  instanceTypes := #[]
  staticTypes := #[.int, .int, .boolean]
  resolved := Array.replicate 1029 none
  statics := none }

def pool4 : Array CpInfo := pool [(1, .class_ 2), (0, u "java/lang/Math"), (1, .class_ 6), (1, u "java/lang/Object"), (0, u "<init>"), (0, u "()V"), (89, .class_ 100), (1, u "java/lang/Math$RandomNumberGeneratorHolder"), (71, u "negativeZeroFloatBits"), (0, u "J"), (2, u "negativeZeroDoubleBits"), (24, u "min"), (43, u "$assertionsDisabled"), (0, u "Z"), (88, u "(II)I"), (2, u "twoToTheDoubleScaleDown"), (0, u "D"), (4, u "twoToTheDoubleScaleUp"), (9, u "E"), (3, u "PI"), (2, u "TAU"), (2, u "DEGREES_TO_RADIANS"), (0, u "RADIANS_TO_DEGREES")] 94

def k4m0 : Method := { name := "<init>", desc := "()V", sig := { parameters := [], returnType := none }, accessFlags := 2, code := none }
def k4c1 : Code := { maxStack := 2, maxLocals := 2, code := jdk_29_method_69_code, exceptionTable := #[], attributes := #[] }
def k4m1 : Method := { name := "min", desc := "(II)I", sig := { parameters := [.int, .int], returnType := some .int }, accessFlags := 9, code := some k4c1 }
/-- java/lang/Math -/
def k4 : Class := { plain "java/lang/Math" (some 0) with
  accessFlags := 49
  interfaces := #[]
  cf := some (fileOf pool4 1 #[.nestMembers #[98]] #[{ accessFlags := 2, nameIndex := 7, descriptorIndex := 8, attributes := #[] }, { accessFlags := 9, nameIndex := 201, descriptorIndex := 335, attributes := #[] }] 49 4 #[] #[{ accessFlags := 25, nameIndex := 354, descriptorIndex := 339, attributes := #[] }, { accessFlags := 25, nameIndex := 358, descriptorIndex := 339, attributes := #[] }, { accessFlags := 25, nameIndex := 361, descriptorIndex := 339, attributes := #[] }, { accessFlags := 26, nameIndex := 364, descriptorIndex := 339, attributes := #[] }, { accessFlags := 26, nameIndex := 365, descriptorIndex := 339, attributes := #[] }, { accessFlags := 26, nameIndex := 172, descriptorIndex := 173, attributes := #[] }, { accessFlags := 26, nameIndex := 176, descriptorIndex := 173, attributes := #[] }, { accessFlags := 8, nameIndex := 344, descriptorIndex := 339, attributes := #[] }, { accessFlags := 8, nameIndex := 338, descriptorIndex := 339, attributes := #[] }, { accessFlags := 4120, nameIndex := 245, descriptorIndex := 246, attributes := #[] }])
  fields := #[{ name := "E", type := .double, accessFlags := 25, slot := 0, constantValue := 0 }, { name := "PI", type := .double, accessFlags := 25, slot := 1, constantValue := 0 }, { name := "TAU", type := .double, accessFlags := 25, slot := 2, constantValue := 0 }, { name := "DEGREES_TO_RADIANS", type := .double, accessFlags := 26, slot := 3, constantValue := 0 }, { name := "RADIANS_TO_DEGREES", type := .double, accessFlags := 26, slot := 4, constantValue := 0 }, { name := "negativeZeroFloatBits", type := .long, accessFlags := 26, slot := 5, constantValue := 0 }, { name := "negativeZeroDoubleBits", type := .long, accessFlags := 26, slot := 6, constantValue := 0 }, { name := "twoToTheDoubleScaleUp", type := .double, accessFlags := 8, slot := 7, constantValue := 0 }, { name := "twoToTheDoubleScaleDown", type := .double, accessFlags := 8, slot := 8, constantValue := 0 }, { name := "$assertionsDisabled", type := .boolean, accessFlags := 4120, slot := 9, constantValue := 0 }]
  methods := #[k4m0, k4m1]
  instanceTypes := #[]
  staticTypes := #[.double, .double, .double, .double, .double, .long, .long, .double, .double, .boolean]
  resolved := Array.replicate 460 none
  statics := none }

def pool5 : Array CpInfo := pool [(2, .class_ 4), (1, u "java/lang/Object"), (0, u "<init>"), (0, u "()V"), (1, .class_ 10), (1, u "java/lang/System"), (0, u "allowSecurityManager"), (0, u "I"), (16, u "cons"), (0, u "Ljava/io/Console;"), (77, .class_ 110), (1, u "java/lang/System$CallersHolder"), (43, u "initialErrStream"), (0, u "Ljava/io/PrintStream;"), (19, u "security"), (0, u "Ljava/lang/SecurityManager;"), (31, .class_ 209), (0, u "java/lang/System$1"), (7, u "props"), (0, u "Ljava/util/Properties;"), (2, u "lineSeparator"), (0, u "Ljava/lang/String;"), (96, .class_ 321), (1, u "java/lang/System$LoggerFinder"), (5, .class_ 328), (0, u "java/lang/System$Logger"), (67, u "err"), (2, u "out"), (91, u "notSupportedJnuEncoding"), (15, u "in"), (17, u "initialIn"), (0, u "Ljava/io/InputStream;"), (35, u "bootLayer"), (0, u "Ljava/lang/ModuleLayer;"), (99, .class_ 664), (0, u "java/lang/System$2"), (9, u "NEVER"), (2, u "MAYBE"), (49, u "arraycopy"), (0, u "(Ljava/lang/Object;ILjava/lang/Object;II)V"), (72, .class_ 802), (0, u "java/lang/System$Logger$Level")] 31

def k5m0 : Method := { name := "<init>", desc := "()V", sig := { parameters := [], returnType := none }, accessFlags := 2, code := none }
def k5m1 : Method := { name := "arraycopy", desc := "(Ljava/lang/Object;ILjava/lang/Object;II)V", sig := { parameters := [(.object "java/lang/Object"), .int, (.object "java/lang/Object"), .int, .int], returnType := none }, accessFlags := 265, code := none }
/-- java/lang/System -/
def k5 : Class := { plain "java/lang/System" (some 0) with
  accessFlags := 49
  interfaces := #[]
  cf := some (fileOf pool5 8 #[.nestMembers #[319, 327, 801, 108, 663, 208]] #[{ accessFlags := 2, nameIndex := 5, descriptorIndex := 6, attributes := #[] }, { accessFlags := 265, nameIndex := 727, descriptorIndex := 728, attributes := #[] }] 49 2 #[] #[{ accessFlags := 25, nameIndex := 507, descriptorIndex := 526, attributes := #[] }, { accessFlags := 25, nameIndex := 399, descriptorIndex := 155, attributes := #[] }, { accessFlags := 25, nameIndex := 396, descriptorIndex := 155, attributes := #[] }, { accessFlags := 10, nameIndex := 525, descriptorIndex := 526, attributes := #[] }, { accessFlags := 26, nameIndex := 674, descriptorIndex := 12, attributes := #[] }, { accessFlags := 26, nameIndex := 677, descriptorIndex := 12, attributes := #[] }, { accessFlags := 10, nameIndex := 11, descriptorIndex := 12, attributes := #[] }, { accessFlags := 74, nameIndex := 175, descriptorIndex := 176, attributes := #[] }, { accessFlags := 10, nameIndex := 491, descriptorIndex := 222, attributes := #[] }, { accessFlags := 74, nameIndex := 29, descriptorIndex := 30, attributes := #[] }, { accessFlags := 74, nameIndex := 154, descriptorIndex := 155, attributes := #[] }, { accessFlags := 10, nameIndex := 217, descriptorIndex := 218, attributes := #[] }, { accessFlags := 10, nameIndex := 221, descriptorIndex := 222, attributes := #[] }, { accessFlags := 8, nameIndex := 562, descriptorIndex := 563, attributes := #[] }])
  fields := #[{ name := "in", type := (.object "java/io/InputStream"), accessFlags := 25, slot := 0, constantValue := 0 }, { name := "out", type := (.object "java/io/PrintStream"), accessFlags := 25, slot := 1, constantValue := 0 }, { name := "err", type := (.object "java/io/PrintStream"), accessFlags := 25, slot := 2, constantValue := 0 }, { name := "initialIn", type := (.object "java/io/InputStream"), accessFlags := 10, slot := 3, constantValue := 0 }, { name := "NEVER", type := .int, accessFlags := 26, slot := 4, constantValue := 0 }, { name := "MAYBE", type := .int, accessFlags := 26, slot := 5, constantValue := 0 }, { name := "allowSecurityManager", type := .int, accessFlags := 10, slot := 6, constantValue := 0 }, { name := "security", type := (.object "java/lang/SecurityManager"), accessFlags := 74, slot := 7, constantValue := 0 }, { name := "notSupportedJnuEncoding", type := (.object "java/lang/String"), accessFlags := 10, slot := 8, constantValue := 0 }, { name := "cons", type := (.object "java/io/Console"), accessFlags := 74, slot := 9, constantValue := 0 }, { name := "initialErrStream", type := (.object "java/io/PrintStream"), accessFlags := 74, slot := 10, constantValue := 0 }, { name := "props", type := (.object "java/util/Properties"), accessFlags := 10, slot := 11, constantValue := 0 }, { name := "lineSeparator", type := (.object "java/lang/String"), accessFlags := 10, slot := 12, constantValue := 0 }, { name := "bootLayer", type := (.object "java/lang/ModuleLayer"), accessFlags := 8, slot := 13, constantValue := 0 }]
  methods := #[k5m0, k5m1]
  instanceTypes := #[]
  staticTypes := #[(.object "java/io/InputStream"), (.object "java/io/PrintStream"), (.object "java/io/PrintStream"), (.object "java/io/InputStream"), .int, .int, .int, (.object "java/lang/SecurityManager"), (.object "java/lang/String"), (.object "java/io/Console"), (.object "java/io/PrintStream"), (.object "java/util/Properties"), (.object "java/lang/String"), (.object "java/lang/ModuleLayer")]
  resolved := Array.replicate 834 none
  statics := none }

def pool6 : Array CpInfo := pool [(1, .class_ 2), (0, u "java/io/Serializable"), (0, .class_ 4), (0, u "java/lang/Object")] 2

/-- java/io/Serializable -/
def k6 : Class := { plain "java/io/Serializable" (some 0) with
  accessFlags := 1537
  interfaces := #[]
  cf := some (fileOf pool6 1 #[] #[] 1537 3 #[] #[])
  fields := #[]
  methods := #[]
  instanceTypes := #[]
  staticTypes := #[]
  resolved := Array.replicate 7 none
  statics := none }

def pool7 : Array CpInfo := pool [(1, .class_ 2), (0, u "java/lang/Comparable"), (0, .class_ 4), (0, u "java/lang/Object")] 7

/-- java/lang/Comparable -/
def k7 : Class := { plain "java/lang/Comparable" (some 0) with
  accessFlags := 1537
  interfaces := #[]
  cf := some (fileOf pool7 1 #[] #[] 1537 3 #[] #[])
  fields := #[]
  methods := #[]
  instanceTypes := #[]
  staticTypes := #[]
  resolved := Array.replicate 12 none
  statics := none }

def pool8 : Array CpInfo := pool [(2, .class_ 4), (1, u "java/lang/CharSequence"), (42, .class_ 48), (0, u "java/lang/CharSequence$1CodePointIterator"), (10, .class_ 60), (0, u "java/lang/CharSequence$1CharIterator"), (5, .class_ 67), (0, u "java/lang/Object")] 63

/-- java/lang/CharSequence -/
def k8 : Class := { plain "java/lang/CharSequence" (some 0) with
  accessFlags := 1537
  interfaces := #[]
  cf := some (fileOf pool8 2 #[.nestMembers #[47, 59]] #[] 1537 66 #[] #[])
  fields := #[]
  methods := #[]
  instanceTypes := #[]
  staticTypes := #[]
  resolved := Array.replicate 131 none
  statics := none }

def pool9 : Array CpInfo := pool [(1, .class_ 2), (0, u "java/lang/constant/Constable"), (0, .class_ 4), (0, u "java/lang/Object")] 6

/-- java/lang/constant/Constable -/
def k9 : Class := { plain "java/lang/constant/Constable" (some 0) with
  accessFlags := 1537
  interfaces := #[]
  cf := some (fileOf pool9 1 #[] #[] 1537 3 #[] #[])
  fields := #[]
  methods := #[]
  instanceTypes := #[]
  staticTypes := #[]
  resolved := Array.replicate 11 none
  statics := none }

def pool10 : Array CpInfo := pool [(1, .class_ 2), (0, u "java/lang/constant/ConstantDesc"), (0, .class_ 4), (0, u "java/lang/Object")] 32

/-- java/lang/constant/ConstantDesc -/
def k10 : Class := { plain "java/lang/constant/ConstantDesc" (some 0) with
  accessFlags := 1537
  interfaces := #[]
  cf := some (fileOf pool10 1 #[] #[] 1537 3 #[] #[])
  fields := #[]
  methods := #[]
  instanceTypes := #[]
  staticTypes := #[]
  resolved := Array.replicate 37 none
  statics := none }

def pool11 : Array CpInfo := pool [(1, .methodref 2 3), (0, .class_ 4), (0, .nameAndType 5 6), (0, u "java/lang/Object"), (0, u "<init>"), (0, u "()V"), (2, .fieldref 10 11), (0, .class_ 12), (0, .nameAndType 13 14), (0, u "java/lang/String"), (0, u "value"), (0, u "[B"), (0, .fieldref 10 16), (0, .nameAndType 17 18), (0, u "coder"), (0, u "B"), (2, u "hash"), (0, u "I"), (2, u "hashIsZero"), (0, u "Z"), (11, .fieldref 10 39), (0, .nameAndType 40 26), (0, u "COMPACT_STRINGS"), (12, u "toBytes"), (53, .class_ 109), (1, u "java/lang/StringLatin1"), (32, u "()Z"), (66, .methodref 10 210), (0, .nameAndType 5 211), (0, u "([BB)V"), (122, u "()I"), (0, .methodref 10 336), (0, .nameAndType 17 337), (0, u "()B"), (25, u "([BI)C"), (5, u "(C)Z"), (21, u "(II)V"), (35, u "(I)C"), (64, .methodref 10 493), (0, .nameAndType 494 142), (0, u "isLatin1"), (0, .methodref 107 496), (0, .nameAndType 497 363), (0, u "charAt"), (3, u "checkIndex"), (5, u "length"), (67, .class_ 576), (0, u "java/lang/CharSequence"), (22, u "CASE_INSENSITIVE_ORDER"), (0, u "Ljava/util/Comparator;"), (181, u "valueOf"), (0, u "(C)Ljava/lang/String;"), (231, .methodref 107 1016), (0, .nameAndType 1017 369), (0, u "canEncode"), (0, .methodref 107 1019), (0, .nameAndType 53 1020), (0, u "(C)[B"), (32, .fieldref 1054 1055), (0, .class_ 1056), (0, .nameAndType 1057 1058), (0, u "jdk/internal/util/Preconditions"), (0, u "SIOOBE_FORMATTER"), (0, u "Ljava/util/function/BiFunction;"), (0, .methodref 1054 1060), (0, .nameAndType 501 1061), (0, u "(IILjava/util/function/BiFunction;)I"), (39, u "serialPersistentFields"), (0, u "[Ljava/io/ObjectStreamField;"), (0, .class_ 1104), (0, u "java/lang/String$CaseInsensitiveComparator"), (1, .class_ 1107), (0, u "java/io/Serializable"), (0, .class_ 1109), (0, u "java/lang/Comparable"), (0, .class_ 1111), (0, u "java/lang/constant/Constable"), (0, .class_ 1113), (0, u "java/lang/constant/ConstantDesc"), (2, u "serialVersionUID"), (0, u "J"), (3, u "REPL"), (0, u "C"), (2, u "LATIN1"), (1, u "UTF16")] 323

def k11m0 : Method := { name := "<init>", desc := "()V", sig := { parameters := [], returnType := none }, accessFlags := 1, code := none }
def k11c1 : Code := { maxStack := 2, maxLocals := 1, code := jdk_42_method_54_code, exceptionTable := #[], attributes := #[] }
def k11m1 : Method := { name := "length", desc := "()I", sig := { parameters := [], returnType := some .int }, accessFlags := 1, code := some k11c1 }
def k11c2 : Code := { maxStack := 2, maxLocals := 2, code := jdk_42_method_56_code, exceptionTable := #[], attributes := #[] }
def k11m2 : Method := { name := "charAt", desc := "(I)C", sig := { parameters := [.int], returnType := some .char }, accessFlags := 1, code := some k11c2 }
def k11c3 : Code := { maxStack := 4, maxLocals := 1, code := jdk_42_method_139_code, exceptionTable := #[], attributes := #[] }
def k11m3 : Method := { name := "valueOf", desc := "(C)Ljava/lang/String;", sig := { parameters := [.char], returnType := some (.object "java/lang/String") }, accessFlags := 9, code := some k11c3 }
def k11c4 : Code := { maxStack := 2, maxLocals := 3, code := jdk_42_method_151_code, exceptionTable := #[], attributes := #[] }
def k11m4 : Method := { name := "<init>", desc := "([BB)V", sig := { parameters := [(.array .byte), .byte], returnType := none }, accessFlags := 0, code := some k11c4 }
def k11c5 : Code := { maxStack := 1, maxLocals := 1, code := jdk_42_method_152_code, exceptionTable := #[], attributes := #[] }
def k11m5 : Method := { name := "coder", desc := "()B", sig := { parameters := [], returnType := some .byte }, accessFlags := 0, code := some k11c5 }
def k11c6 : Code := { maxStack := 1, maxLocals := 1, code := jdk_42_method_154_code, exceptionTable := #[], attributes := #[] }
def k11m6 : Method := { name := "isLatin1", desc := "()Z", sig := { parameters := [], returnType := some .boolean }, accessFlags := 0, code := some k11c6 }
def k11c7 : Code := { maxStack := 3, maxLocals := 2, code := jdk_42_method_155_code, exceptionTable := #[], attributes := #[] }
def k11m7 : Method := { name := "checkIndex", desc := "(II)V", sig := { parameters := [.int, .int], returnType := none }, accessFlags := 8, code := some k11c7 }
/-- java/lang/String -/
def k11 : Class := { plain "java/lang/String" (some 0) with
  accessFlags := 49
  interfaces := #[6, 7, 8, 9, 10]
  cf := some (fileOf pool11 10 #[.nestMembers #[1103]] #[{ accessFlags := 1, nameIndex := 5, descriptorIndex := 6, attributes := #[] }, { accessFlags := 1, nameIndex := 507, descriptorIndex := 334, attributes := #[] }, { accessFlags := 1, nameIndex := 497, descriptorIndex := 427, attributes := #[] }, { accessFlags := 9, nameIndex := 782, descriptorIndex := 783, attributes := #[] }, { accessFlags := 0, nameIndex := 5, descriptorIndex := 211, attributes := #[] }, { accessFlags := 0, nameIndex := 17, descriptorIndex := 337, attributes := #[] }, { accessFlags := 0, nameIndex := 494, descriptorIndex := 142, attributes := #[] }, { accessFlags := 8, nameIndex := 501, descriptorIndex := 391, attributes := #[] }] 49 2 #[1106, 1108, 575, 1110, 1112] #[{ accessFlags := 18, nameIndex := 13, descriptorIndex := 14, attributes := #[] }, { accessFlags := 18, nameIndex := 17, descriptorIndex := 18, attributes := #[] }, { accessFlags := 2, nameIndex := 21, descriptorIndex := 22, attributes := #[] }, { accessFlags := 2, nameIndex := 25, descriptorIndex := 26, attributes := #[] }, { accessFlags := 26, nameIndex := 1116, descriptorIndex := 1117, attributes := #[] }, { accessFlags := 24, nameIndex := 40, descriptorIndex := 26, attributes := #[] }, { accessFlags := 26, nameIndex := 1101, descriptorIndex := 1102, attributes := #[] }, { accessFlags := 26, nameIndex := 1121, descriptorIndex := 1122, attributes := #[] }, { accessFlags := 25, nameIndex := 599, descriptorIndex := 600, attributes := #[] }, { accessFlags := 24, nameIndex := 1125, descriptorIndex := 18, attributes := #[] }, { accessFlags := 24, nameIndex := 1127, descriptorIndex := 18, attributes := #[] }])
  fields := #[{ name := "value", type := (.array .byte), accessFlags := 18, slot := 0, constantValue := 0 }, { name := "coder", type := .byte, accessFlags := 18, slot := 1, constantValue := 0 }, { name := "hash", type := .int, accessFlags := 2, slot := 2, constantValue := 0 }, { name := "hashIsZero", type := .boolean, accessFlags := 2, slot := 3, constantValue := 0 }, { name := "serialVersionUID", type := .long, accessFlags := 26, slot := 0, constantValue := 0 }, { name := "COMPACT_STRINGS", type := .boolean, accessFlags := 24, slot := 1, constantValue := 0 }, { name := "serialPersistentFields", type := (.array (.object "java/io/ObjectStreamField")), accessFlags := 26, slot := 2, constantValue := 0 }, { name := "REPL", type := .char, accessFlags := 26, slot := 3, constantValue := 0 }, { name := "CASE_INSENSITIVE_ORDER", type := (.object "java/util/Comparator"), accessFlags := 25, slot := 4, constantValue := 0 }, { name := "LATIN1", type := .byte, accessFlags := 24, slot := 5, constantValue := 0 }, { name := "UTF16", type := .byte, accessFlags := 24, slot := 6, constantValue := 0 }]
  methods := #[k11m0, k11m1, k11m2, k11m3, k11m4, k11m5, k11m6, k11m7]
  instanceTypes := #[(.array .byte), .byte, .int, .boolean]
  staticTypes := #[.long, .boolean, (.array (.object "java/io/ObjectStreamField")), .char, (.object "java/util/Comparator"), .byte, .byte]
  resolved := Array.replicate 1451 none
  statics := some 0 }

def pool12 : Array CpInfo := pool [(1, .class_ 2), (0, u "java/lang/String"), (1, .class_ 6), (1, u "java/lang/Object"), (0, u "<init>"), (0, u "()V"), (0, .methodref 1 10), (0, .nameAndType 11 12), (0, u "checkIndex"), (0, u "(II)V"), (1, .class_ 16), (1, u "java/lang/StringLatin1"), (36, u "([BI)C"), (36, u "canEncode"), (14, u "(C)Z"), (15, u "$assertionsDisabled"), (0, u "Z"), (98, .class_ 223), (1, u "java/lang/StringLatin1$LinesSpliterator"), (28, u "charAt"), (127, u "toBytes"), (1, u "(C)[B"), (7, .class_ 391), (0, u "java/lang/StringLatin1$CharsSpliterator")] 3

def k12m0 : Method := { name := "<init>", desc := "()V", sig := { parameters := [], returnType := none }, accessFlags := 0, code := none }
def k12c1 : Code := { maxStack := 2, maxLocals := 2, code := jdk_43_method_2_code, exceptionTable := #[], attributes := #[] }
def k12m1 : Method := { name := "charAt", desc := "([BI)C", sig := { parameters := [(.array .byte), .int], returnType := some .char }, accessFlags := 9, code := some k12c1 }
def k12c2 : Code := { maxStack := 2, maxLocals := 1, code := jdk_43_method_3_code, exceptionTable := #[], attributes := #[] }
def k12m2 : Method := { name := "canEncode", desc := "(C)Z", sig := { parameters := [.char], returnType := some .boolean }, accessFlags := 9, code := some k12c2 }
def k12c3 : Code := { maxStack := 4, maxLocals := 1, code := jdk_43_method_46_code, exceptionTable := #[], attributes := #[] }
def k12m3 : Method := { name := "toBytes", desc := "(C)[B", sig := { parameters := [.char], returnType := some (.array .byte) }, accessFlags := 9, code := some k12c3 }
/-- java/lang/StringLatin1 -/
def k12 : Class := { plain "java/lang/StringLatin1" (some 0) with
  accessFlags := 48
  interfaces := #[]
  cf := some (fileOf pool12 14 #[.nestMembers #[390, 221]] #[{ accessFlags := 0, nameIndex := 7, descriptorIndex := 8, attributes := #[] }, { accessFlags := 9, nameIndex := 252, descriptorIndex := 53, attributes := #[] }, { accessFlags := 9, nameIndex := 90, descriptorIndex := 105, attributes := #[] }, { accessFlags := 9, nameIndex := 380, descriptorIndex := 382, attributes := #[] }] 48 4 #[] #[{ accessFlags := 4120, nameIndex := 121, descriptorIndex := 122, attributes := #[] }])
  fields := #[{ name := "$assertionsDisabled", type := .boolean, accessFlags := 4120, slot := 0, constantValue := 0 }]
  methods := #[k12m0, k12m1, k12m2, k12m3]
  instanceTypes := #[]
  staticTypes := #[.boolean]
  resolved := Array.replicate 395 none
  statics := none }

def pool13 : Array CpInfo := pool [(2, .class_ 4), (1, u "java/lang/Object"), (0, u "<init>"), (0, u "()V"), (17, .class_ 26), (1, u "jdk/internal/util/Preconditions"), (6, u "checkIndex"), (21, .class_ 56), (0, u "jdk/internal/util/Preconditions$4"), (57, .class_ 115), (0, u "jdk/internal/util/Preconditions$1"), (7, u "SIOOBE_FORMATTER"), (0, u "Ljava/util/function/BiFunction;"), (0, .class_ 126), (0, u "jdk/internal/util/Preconditions$2"), (3, u "AIOOBE_FORMATTER"), (0, .class_ 132), (0, u "jdk/internal/util/Preconditions$3"), (3, u "IOOBE_FORMATTER"), (41, u "(IILjava/util/function/BiFunction;)I")] 15

def k13m0 : Method := { name := "<init>", desc := "()V", sig := { parameters := [], returnType := none }, accessFlags := 1, code := none }
def k13c1 : Code := { maxStack := 3, maxLocals := 3, code := jdk_41_method_11_code, exceptionTable := #[], attributes := #[] }
def k13m1 : Method := { name := "checkIndex", desc := "(IILjava/util/function/BiFunction;)I", sig := { parameters := [.int, .int, (.object "java/util/function/BiFunction")], returnType := some .int }, accessFlags := 9, code := some k13c1 }
/-- jdk/internal/util/Preconditions -/
def k13 : Class := { plain "jdk/internal/util/Preconditions" (some 0) with
  accessFlags := 33
  interfaces := #[]
  cf := some (fileOf pool13 24 #[.nestMembers #[55, 131, 125, 114]] #[{ accessFlags := 1, nameIndex := 5, descriptorIndex := 6, attributes := #[] }, { accessFlags := 9, nameIndex := 33, descriptorIndex := 178, attributes := #[] }] 33 2 #[] #[{ accessFlags := 25, nameIndex := 123, descriptorIndex := 124, attributes := #[] }, { accessFlags := 25, nameIndex := 130, descriptorIndex := 124, attributes := #[] }, { accessFlags := 25, nameIndex := 136, descriptorIndex := 124, attributes := #[] }])
  fields := #[{ name := "SIOOBE_FORMATTER", type := (.object "java/util/function/BiFunction"), accessFlags := 25, slot := 0, constantValue := 0 }, { name := "AIOOBE_FORMATTER", type := (.object "java/util/function/BiFunction"), accessFlags := 25, slot := 1, constantValue := 0 }, { name := "IOOBE_FORMATTER", type := (.object "java/util/function/BiFunction"), accessFlags := 25, slot := 2, constantValue := 0 }]
  methods := #[k13m0, k13m1]
  instanceTypes := #[]
  staticTypes := #[(.object "java/util/function/BiFunction"), (.object "java/util/function/BiFunction"), (.object "java/util/function/BiFunction")]
  resolved := Array.replicate 194 none
  statics := some 1 }

def pool14 : Array CpInfo := pool [(9, u "<init>"), (6, .class_ 18), (1, u "java/lang/Object"), (0, u "()V"), (1, .class_ 23), (1, u "jdk/internal/util/ArraysSupport"), (0, u "LOG2_ARRAY_LONG_INDEX_SCALE"), (0, u "I"), (2, u "U"), (0, u "Ljdk/internal/misc/Unsafe;"), (8, u "BIG_ENDIAN"), (0, u "Z"), (8, u "LOG2_BYTE_BIT_SIZE"), (4, u "LOG2_ARRAY_INT_INDEX_SCALE"), (54, u "JLA"), (0, u "Ljdk/internal/access/JavaLangAccess;"), (11, u "LOG2_ARRAY_BOOLEAN_INDEX_SCALE"), (9, u "LOG2_ARRAY_BYTE_INDEX_SCALE"), (5, u "LOG2_ARRAY_CHAR_INDEX_SCALE"), (5, u "LOG2_ARRAY_SHORT_INDEX_SCALE"), (18, u "LOG2_ARRAY_FLOAT_INDEX_SCALE"), (24, u "LOG2_ARRAY_DOUBLE_INDEX_SCALE"), (89, u "T_BOOLEAN"), (2, u "T_CHAR"), (1, u "T_FLOAT"), (1, u "T_DOUBLE"), (1, u "T_BYTE"), (1, u "T_SHORT"), (1, u "T_INT"), (1, u "T_LONG"), (1, u "SOFT_MAX_ARRAY_LENGTH")] 83

def k14m0 : Method := { name := "<init>", desc := "()V", sig := { parameters := [], returnType := none }, accessFlags := 2, code := none }
/-- jdk/internal/util/ArraysSupport -/
def k14 : Class := { plain "jdk/internal/util/ArraysSupport" (some 0) with
  accessFlags := 33
  interfaces := #[]
  cf := some (fileOf pool14 21 #[] #[{ accessFlags := 2, nameIndex := 9, descriptorIndex := 19, attributes := #[] }] 33 16 #[] #[{ accessFlags := 24, nameIndex := 28, descriptorIndex := 29, attributes := #[] }, { accessFlags := 26, nameIndex := 38, descriptorIndex := 39, attributes := #[] }, { accessFlags := 25, nameIndex := 121, descriptorIndex := 25, attributes := #[] }, { accessFlags := 25, nameIndex := 131, descriptorIndex := 25, attributes := #[] }, { accessFlags := 25, nameIndex := 137, descriptorIndex := 25, attributes := #[] }, { accessFlags := 25, nameIndex := 143, descriptorIndex := 25, attributes := #[] }, { accessFlags := 25, nameIndex := 53, descriptorIndex := 25, attributes := #[] }, { accessFlags := 25, nameIndex := 24, descriptorIndex := 25, attributes := #[] }, { accessFlags := 25, nameIndex := 162, descriptorIndex := 25, attributes := #[] }, { accessFlags := 25, nameIndex := 187, descriptorIndex := 25, attributes := #[] }, { accessFlags := 26, nameIndex := 48, descriptorIndex := 25, attributes := #[] }, { accessFlags := 25, nameIndex := 277, descriptorIndex := 25, attributes := #[] }, { accessFlags := 25, nameIndex := 280, descriptorIndex := 25, attributes := #[] }, { accessFlags := 25, nameIndex := 282, descriptorIndex := 25, attributes := #[] }, { accessFlags := 25, nameIndex := 284, descriptorIndex := 25, attributes := #[] }, { accessFlags := 25, nameIndex := 286, descriptorIndex := 25, attributes := #[] }, { accessFlags := 25, nameIndex := 288, descriptorIndex := 25, attributes := #[] }, { accessFlags := 25, nameIndex := 290, descriptorIndex := 25, attributes := #[] }, { accessFlags := 25, nameIndex := 292, descriptorIndex := 25, attributes := #[] }, { accessFlags := 26, nameIndex := 108, descriptorIndex := 109, attributes := #[] }, { accessFlags := 25, nameIndex := 294, descriptorIndex := 25, attributes := #[] }])
  fields := #[{ name := "U", type := (.object "jdk/internal/misc/Unsafe"), accessFlags := 24, slot := 0, constantValue := 0 }, { name := "BIG_ENDIAN", type := .boolean, accessFlags := 26, slot := 1, constantValue := 0 }, { name := "LOG2_ARRAY_BOOLEAN_INDEX_SCALE", type := .int, accessFlags := 25, slot := 2, constantValue := 0 }, { name := "LOG2_ARRAY_BYTE_INDEX_SCALE", type := .int, accessFlags := 25, slot := 3, constantValue := 0 }, { name := "LOG2_ARRAY_CHAR_INDEX_SCALE", type := .int, accessFlags := 25, slot := 4, constantValue := 0 }, { name := "LOG2_ARRAY_SHORT_INDEX_SCALE", type := .int, accessFlags := 25, slot := 5, constantValue := 0 }, { name := "LOG2_ARRAY_INT_INDEX_SCALE", type := .int, accessFlags := 25, slot := 6, constantValue := 0 }, { name := "LOG2_ARRAY_LONG_INDEX_SCALE", type := .int, accessFlags := 25, slot := 7, constantValue := 0 }, { name := "LOG2_ARRAY_FLOAT_INDEX_SCALE", type := .int, accessFlags := 25, slot := 8, constantValue := 0 }, { name := "LOG2_ARRAY_DOUBLE_INDEX_SCALE", type := .int, accessFlags := 25, slot := 9, constantValue := 0 }, { name := "LOG2_BYTE_BIT_SIZE", type := .int, accessFlags := 26, slot := 10, constantValue := 0 }, { name := "T_BOOLEAN", type := .int, accessFlags := 25, slot := 11, constantValue := 0 }, { name := "T_CHAR", type := .int, accessFlags := 25, slot := 12, constantValue := 0 }, { name := "T_FLOAT", type := .int, accessFlags := 25, slot := 13, constantValue := 0 }, { name := "T_DOUBLE", type := .int, accessFlags := 25, slot := 14, constantValue := 0 }, { name := "T_BYTE", type := .int, accessFlags := 25, slot := 15, constantValue := 0 }, { name := "T_SHORT", type := .int, accessFlags := 25, slot := 16, constantValue := 0 }, { name := "T_INT", type := .int, accessFlags := 25, slot := 17, constantValue := 0 }, { name := "T_LONG", type := .int, accessFlags := 25, slot := 18, constantValue := 0 }, { name := "JLA", type := (.object "jdk/internal/access/JavaLangAccess"), accessFlags := 26, slot := 19, constantValue := 0 }, { name := "SOFT_MAX_ARRAY_LENGTH", type := .int, accessFlags := 25, slot := 20, constantValue := 0 }]
  methods := #[k14m0]
  instanceTypes := #[]
  staticTypes := #[(.object "jdk/internal/misc/Unsafe"), .boolean, .int, .int, .int, .int, .int, .int, .int, .int, .int, .int, .int, .int, .int, .int, .int, .int, .int, (.object "jdk/internal/access/JavaLangAccess"), .int]
  resolved := Array.replicate 378 none
  statics := none }

def pool15 : Array CpInfo := pool [(1, u "java/lang/Cloneable"), (0, .class_ 1), (0, u "java/lang/Object"), (0, .class_ 3)] 3

/-- java/lang/Cloneable -/
def k15 : Class := { plain "java/lang/Cloneable" (some 0) with
  accessFlags := 1537
  interfaces := #[]
  cf := some (fileOf pool15 2 #[] #[] 1537 4 #[] #[])
  fields := #[]
  methods := #[]
  instanceTypes := #[]
  staticTypes := #[]
  resolved := Array.replicate 8 none
  statics := none }

/-- the primitive byte -/
def k16 : Class := { plain "byte" none with kind := .primitive 'B', accessFlags := 0x411 }
/-- [B -/
def k17 : Class := { plain "[B" (some 0) with kind := .array 16 .byte, interfaces := #[15, 6], accessFlags := 1041 }

/-- the primitive int -/
def k18 : Class := { plain "int" none with kind := .primitive 'I', accessFlags := 0x411 }
/-- [I -/
def k19 : Class := { plain "[I" (some 0) with kind := .array 18 .int, interfaces := #[15, 6], accessFlags := 1041 }

def heap : Heap := #[{ cls := 11, slots := #[.long 0, .int 1, .null, .int 0, .null, .int 0, .int 0], vm := .statics 11 },
  { cls := 13, slots := #[.null, .null, .null], vm := .statics 13 }]
def classes : Array Class := #[k0, k1, k2, k3, k4, k5, k6, k7, k8, k9, k10, k11, k12, k13, k14, k15, k16, k17, k18, k19]
def interned : List (Array UInt16 × Addr) := []
def slotsUsed : Nat := 10
def theMethod : MethodId := ⟨1, 1⟩
def args0 : Array Value := #[.int 5, .int 5, .int 5, .int 5]
def aboutOver (below : List Frame) : State where
  vm := { classes := classes, interned := interned.toArray }
  heap := heap
  slotsUsed := slotsUsed
  threads := #[{ frames := .invoking theMethod args0 :: below }]
def below0 : List Frame := [.native { method := ⟨0, 0⟩, args := #[] }]
def about1 : State := aboutOver below0
def p0 : Program := .bare "" "" ""
def e0 : Env := launch0.env 0 0 0
theorem w_frames : about1.frames = Frame.invoking theMethod args0 :: below0 := rfl
set_option maxRecDepth 65536 in
theorem w_args : argsFit about1.vm theMethod args0 = true := by decide +kernel
set_option maxRecDepth 65536 in
theorem w_heap : heapFits about1 = true := by decide +kernel
set_option maxRecDepth 65536 in
theorem w_runnable : about1.curStatus? = some .runnable := by decide +kernel
set_option maxRecDepth 65536 in
theorem w_alone : about1.alone = true := by decide +kernel
set_option maxRecDepth 65536 in
theorem w_named : about1.methodNamed? x = some theMethod := by decide +kernel
set_option maxRecDepth 65536 in
theorem w_hears : about1.hears theMethod below0 = true := by decide +kernel
set_option maxRecDepth 65536 in
theorem w_ripe : about1.ripe theMethod args0 below0 = true := by decide +kernel
theorem w_running : about1.status = .running := rfl
set_option maxRecDepth 65536 in
theorem w_room : about1.hasRoom e0.platform room_1 = true :=
  launch0.hasRoom_least _ room_1 (by decide +kernel) (by decide +kernel) (by decide +kernel) (by decide +kernel) (by decide +kernel) (by decide +kernel)
theorem allAtoms_all (ts : List Jvm.Cond) (a : Array Jvm.Value) (st : Jvm.State) : (allAtoms ts).before a st = ts.all (fun c => c.before a st) := by
  induction ts with
  | nil => rfl
  | cons c t ih =>
    show (Jvm.Cond.and c (allAtoms t)).before a st = _
    rw [Jvm.Cond.before_and, ih, List.all_cons]
def words1 : List Jvm.Cond := Jvm.Cond.code x code maxLocals ret :: tables_1
/-- a 'code' word, met by the world's own term for the bytes: nothing is compared byte by byte -/
theorem code_word {y : MethodName} {bytes : ByteArray} {mx : Nat} {rt : Option FieldType} {a : Array Value} {s : State} {m : MethodId} {meth : Method} {c : Code} (h1 : s.methodNamed? y = some m) (h2 : s.vm.method? m = some meth) (h3 : meth.code = some c) (h4 : c.code = bytes)
    (h5 : (c.maxLocals == mx && c.exceptionTable.isEmpty && decide (c.maxStack ≤ mostOperands) && decide (meth.sig.returnType = rt) && !meth.locks && decide (parseMethodDescriptor y.desc = some meth.sig)) = true) : (Jvm.Cond.code y bytes mx rt).before a s = true := by
  simp only [Bool.and_eq_true, beq_iff_eq, Bool.not_eq_true', decide_eq_true_eq] at h5
  obtain ⟨⟨⟨⟨⟨g1, g2⟩, g3⟩, g4⟩, g5⟩, g6⟩ := h5
  simp [Cond.before, Cond.holds, Cond.value, h1, h2, h3, h4, g1, g2, g3, g4, g5, g6]
def isCode : Jvm.Cond → Bool
  | .code _ _ _ _ => true
  | _ => false
theorem all_split {L : List Jvm.Cond} {P : Jvm.Cond → Bool} (h1 : L.all (fun c => isCode c || P c) = true) (h2 : ∀ c ∈ L.filter isCode, P c = true) : L.all P = true := by
  refine List.all_eq_true.mpr fun c hc => ?_
  have h := List.all_eq_true.mp h1 c hc
  rcases Bool.eq_false_or_eq_true (isCode c) with hi | hi
  · exact h2 c (List.mem_filter.mpr ⟨hc, hi⟩)
  · simpa [hi] using h
set_option maxRecDepth 65536 in
theorem w_c0 : (Jvm.Cond.code x code maxLocals ret).before args0 about1 = true := code_word (m := ⟨1, 1⟩) (meth := k1m1) (c := k1c1) (by decide +kernel) rfl rfl rfl (by decide +kernel)
set_option maxRecDepth 65536 in
theorem w_c1 : (Jvm.Cond.code ({ cls := "com/example/polity/polity/io/saml/CanonicalXml", name := "<init>", desc := "()V" } : Jvm.MethodName) prog_10_method_1_code (1 : Nat) (Option.none : Option Jvm.ClassFile.FieldType)).before args0 about1 = true := code_word (m := ⟨2, 0⟩) (meth := k2m0) (c := k2c0) (by decide +kernel) rfl rfl rfl (by decide +kernel)
set_option maxRecDepth 65536 in
theorem w_c2 : (Jvm.Cond.code ({ cls := "java/lang/Object", name := "<init>", desc := "()V" } : Jvm.MethodName) object_method_1_code (1 : Nat) (Option.none : Option Jvm.ClassFile.FieldType)).before args0 about1 = true := code_word (m := ⟨0, 0⟩) (meth := k0m0) (c := k0c0) (by decide +kernel) rfl rfl rfl (by decide +kernel)
set_option maxRecDepth 65536 in
theorem w_c3 : (Jvm.Cond.code ({ cls := "com/example/polity/polity/io/saml/CanonicalXml", name := "toByteArray", desc := "()[B" } : Jvm.MethodName) prog_10_method_7_code (1 : Nat) (Option.some (Jvm.ClassFile.FieldType.array Jvm.ClassFile.FieldType.byte))).before args0 about1 = true := code_word (m := ⟨2, 2⟩) (meth := k2m2) (c := k2c2) (by decide +kernel) rfl rfl rfl (by decide +kernel)
set_option maxRecDepth 65536 in
theorem w_c4 : (Jvm.Cond.code ({ cls := "java/util/Arrays", name := "copyOf", desc := "([BI)[B" } : Jvm.MethodName) jdk_65_method_121_code (3 : Nat) (Option.some (Jvm.ClassFile.FieldType.array Jvm.ClassFile.FieldType.byte))).before args0 about1 = true := code_word (m := ⟨3, 1⟩) (meth := k3m1) (c := k3c1) (by decide +kernel) rfl rfl rfl (by decide +kernel)
set_option maxRecDepth 65536 in
theorem w_c5 : (Jvm.Cond.code ({ cls := "java/lang/Math", name := "min", desc := "(II)I" } : Jvm.MethodName) jdk_29_method_69_code (2 : Nat) (Option.some Jvm.ClassFile.FieldType.int)).before args0 about1 = true := code_word (m := ⟨4, 1⟩) (meth := k4m1) (c := k4c1) (by decide +kernel) rfl rfl rfl (by decide +kernel)
set_option maxRecDepth 65536 in
theorem w_c6 : (Jvm.Cond.code ({ cls := "com/example/polity/polity/io/saml/CanonicalXmlToByteArrayPinLaw", name := "matches", desc := "([BICCC)Z" } : Jvm.MethodName) method_3_code (5 : Nat) (Option.some Jvm.ClassFile.FieldType.boolean)).before args0 about1 = true := code_word (m := ⟨1, 2⟩) (meth := k1m2) (c := k1c2) (by decide +kernel) rfl rfl rfl (by decide +kernel)
set_option maxRecDepth 65536 in
theorem w_c7 : (Jvm.Cond.code ({ cls := "java/lang/String", name := "valueOf", desc := "(C)Ljava/lang/String;" } : Jvm.MethodName) jdk_42_method_139_code (1 : Nat) (Option.some (Jvm.ClassFile.FieldType.object "java/lang/String"))).before args0 about1 = true := code_word (m := ⟨11, 3⟩) (meth := k11m3) (c := k11c3) (by decide +kernel) rfl rfl rfl (by decide +kernel)
set_option maxRecDepth 65536 in
theorem w_c8 : (Jvm.Cond.code ({ cls := "java/lang/StringLatin1", name := "canEncode", desc := "(C)Z" } : Jvm.MethodName) jdk_43_method_3_code (1 : Nat) (Option.some Jvm.ClassFile.FieldType.boolean)).before args0 about1 = true := code_word (m := ⟨12, 2⟩) (meth := k12m2) (c := k12c2) (by decide +kernel) rfl rfl rfl (by decide +kernel)
set_option maxRecDepth 65536 in
theorem w_c9 : (Jvm.Cond.code ({ cls := "java/lang/StringLatin1", name := "toBytes", desc := "(C)[B" } : Jvm.MethodName) jdk_43_method_46_code (1 : Nat) (Option.some (Jvm.ClassFile.FieldType.array Jvm.ClassFile.FieldType.byte))).before args0 about1 = true := code_word (m := ⟨12, 3⟩) (meth := k12m3) (c := k12c3) (by decide +kernel) rfl rfl rfl (by decide +kernel)
set_option maxRecDepth 65536 in
theorem w_c10 : (Jvm.Cond.code ({ cls := "java/lang/String", name := "<init>", desc := "([BB)V" } : Jvm.MethodName) jdk_42_method_151_code (3 : Nat) (Option.none : Option Jvm.ClassFile.FieldType)).before args0 about1 = true := code_word (m := ⟨11, 4⟩) (meth := k11m4) (c := k11c4) (by decide +kernel) rfl rfl rfl (by decide +kernel)
set_option maxRecDepth 65536 in
theorem w_c11 : (Jvm.Cond.code ({ cls := "com/example/polity/polity/io/saml/CanonicalXml", name := "markup", desc := "(Ljava/lang/String;)Lcom/example/polity/polity/io/saml/CanonicalXml;" } : Jvm.MethodName) prog_10_method_2_code (4 : Nat) (Option.some (Jvm.ClassFile.FieldType.object "com/example/polity/polity/io/saml/CanonicalXml"))).before args0 about1 = true := code_word (m := ⟨2, 1⟩) (meth := k2m1) (c := k2c1) (by decide +kernel) rfl rfl rfl (by decide +kernel)
set_option maxRecDepth 65536 in
theorem w_c12 : (Jvm.Cond.code ({ cls := "java/lang/String", name := "length", desc := "()I" } : Jvm.MethodName) jdk_42_method_54_code (1 : Nat) (Option.some Jvm.ClassFile.FieldType.int)).before args0 about1 = true := code_word (m := ⟨11, 1⟩) (meth := k11m1) (c := k11c1) (by decide +kernel) rfl rfl rfl (by decide +kernel)
set_option maxRecDepth 65536 in
theorem w_c13 : (Jvm.Cond.code ({ cls := "java/lang/String", name := "coder", desc := "()B" } : Jvm.MethodName) jdk_42_method_152_code (1 : Nat) (Option.some Jvm.ClassFile.FieldType.byte)).before args0 about1 = true := code_word (m := ⟨11, 5⟩) (meth := k11m5) (c := k11c5) (by decide +kernel) rfl rfl rfl (by decide +kernel)
set_option maxRecDepth 65536 in
theorem w_c14 : (Jvm.Cond.code ({ cls := "com/example/polity/polity/io/saml/CanonicalXml", name := "room", desc := "(I)V" } : Jvm.MethodName) prog_10_method_12_code (2 : Nat) (Option.none : Option Jvm.ClassFile.FieldType)).before args0 about1 = true := code_word (m := ⟨2, 3⟩) (meth := k2m3) (c := k2c3) (by decide +kernel) rfl rfl rfl (by decide +kernel)
set_option maxRecDepth 65536 in
theorem w_c15 : (Jvm.Cond.code ({ cls := "java/lang/String", name := "charAt", desc := "(I)C" } : Jvm.MethodName) jdk_42_method_56_code (2 : Nat) (Option.some Jvm.ClassFile.FieldType.char)).before args0 about1 = true := code_word (m := ⟨11, 2⟩) (meth := k11m2) (c := k11c2) (by decide +kernel) rfl rfl rfl (by decide +kernel)
set_option maxRecDepth 65536 in
theorem w_c16 : (Jvm.Cond.code ({ cls := "java/lang/String", name := "isLatin1", desc := "()Z" } : Jvm.MethodName) jdk_42_method_154_code (1 : Nat) (Option.some Jvm.ClassFile.FieldType.boolean)).before args0 about1 = true := code_word (m := ⟨11, 6⟩) (meth := k11m6) (c := k11c6) (by decide +kernel) rfl rfl rfl (by decide +kernel)
set_option maxRecDepth 65536 in
theorem w_c17 : (Jvm.Cond.code ({ cls := "java/lang/StringLatin1", name := "charAt", desc := "([BI)C" } : Jvm.MethodName) jdk_43_method_2_code (2 : Nat) (Option.some Jvm.ClassFile.FieldType.char)).before args0 about1 = true := code_word (m := ⟨12, 1⟩) (meth := k12m1) (c := k12c1) (by decide +kernel) rfl rfl rfl (by decide +kernel)
set_option maxRecDepth 65536 in
theorem w_c18 : (Jvm.Cond.code ({ cls := "java/lang/String", name := "checkIndex", desc := "(II)V" } : Jvm.MethodName) jdk_42_method_155_code (2 : Nat) (Option.none : Option Jvm.ClassFile.FieldType)).before args0 about1 = true := code_word (m := ⟨11, 7⟩) (meth := k11m7) (c := k11c7) (by decide +kernel) rfl rfl rfl (by decide +kernel)
set_option maxRecDepth 65536 in
theorem w_c19 : (Jvm.Cond.code ({ cls := "jdk/internal/util/Preconditions", name := "checkIndex", desc := "(IILjava/util/function/BiFunction;)I" } : Jvm.MethodName) jdk_41_method_11_code (3 : Nat) (Option.some Jvm.ClassFile.FieldType.int)).before args0 about1 = true := code_word (m := ⟨13, 1⟩) (meth := k13m1) (c := k13c1) (by decide +kernel) rfl rfl rfl (by decide +kernel)
def codes1 : List Jvm.Cond := [Jvm.Cond.code x code maxLocals ret, Jvm.Cond.code ({ cls := "com/example/polity/polity/io/saml/CanonicalXml", name := "<init>", desc := "()V" } : Jvm.MethodName) prog_10_method_1_code (1 : Nat) (Option.none : Option Jvm.ClassFile.FieldType), Jvm.Cond.code ({ cls := "java/lang/Object", name := "<init>", desc := "()V" } : Jvm.MethodName) object_method_1_code (1 : Nat) (Option.none : Option Jvm.ClassFile.FieldType), Jvm.Cond.code ({ cls := "com/example/polity/polity/io/saml/CanonicalXml", name := "toByteArray", desc := "()[B" } : Jvm.MethodName) prog_10_method_7_code (1 : Nat) (Option.some (Jvm.ClassFile.FieldType.array Jvm.ClassFile.FieldType.byte)), Jvm.Cond.code ({ cls := "java/util/Arrays", name := "copyOf", desc := "([BI)[B" } : Jvm.MethodName) jdk_65_method_121_code (3 : Nat) (Option.some (Jvm.ClassFile.FieldType.array Jvm.ClassFile.FieldType.byte)), Jvm.Cond.code ({ cls := "java/lang/Math", name := "min", desc := "(II)I" } : Jvm.MethodName) jdk_29_method_69_code (2 : Nat) (Option.some Jvm.ClassFile.FieldType.int), Jvm.Cond.code ({ cls := "com/example/polity/polity/io/saml/CanonicalXmlToByteArrayPinLaw", name := "matches", desc := "([BICCC)Z" } : Jvm.MethodName) method_3_code (5 : Nat) (Option.some Jvm.ClassFile.FieldType.boolean), Jvm.Cond.code ({ cls := "java/lang/String", name := "valueOf", desc := "(C)Ljava/lang/String;" } : Jvm.MethodName) jdk_42_method_139_code (1 : Nat) (Option.some (Jvm.ClassFile.FieldType.object "java/lang/String")), Jvm.Cond.code ({ cls := "java/lang/StringLatin1", name := "canEncode", desc := "(C)Z" } : Jvm.MethodName) jdk_43_method_3_code (1 : Nat) (Option.some Jvm.ClassFile.FieldType.boolean), Jvm.Cond.code ({ cls := "java/lang/StringLatin1", name := "toBytes", desc := "(C)[B" } : Jvm.MethodName) jdk_43_method_46_code (1 : Nat) (Option.some (Jvm.ClassFile.FieldType.array Jvm.ClassFile.FieldType.byte)), Jvm.Cond.code ({ cls := "java/lang/String", name := "<init>", desc := "([BB)V" } : Jvm.MethodName) jdk_42_method_151_code (3 : Nat) (Option.none : Option Jvm.ClassFile.FieldType), Jvm.Cond.code ({ cls := "com/example/polity/polity/io/saml/CanonicalXml", name := "markup", desc := "(Ljava/lang/String;)Lcom/example/polity/polity/io/saml/CanonicalXml;" } : Jvm.MethodName) prog_10_method_2_code (4 : Nat) (Option.some (Jvm.ClassFile.FieldType.object "com/example/polity/polity/io/saml/CanonicalXml")), Jvm.Cond.code ({ cls := "java/lang/String", name := "length", desc := "()I" } : Jvm.MethodName) jdk_42_method_54_code (1 : Nat) (Option.some Jvm.ClassFile.FieldType.int), Jvm.Cond.code ({ cls := "java/lang/String", name := "coder", desc := "()B" } : Jvm.MethodName) jdk_42_method_152_code (1 : Nat) (Option.some Jvm.ClassFile.FieldType.byte), Jvm.Cond.code ({ cls := "com/example/polity/polity/io/saml/CanonicalXml", name := "room", desc := "(I)V" } : Jvm.MethodName) prog_10_method_12_code (2 : Nat) (Option.none : Option Jvm.ClassFile.FieldType), Jvm.Cond.code ({ cls := "java/lang/String", name := "charAt", desc := "(I)C" } : Jvm.MethodName) jdk_42_method_56_code (2 : Nat) (Option.some Jvm.ClassFile.FieldType.char), Jvm.Cond.code ({ cls := "java/lang/String", name := "isLatin1", desc := "()Z" } : Jvm.MethodName) jdk_42_method_154_code (1 : Nat) (Option.some Jvm.ClassFile.FieldType.boolean), Jvm.Cond.code ({ cls := "java/lang/StringLatin1", name := "charAt", desc := "([BI)C" } : Jvm.MethodName) jdk_43_method_2_code (2 : Nat) (Option.some Jvm.ClassFile.FieldType.char), Jvm.Cond.code ({ cls := "java/lang/String", name := "checkIndex", desc := "(II)V" } : Jvm.MethodName) jdk_42_method_155_code (2 : Nat) (Option.none : Option Jvm.ClassFile.FieldType), Jvm.Cond.code ({ cls := "jdk/internal/util/Preconditions", name := "checkIndex", desc := "(IILjava/util/function/BiFunction;)I" } : Jvm.MethodName) jdk_41_method_11_code (3 : Nat) (Option.some Jvm.ClassFile.FieldType.int)]
set_option maxRecDepth 65536 in
theorem codes_eq : words1.filter isCode = codes1 := rfl
theorem w_codes : ∀ c ∈ words1.filter isCode, c.before args0 about1 = true := by
  rw [codes_eq]
  intro c hc
  simp only [codes1, List.mem_cons, List.not_mem_nil, or_false] at hc
  rcases hc with rfl | rfl | rfl | rfl | rfl | rfl | rfl | rfl | rfl | rfl | rfl | rfl | rfl | rfl | rfl | rfl | rfl | rfl | rfl | rfl
  · exact w_c0
  · exact w_c1
  · exact w_c2
  · exact w_c3
  · exact w_c4
  · exact w_c5
  · exact w_c6
  · exact w_c7
  · exact w_c8
  · exact w_c9
  · exact w_c10
  · exact w_c11
  · exact w_c12
  · exact w_c13
  · exact w_c14
  · exact w_c15
  · exact w_c16
  · exact w_c17
  · exact w_c18
  · exact w_c19
set_option maxRecDepth 65536 in
theorem w_t1 : (words1.take 24).all (fun c => isCode c || c.before args0 about1) = true := by decide +kernel
set_option maxRecDepth 65536 in
theorem w_t2 : ((words1.drop 24).take 24).all (fun c => isCode c || c.before args0 about1) = true := by decide +kernel
set_option maxRecDepth 65536 in
theorem w_t3 : (((words1.drop 24).drop 24).take 24).all (fun c => isCode c || c.before args0 about1) = true := by decide +kernel
set_option maxRecDepth 65536 in
theorem w_t4 : ((((words1.drop 24).drop 24).drop 24).take 24).all (fun c => isCode c || c.before args0 about1) = true := by decide +kernel
set_option maxRecDepth 65536 in
theorem w_t5 : ((((words1.drop 24).drop 24).drop 24).drop 24).all (fun c => isCode c || c.before args0 about1) = true := by decide +kernel
theorem w_tables : (allAtoms (Jvm.Cond.code x code maxLocals ret :: tables_1)).before args0 about1 = true := by
  rw [allAtoms_all]
  show words1.all (fun c => c.before args0 about1) = true
  refine all_split ?_ w_codes
  rw [← List.take_append_drop 24 words1, List.all_append, w_t1, ← List.take_append_drop 24 (words1.drop 24), List.all_append, w_t2, ← List.take_append_drop 24 ((words1.drop 24).drop 24), List.all_append, w_t3, ← List.take_append_drop 24 (((words1.drop 24).drop 24).drop 24), List.all_append, w_t4, w_t5]
  rfl
set_option maxRecDepth 65536 in
theorem w_rest : rest_1_c.before args0 about1 = true := by decide +kernel
set_option maxRecDepth 65536 in
theorem w_case : (Jvm.Cond.and given_1 narrow_1).before args0 about1 = true := by decide +kernel
theorem w_applies : (headSpec (Jvm.Cond.code x code maxLocals ret :: tables_1) room_1).applies x e0.platform about1 = true :=
  (Spec.applies_iff w_frames).mpr ⟨w_running, w_runnable, w_alone, w_named, w_hears, w_ripe, w_room, w_tables⟩
theorem atStart : AtStart classFile x code maxLocals ret World_1 tables_1 room_1 Calls_1 rest_1 Pre_1 launch0 p0 e0 about1 theMethod args0 below0 :=
  ⟨lists_1, trivial, launch0.admits_env _ _ _, launch0.least_env, fairChoices_fair.cas, fairChoices_fair.clock, w_frames, w_args, w_heap, w_applies, trivial, w_rest, w_case⟩
end start1
theorem witness_1 : WitnessClaimed_1 := ⟨start1.p0, start1.e0, start1.about1, start1.theMethod, start1.args0, start1.below0, start1.atStart⟩
end Jvm.Pilot.@@N@@
