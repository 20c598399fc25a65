import JvmDerived
import JvmDerived.Pilot.@@N@@Statement
import JvmDerived.Pilot.@@N@@Code
set_option linter.unusedVariables false
set_option linter.unusedSimpArgs false
@@BLOCK:LamKit.lean.txt@@
namespace Jvm.Pilot.@@N@@
open Jvm Jvm.ClassFile Sem Op Lib Jvm.Free Jvm.Stand Jvm.LawKit Jvm.RoadKit Bundle Jvm.Pilot.@@N@@.Jvm.D
abbrev y1 : MethodName := ⟨"com/example/filters_under_siege/filtersundersiege/SketchShape", "<init>", "(II)V"⟩
abbrev y2 : MethodName := ⟨"java/lang/Record", "<init>", "()V"⟩
abbrev y3 : MethodName := ⟨"java/lang/Object", "<init>", "()V"⟩
abbrev y4 : MethodName := ⟨"com/example/filters_under_siege/filtersundersiege/KeeperPairs", "<init>", "(Lcom/example/filters_under_siege/filtersundersiege/SketchShape;)V"⟩
abbrev y5 : MethodName := ⟨"com/example/filters_under_siege/filtersundersiege/KeeperPairs", "<init>", "(Lcom/example/filters_under_siege/filtersundersiege/SketchShape;Ljava/util/function/LongPredicate;)V"⟩
abbrev y6 : MethodName := ⟨"java/util/Objects", "requireNonNull", "(Ljava/lang/Object;Ljava/lang/String;)Ljava/lang/Object;"⟩
abbrev y7 : MethodName := ⟨"com/example/filters_under_siege/filtersundersiege/SketchShape", "cells", "()I"⟩
abbrev y8 : MethodName := ⟨"com/example/filters_under_siege/filtersundersiege/KeeperPairs", "add", "([II)V"⟩
abbrev y9 : MethodName := ⟨"com/example/filters_under_siege/filtersundersiege/SketchShape", "width", "()I"⟩
abbrev y10 : MethodName := ⟨"com/example/filters_under_siege/filtersundersiege/KeeperPairs", "count", "(II)J"⟩
abbrev y11 : MethodName := ⟨"com/example/filters_under_siege/filtersundersiege/KeeperPairs", "lambda$new$0", "(J)Z"⟩

abbrev jv (x : Int64) : Slot := .val (.long x)
abbrev un : Slot := .unset
abbrev se : Slot := .second
abbrev AT (p : Program) (e : Env) (below : List Frame) (T : State) (m : MethodId) (pc : Nat) (ls : Array Slot) (st : List Value) (tg : State) : Prop := Steps p.tables e below (T.setTop (mkF m pc ls st)) tg
theorem ow {Z : State} {a0 : Array Value} (hw : ∀ d ∈ tables_1, d.before a0 Z = true) (i : Nat) {d : Jvm.Cond} (h : tables_1[i]? = some d) : d.before a0 Z = true := hw _ (List.mem_of_getElem? h)
theorem own_lrem {p : Program} {l : Launch} {e : Env} {R : Room} {s : State} {m : MethodId} {args : Array Value} {below : List Frame} {meth : Method} {c : Code} {T : State} {locs : List Loc} {cells slots : Nat} {g : JFrame} {target : State} (X : Stand p l e R s m args below meth c T locs cells slots) (hx : p.tables.exec = Jvm.exec) (hg : g.method = m) {x y : Int64} {rest : List Value} (hd : decode c.code g.pc = .ok (.lrem, 1)) (hs : g.stack = .long y :: .long x :: rest) (hy : y ≠ 0)
    (hr : Steps p.tables e below (T.setTop { g with pc := g.pc + 1, stack := .long (x % y) :: rest }) target) : Steps p.tables e below (T.setTop g) target :=
  XS.lrem X.here hx hg hd hs hy (by rw [lrem_mod]; exact hr)
theorem own_eqInt {args : Array Value} {first s : State} {o : Option Outcome} {idx : List Nat} {t : Term} {n : Int32} (h : (Jvm.Cond.eq t (.int n)).value args first o s idx = some true) : t.eval args first o idx s = some (.int n) := by
  simp only [Cond.value, Term.eval] at h
  cases ht : t.eval args first o idx s with
  | none => simp [ht] at h
  | some v => cases v <;> simp [ht] at h ⊢; exact h
theorem own_eqLong {args : Array Value} {first s : State} {o : Option Outcome} {idx : List Nat} {t : Term} {n : Int64} (h : (Jvm.Cond.eq t (.long n)).value args first o s idx = some true) : t.eval args first o idx s = some (.long n) := by
  simp only [Cond.value, Term.eval] at h
  cases ht : t.eval args first o idx s with
  | none => simp [ht] at h
  | some v => cases v <;> simp [ht] at h ⊢; exact h
theorem own_eqRef {args : Array Value} {first s : State} {o : Option Outcome} {idx : List Nat} {t u : Term} {a : Addr} (hu : u.eval args first o idx s = some (.ref a)) (h : (Jvm.Cond.eq t u).value args first o s idx = some true) : t.eval args first o idx s = some (.ref a) := by
  simp only [Cond.value, hu] at h
  cases ht : t.eval args first o idx s with
  | none => simp [ht] at h
  | some v => cases v <;> simp [ht] at h ⊢; exact h

theorem own_x32 {a b : Int} (h : (a - b) % 4294967296 = 0) (r : -2147483648 ≤ a ∧ a ≤ 2147483647) (q : -2147483648 ≤ b ∧ b ≤ 2147483647) : a = b := by omega
theorem own_x64 {a b : Int} (h : (a - b) % 18446744073709551616 = 0) (r : -9223372036854775808 ≤ a ∧ a ≤ 9223372036854775807) (q : -9223372036854775808 ≤ b ∧ b ≤ 9223372036854775807) : a = b := by omega
theorem own_in {c : Cell} {n : Int32} (j : Int32) (S : c.slots.size = n.toNatClampNeg) (q : ¬ j < 0 ∧ j < n) : ¬ (j < 0 ∨ c.slots.size ≤ j.toNatClampNeg) := inb_of S q
theorem own_up {x a b : Int32} (h : x < a) (q : a.toInt ≤ b.toInt) : x < b := Int32.lt_iff_toInt_lt.mpr (Int.lt_of_lt_of_le (Int32.lt_iff_toInt_lt.mp h) q)
theorem own_dn {x a b : Int32} (h : ¬ x < a) (q : b.toInt ≤ a.toInt) : ¬ x < b := fun z => h (own_up z q)
theorem own_neInt {args : Array Value} {first s : State} {o : Option Outcome} {idx : List Nat} {t : Term} {x n : Int32} (ht : t.eval args first o idx s = some (.int x)) (h : (Jvm.Cond.not (Jvm.Cond.eq t (.int n))).value args first o s idx = some true) : ¬ x = n := by
  simpa [Cond.value, Term.eval, ht] using h

theorem own_len {Z : State} {args : Array Value} {t : Term} {a : Addr} {cl : Cell} {ty : FieldType} {n : Int32} (ev : t.eval args Z none [] Z = some (.ref a)) (A : Arr Z Z.heap a cl ty) (h : (Term.length t).eval args Z none [] Z = some (.int n)) : cl.slots.size < 2 ^ 31 ∧ cl.slots.size.toInt32 = n := by
  have q := A.fin (U := Z) (Vm.Alike.refl _)
  simp only [Term.eval, ev, q, Option.bind_eq_bind, Option.bind_some, Option.pure_def] at h
  split at h
  · rename_i hlt; exact ⟨hlt, by simpa using h⟩
  · simp at h

theorem own_nar {v : Value} {c : String} (h : v.isRef = true) : narrow (.object c) v = v := by cases v <;> first | rfl | simp [Value.isRef] at h
theorem own_fits {v : Value} {c : String} (h : v.isRef = true) : fits (.object c) v = true := by cases v <;> first | rfl | simp [Value.isRef] at h
theorem own_cat {v : Value} (h : v.isRef = true) : v.category = 1 := by cases v <;> first | rfl | simp [Value.isRef] at h

theorem own_notOf {Z : State} {a0 : Array Value} {C S K : String} {n : Nat} (w : (Jvm.Cond.superclass C S).before a0 Z = true) (w0 : (Jvm.Cond.noSuperclass S).before a0 Z = true) (wk : (Jvm.Cond.instantiable K n).before a0 Z = true) (h1 : C ≠ K) (h2 : S ≠ K) :
    ∃ c t, Z.vm.findClass C = some c ∧ Z.vm.findClass K = some t ∧ Z.vm.assignable c t = false := by
  obtain ⟨t, k', g0, g2, g5, g7, -⟩ := Cond.instantiable_spec wk
  obtain ⟨c, h0⟩ := found_sup w
  obtain ⟨p, k, kp, q1, q2, q3, q4, q5, q6, q7⟩ := Cond.superclass_spec h0 w
  obtain ⟨c0, k0, r1, r2, r3, -, -⟩ := Cond.noSuperclass_spec w0
  cases q1.symm.trans r1
  have ne1 := ids_ne h0 g0 h1
  have ne2 := ids_ne r1 g0 h2
  have g8 := (Bool.or_eq_false_iff.mp g7).1
  have n3 : ∀ fuel, Z.vm.isSubclassAux fuel c t = false := by
    intro fuel
    cases fuel with
    | zero => rfl
    | succ f =>
      cases f with
      | zero => simp [Vm.isSubclassAux, ne1, q2, q4]
      | succ g => simp [Vm.isSubclassAux, ne1, ne2, q2, q4, r2, r3]
  refine ⟨c, t, h0, g0, ?_⟩
  show Z.vm.assignableAux (255 + 1) c t = false
  simp [Vm.assignableAux, ne1, q2, g2, q5, g5, g8, Vm.isSubclass, n3]

theorem own_selP {Z s : State} {a0 args : Array Value} {y : MethodName} {n : Nat} (hZ : Z.Warmed39 s.vm) (wi : (Jvm.Cond.instantiable y.cls n).before a0 Z = true) (wp : (Jvm.Cond.privateMethod y).before a0 Z = true) (wm : (Jvm.Cond.instanceMethod y).before a0 Z = true) (hy : y.cls ≠ "java/lang/invoke/MethodHandle" ∧ y.cls ≠ "java/lang/invoke/VarHandle") : (Jvm.Cond.selects y.cls y y).before args s = true := by
  obtain ⟨c, k, hc, hk, -, hni, -⟩ := Cond.instantiable_spec (mvT (s := s) (args := args) hZ wi)
  exact selects_self_of_private hc hk (Bool.or_eq_false_iff.mp hni).1 (Cond.privateMethod_at (mvP hZ wp (args := #[]))) (mvT hZ wm) hy

theorem own_neS {Z : State} {h : Heap} {a b u w : Addr} {C f d : String} {k k' : ClassId} {ty : FieldType} {z z' : Int32} {vs vs' : List Value} {dv dv' : Value} (Fa : Fld Z h a C f d (.ref u)) (Va : Arv Z h u k ty z vs dv) (Fb : Fld Z h b C f d (.ref w)) (Vb : Arv Z h w k' ty z' vs' dv') (hn : z ≠ z' ∨ ∃ i : Nat, i < z.toNatClampNeg ∧ vs.getD i dv ≠ vs'.getD i dv') : a ≠ b := fun e => by
  subst e
  have hu : u = w := by
    rcases Decidable.em (u = w) with q | q
    · exact q
    · exact absurd rfl (Fld.ne Fa Fb (fun x => q (Value.ref.inj x)))
  subst hu
  obtain ⟨c1, A1, -, S1, N1, H1, -⟩ := Va
  obtain ⟨c2, A2, -, S2, N2, H2, -⟩ := Vb
  cases A1.1.symm.trans A2.1
  rcases hn with hn | ⟨i, hi, hn⟩
  · exact hn ((len_of S1 N1).symm.trans (len_of S2 N2))
  · have q1 := H1 i (by rw [S1]; exact hi)
    have q2 := H2 i (by rw [S1]; exact hi)
    exact hn (Option.some.inj (q1.symm.trans q2))

theorem own_goal {P : Prop} (h : ∀ G : Prop, (P → G) → G) : P := h P id
theorem own_mono {p : Program} {l : Launch} {e : Env} {R : Room} {s : State} {m : MethodId} {args : Array Value} {below : List Frame} {meth : Method} {c : Code} {T : State} {locs : List Loc} {cells slots c2 s2 : Nat} (X : Stand p l e R s m args below meth c T locs cells slots) (h1 : cells ≤ c2) (h2 : slots ≤ s2) : Stand p l e R s m args below meth c T locs c2 s2 := { X with same := X.same.mono h1 h2 }

theorem own_sa {Z : State} {a0 : Array Value} (hw : ∀ d ∈ tables_1, d.before a0 Z = true) : ∀ a ∈ Bundle.stringAtoms, a.before a0 Z = true := fun d hd => by
  simp only [Bundle.stringAtoms, List.mem_cons, List.not_mem_nil, or_false] at hd
  rcases hd with rfl | rfl | rfl | rfl | rfl | rfl | rfl
  · exact ow hw 35 rfl
  · exact ow hw 36 rfl
  · exact ow hw 37 rfl
  · exact ow hw 38 rfl
  · exact ow hw 39 rfl
  · exact ow hw 40 rfl
  · exact ow hw 41 rfl
abbrev EL0 : List (String × Nat) := []
theorem own_sf0 {Z : State} {vm : Vm} {h : Heap} {x : Addr} : Safe Z EL0 vm h x := fun B => by
  obtain ⟨p, hp, -⟩ := B
  cases hp

abbrev sg0 : Lambda.Shape := (Jvm.Lambda.Shape.mk "java/util/function/LongPredicate" "test" (Jvm.ClassFile.MethodDescriptor.mk ([Jvm.ClassFile.FieldType.long] : List Jvm.ClassFile.FieldType) (Option.some Jvm.ClassFile.FieldType.boolean)) ([] : List Jvm.ClassFile.FieldType) (6 : Nat) "com/example/filters_under_siege/filtersundersiege/KeeperPairs" "lambda$new$0" (Jvm.ClassFile.MethodDescriptor.mk ([Jvm.ClassFile.FieldType.long] : List Jvm.ClassFile.FieldType) (Option.some Jvm.ClassFile.FieldType.boolean)) false (Jvm.ClassFile.MethodDescriptor.mk ([Jvm.ClassFile.FieldType.long] : List Jvm.ClassFile.FieldType) (Option.some Jvm.ClassFile.FieldType.boolean)))
abbrev xi0 : MethodName := ⟨"java/util/function/LongPredicate", "test", "(J)Z"⟩
def Lm (Z : State) (a : Addr) (cK : ClassId) : Prop := Jvm.LamKit.Made Z "com/example/filters_under_siege/filtersundersiege/KeeperPairs" sg0 cK ∧ Jvm.LamKit.FnAt Z.heap a cK ∧ ∃ (mD : MethodId) (kD : Class) (i0 p0 : Nat), Z.methodNamed? y4 = some mD ∧ Z.vm.classes[mD.cls]? = some kD ∧ (kD.callSites.find? fun y => y.1 == mD.idx && y.2.1 == 2) = some (i0, p0, .constant a)
theorem own_lm {Z : State} {a0 : Array Value} (h : (Jvm.Cond.lambdaSite y4 2 1 sg0).before a0 Z = true) : ∃ a cK, Lm Z a cK := by
  obtain ⟨cK, one, hat⟩ := Cond.lambdaSite_spec h
  obtain ⟨mD, kD, cfD, i0, p0, lk, hmD, hkD, -, -, -, hfind, hmade, hcan, hl⟩ := State.lambdaAt?_spec hat
  obtain ⟨kD', hkD', hnameD⟩ := className_of_methodNamed hmD
  cases hkD.symm.trans hkD'
  rcases hl with ⟨a, cell, rfl, -, -, hcell, hcls, hvm, -⟩ | ⟨-, -, hne⟩
  · exact ⟨a, cK, ⟨_, kD, hkD, hnameD, hmade, hcan⟩, ⟨cell, hcell, hcls, hvm⟩, mD, kD, i0, p0, hmD, hkD, hfind⟩
  · exact (hne rfl).elim
/-- the made class stands under warmer tables that may have interned -/
theorem own_made39 {s : State} {vm' : Vm} (hW : s.Warmed39 vm') {d c : ClassId} {sg : Lambda.Shape} (h : Lambda.isMade { classPath := fun _ => none } s.vm d sg c = true) : Lambda.isMade { classPath := fun _ => none } vm' d sg c = true := by
  have hA := hW.alike
  simp only [Lambda.isMade, Option.bind_eq_bind, Option.pure_def, Option.getD_eq_iff, Option.bind_eq_some_iff, Bool.false_eq_true, and_false, or_false] at h ⊢
  obtain ⟨dk, h2, k, h3, file, h4, cf, h5, object, ho, iface, hi, ok, h6, lay, h7, methods, h8, t, ht, tk, htk, h⟩ := h
  obtain ⟨dk', h2', e2⟩ := hA.2.2 _ _ h2
  obtain ⟨k', h3', e3, -, hres, -⟩ := hW.2.2.2 _ _ h3
  obtain ⟨ok', h6', e6⟩ := hA.2.2 _ _ h6
  obtain ⟨tk', htk', e7⟩ := hA.2.2 _ _ htk
  have n2 : dk'.name = dk.name := by rw [e2]
  have n6 : ok'.instanceTypes = ok.instanceTypes := by rw [e6]
  have n7 : tk'.isInterface = tk.isInterface := by rw [e7]; rfl
  refine ⟨dk', h2', k', h3', file, by rw [e3]; exact h4, cf, by rw [n2]; exact h5, object, by rw [hA.findClass]; exact ho, iface, by rw [hA.findClass]; exact hi, ok', h6', lay, by rw [n6]; exact h7, methods, h8, t, by rw [hA.findClass]; exact ht, tk', htk', ?_⟩
  rw [n7, Lambda.methodIn_ask_alike hA, Lambda.methodIn_ask_alike hA]
  cases hg : ((methodIn t sg.implName sg.implDesc.toString tk.isInterface none).ask { classPath := fun _ => none } s.vm).1 with
  | error x => simp [hg] at h
  | ok target =>
    cases hf : ((methodIn iface sg.name sg.sam.toString true none).ask { classPath := fun _ => none } s.vm).1 with
    | error x => simp [hg, hf] at h
    | ok found =>
      simp only [hg, hf, Option.some.injEq, Bool.and_eq_true] at h ⊢
      obtain ⟨⟨hb, b13⟩, b14⟩ := h
      have hb' := hb
      have q : k'.name = k.name ∧ k'.kind = k.kind ∧ k'.accessFlags = k.accessFlags ∧ k'.super = k.super ∧ k'.interfaces = k.interfaces ∧ k'.init = k.init ∧ k'.loader = k.loader ∧ k'.hidden = k.hidden ∧ k'.linked = k.linked ∧ k'.callSites = k.callSites ∧ k'.invokers = k.invokers ∧ k'.methods = k.methods ∧ k'.fields = k.fields ∧ k'.instanceTypes = k.instanceTypes ∧ k'.staticTypes = k.staticTypes := by
        rw [e3]; exact ⟨rfl, rfl, rfl, rfl, rfl, rfl, rfl, rfl, rfl, rfl, rfl, rfl, rfl, rfl, rfl⟩
      obtain ⟨q1, q2, q3, q4, q5, q6, q7, q8, q9, q10, q11, q12, q13, q14, q15⟩ := q
      rw [q1, q2, q3, q4, q5, q6, q7, q8, q9, q10, q11, q12, q13, q14, q15, n2, n6, Lambda.resolvedOf_alike hA, hA.selectMethod]
      refine ⟨⟨hb', ?_⟩, b14⟩
      rw [List.all_eq_true] at b13 ⊢
      intro y hy
      have hz := b13 y hy
      obtain ⟨x, i⟩ := y
      cases x with
      | none => rfl
      | some r =>
        simp only [Option.isNone_some, Bool.false_or, decide_eq_true_eq] at hz ⊢
        rcases hres i with h1 | ⟨h1, -⟩
        · rw [h1]; exact hz
        · rw [hz] at h1; cases h1
theorem own_madeAt {Z s : State} {host : String} {sg : Lambda.Shape} {cK : ClassId} (hZ : Z.Warmed39 s.vm) (H : Jvm.LamKit.Made Z host sg cK) : Jvm.LamKit.Made s host sg cK := by
  obtain ⟨d, dk, hd, hn, hm, hc⟩ := H
  have hA := hZ.alike
  obtain ⟨dk', hd', he⟩ := hA.2.2 _ _ hd
  refine ⟨d, dk', hd', by rw [he]; exact hn, own_made39 hZ hm, ?_⟩
  simp only [State.lambdaCallable, hA.findClass, hA.assignable, hA.superclasses, hA.declaredIn] at hc ⊢
  exact hc
section
variable {p : Program} {l : Launch} {e : Env} {R : Room} {s : State} {m : MethodId} {args : Array Value} {below : List Frame} {meth : Method} {c : Code} {T : State} {locs : List Loc} {cells slots : Nat}
theorem own_site {Z : State} {a : Addr} {cK : ClassId} (X : Stand p l e R s m args below meth c T locs cells slots) (hx : p.tables.exec = Jvm.exec) (HL : Lm Z a cK) (hZ : Z.Warmed39 s.vm) (hn : s.methodNamed? y4 = some m) {g : JFrame} (hg : g.method = m) (hpc : g.pc = 2) (hsize : g.locals.size = c.maxLocals) (hdg : decode c.code g.pc = .ok (.invokedynamic 1, 5)) {W : Nat} (hW : 2 * g.monitorRoom + (g.stack.map fun v => v.category).sum ≤ W) (hwords : W + 3072 ≤ R.locals) :
    ∀ target, Steps p.tables e below (T.setTop { g with pc := g.pc + 5, stack := .ref a :: g.stack }) target → Steps p.tables e below (T.setTop g) target := by
  obtain ⟨-, -, mD, kD, i0, p0, hmD, hkD, hf⟩ := HL
  have q := State.methodNamed?_setVm (s := Z) hZ.alike y4
  rw [hmD] at q
  have q' : s.methodNamed? y4 = some mD := q
  cases hn.symm.trans q'
  obtain ⟨kD', hk', he⟩ := hZ.alike.2.2 _ _ hkD
  have hw' : e.platform.lambdaLinkWords = 3072 := by rw [X.admits.platform]
  exact fun target h => X.lambdaConstant hx hg hsize hdg hk' (by rw [he, hpc]; exact hf) (by rw [hw']; omega) h
theorem own_efL (m : MethodId) (v : Int64) : entryFrame m #[.long v] 2 = mkF m 0 #[jv v, se] [] := by first | (simp [entryFrame, mkF, argsToLocals, Value.category]; done) | rfl
theorem own_pnK : plainName "com/example/filters_under_siege/filtersundersiege/KeeperPairs" = true := by first | (simp [plainName, overriddenIn]; done) | decide +kernel
theorem own_t0 : decode prog_26_method_9_code 0 = .ok (.iconst 1, 1) := by decide +kernel
theorem own_t1 : decode prog_26_method_9_code 1 = .ok (.ireturn, 1) := by decide +kernel
theorem own_tgt (l : Launch) (v : Int64) : Met l y11 [Cond.code y11 prog_26_method_9_code 2 (some .boolean)] { frames := 0, cells := 0, slots := 0, locals := 0 } (fun args _ => args = #[.long v]) (fun _ st o t => o = .returned (some (.int (1 : Int32))) ∧ t.heap = st.heap) 0 0 (fun _ => False) := by
  refine MetFree.of_bodyS (code := prog_26_method_9_code) (maxLocals := 2) (ret := some .boolean) own_pnK (Jvm.LamKit.hisOf (List.mem_singleton.mpr rfl)) ?_
  intro p e s m args below meth c s₁ Bd hml hP _
  obtain rfl : args = #[.long v] := hP
  have X := Stand.of_body Bd
  obtain ⟨fs, hr, hrun, hended, hW, hsame⟩ := X.leave (v := some (.int (1 : Int32))) (fun h => by rw [Bd.returns] at h; cases h)
  refine ⟨s₁.setFrames fs, _, ?_, hrun, hended, ⟨rfl, by rw [Bd.state]; rfl⟩, [], ⟨⟨_, rfl⟩, hW, hsame⟩, fun q hq => nomatch hq⟩
  refine castTop (own_efL m v) ?_
  refine XS.iconst X.here Bd.exec rfl (hb Bd.bytes own_t0) ?_
  exact X.ireturnOut Bd.exec Bd.returns (by first | rfl | decide) (Or.inr (Or.inl rfl)) (hb Bd.bytes own_t1) hr
def fcode0 : ByteArray := ⟨#[0x1f, 0xb8, 0x00, 0x11, 0xac]⟩
theorem own_fwd : Jvm.LamKit.fwdOK sg0 "com/example/filters_under_siege/filtersundersiege/KeeperPairs" fcode0 3 (some .boolean) 17 14 = true := by decide +kernel
theorem own_f0 : decode fcode0 0 = .ok (.lload_n 1, 1) := by decide +kernel
theorem own_f1 : decode fcode0 1 = .ok (.invokestatic 17, 3) := by decide +kernel
theorem own_f4 : decode fcode0 4 = .ok (.ireturn, 1) := by decide +kernel
theorem own_test {Z : State} {ar : Array Value} {a : Addr} {cK : ClassId} {n0 : Nat} {h : Heap} (X : Stand p l e R s m args below meth c T locs cells slots) (hx : p.tables.exec = Jvm.exec) (hw : ∀ d ∈ tables_1, d.before ar Z = true) (hZ : Z.Warmed39 s.vm) (hown : s.vm.findClass "com/example/filters_under_siege/filtersundersiege/KeeperPairs" = some m.cls) (HL : Lm Z a cK) (O : Old Z n0 h) (eT : T.heap = h) {g : JFrame} (hg : g.method = m) (hsize : g.locals.size = c.maxLocals) {v : Int64} {rest : List Value} (hstack : g.stack = .long v :: .ref a :: rest) (hdg : decode c.code g.pc = .ok (.invokeinterface 53 3, 5)) {W : Nat} (hW : 2 * g.monitorRoom + (rest.map fun v => v.category).sum ≤ W) (hfr : 2 ≤ R.frames) (hlo : W + 27 ≤ R.locals) (hc : cells ≤ R.cells) (hs : slots ≤ R.slots) :
    ∃ T', Stand p l e R s m args below meth c T' locs cells slots ∧ T'.heap = h ∧ ∀ target, Steps p.tables e below (T'.setTop { g with pc := g.pc + 5, stack := .int (1 : Int32) :: rest }) target → Steps p.tables e below (T.setTop g) target := by
  have hcodeT : (Cond.code y11 prog_26_method_9_code 2 (some .boolean)).before args s = true := mvT hZ (ow hw 81 rfl)
  have hfn : Jvm.LamKit.FnAt T.heap a cK := by
    obtain ⟨cell, h1, h2, h3⟩ := HL.2.1
    exact ⟨cell, by rw [eT]; exact O.2.2 _ _ h1, h2, h3⟩
  obtain ⟨w, st, t, T', L, X', hL, e1, e3, hq, st8⟩ := Jvm.LamKit.callLamS X hx (own := "com/example/filters_under_siege/filtersundersiege/KeeperPairs") (host := "com/example/filters_under_siege/filtersundersiege/KeeperPairs") (index := 53) (count := 3) (xi := xi0) (y := y11) (σ := sg0) (own_tgt l v) (fun _ _ _ _ h => h) rfl rfl
    (fun w hw' a' U hU => by rw [List.mem_singleton.mp hw']; exact word_at hU (Or.inl (by first | rfl | simp [Cond.onTables, Cond.keeps, Cond.steady])) hcodeT) (List.mem_singleton.mpr rfl)
    hown (mvT hZ (ow hw 77 rfl)) (mvT hZ (ow hw 78 rfl)) (mvT hZ (ow hw 79 rfl)) hcodeT (mvT hZ (ow hw 80 rfl)) (mvT hZ (ow hw 4 rfl)) (by decide +kernel) (by decide +kernel) (by decide) (own_madeAt hZ HL.1) hfn own_fwd own_f1 own_f4
    (g := g) hg hsize (argsL := [.long v]) (argsT := [.long v]) (rest := rest) (L0 := #[.val (.ref a), .val (.long v), .second])
    (fun sig h => by cases (by decide +kernel : parseMethodDescriptor xi0.desc = some ⟨[.long], some .boolean⟩).symm.trans h; rfl) (fun sig h => by cases (by decide +kernel : parseMethodDescriptor (MethodName.desc y11) = some ⟨[.long], some .boolean⟩).symm.trans h; rfl)
    hstack hdg (fun _ => by first | rfl | (simp [entryFrame, argsToLocals, Value.category]; done)) rfl
    (fun U ck bl target hU hck _ _ k => XS.lloadN hU hx rfl (hb hck own_f0) rfl k)
    (fun st w t h => by obtain ⟨h, -⟩ := h; cases h; exact Or.inl ⟨.boolean, _, rfl, Or.inr (Or.inl rfl), by first | rfl | decide, rfl, rfl⟩) hfr (by show _ + (3 + 11) + ((2 + 11) + 0) ≤ R.locals; omega) hc hs (fun _ _ _ => rfl)
  obtain ⟨hv, hh⟩ := hq
  cases hv
  exact ⟨T', Stand.forget (extra := L) X' (fun q hq => (hL q hq).elim), e1.trans (hh.trans (e3.trans eT)), st8⟩
end
def Wd (Z : State) (w_lam : Addr) (k_lam : ClassId) : Prop :=
  Lm Z w_lam k_lam ∧
  True
variable {w_lam : Addr} {k_lam : ClassId}
theorem pn_0 : plainName "java/lang/Record" = true := by first | (simp [plainName, overriddenIn]; done) | decide +kernel
theorem pn_1 : plainName "java/util/Objects" = true := by first | (simp [plainName, overriddenIn]; done) | decide +kernel
theorem pn_2 : plainName "com/example/filters_under_siege/filtersundersiege/SketchShape" = true := by first | (simp [plainName, overriddenIn]; done) | decide +kernel
theorem pn_3 : plainName "com/example/filters_under_siege/filtersundersiege/KeeperPairs" = true := by first | (simp [plainName, overriddenIn]; done) | decide +kernel
theorem pn_4 : plainName "com/example/filters_under_siege/filtersundersiege/KeeperPairsCountPinLaw" = true := by first | (simp [plainName, overriddenIn]; done) | decide +kernel
theorem pd_0 : parseMethodDescriptor "()V" = some ⟨[], none⟩ := by decide +kernel
theorem pd_1 : parseMethodDescriptor "(Ljava/lang/Object;Ljava/lang/String;)Ljava/lang/Object;" = some ⟨[(.object "java/lang/Object"), (.object "java/lang/String")], some (.object "java/lang/Object")⟩ := by decide +kernel
theorem pd_2 : parseMethodDescriptor "()I" = some ⟨[], some .int⟩ := by decide +kernel
theorem pd_3 : parseMethodDescriptor "(Lcom/example/filters_under_siege/filtersundersiege/SketchShape;Ljava/util/function/LongPredicate;)V" = some ⟨[(.object "com/example/filters_under_siege/filtersundersiege/SketchShape"), (.object "java/util/function/LongPredicate")], none⟩ := by decide +kernel
theorem pd_4 : parseMethodDescriptor "(II)V" = some ⟨[.int, .int], none⟩ := by decide +kernel
theorem pd_5 : parseMethodDescriptor "(Lcom/example/filters_under_siege/filtersundersiege/SketchShape;)V" = some ⟨[(.object "com/example/filters_under_siege/filtersundersiege/SketchShape")], none⟩ := by decide +kernel
theorem pd_6 : parseMethodDescriptor "([II)V" = some ⟨[(.array .int), .int], none⟩ := by decide +kernel
theorem pd_7 : parseMethodDescriptor "(II)J" = some ⟨[.int, .int], some .long⟩ := by decide +kernel

def pI (c i v x : Int32) : Int32 := if c = i then v else x
def pJ (c i : Int32) (v x : Int64) : Int64 := if c = i then v else x
def nc (K : Int64) (F f : Int32) : Int64 := if K = (0 : Int64) then (K + (1 : Int64)) else if F = f then (K + (1 : Int64)) else if (K - (1 : Int64)) = (0 : Int64) then (1 : Int64) else (K - (1 : Int64))
def nf (K : Int64) (F f : Int32) : Int32 := if K = (0 : Int64) then f else if F = f then f else if (K - (1 : Int64)) = (0 : Int64) then f else F
theorem own_ppI {c i a b x : Int32} : pI c i a (pI c i b x) = pI c i a x := by unfold pI; split <;> rfl
theorem own_ppJ {c i : Int32} {a b x : Int64} : pJ c i a (pJ c i b x) = pJ c i a x := by unfold pJ; split <;> rfl
def sI1 (c : Int32) (x0 : Int32) : Int32 := x0
theorem own_spI1 {c : Int32} {v x0 : Int32} (h : c = (0 : Int32)) : sI1 c (pI c (0 : Int32) v x0) = v := by
  rcases h with rfl <;> rfl
theorem own_psI1_0 {c : Int32} {x0 : Int32} (h : c = (0 : Int32)) : pI c (0 : Int32) (sI1 c x0) x0 = x0 := by
  rcases h with rfl <;> rfl
theorem own_gI1_0 {c : Int32} {x0 x1 : Int32} (h : c = (0 : Int32)) : ([(.int x0), (.int x1)] : List Value).getD ((0 : Int32) + c).toNatClampNeg (.int (0 : Int32)) = (.int (sI1 c x0)) := by rcases h with rfl <;> rfl
theorem own_sI1_0 {c : Int32} {v x0 x1 : Int32} (h : c = (0 : Int32)) : ([(.int x0), (.int x1)] : List Value).set ((0 : Int32) + c).toNatClampNeg (.int v) = [(.int (pI c (0 : Int32) v x0)), (.int x1)] := by rcases h with rfl <;> rfl
theorem own_gI1_1 {c : Int32} {x0 x1 : Int32} (h : c = (0 : Int32)) : ([(.int x0), (.int x1)] : List Value).getD ((1 : Int32) + c).toNatClampNeg (.int (0 : Int32)) = (.int (sI1 c x1)) := by rcases h with rfl <;> rfl
theorem own_sI1_1 {c : Int32} {v x0 x1 : Int32} (h : c = (0 : Int32)) : ([(.int x0), (.int x1)] : List Value).set ((1 : Int32) + c).toNatClampNeg (.int v) = [(.int x0), (.int (pI c (0 : Int32) v x1))] := by rcases h with rfl <;> rfl
def sJ1 (c : Int32) (x0 : Int64) : Int64 := x0
theorem own_spJ1 {c : Int32} {v x0 : Int64} (h : c = (0 : Int32)) : sJ1 c (pJ c (0 : Int32) v x0) = v := by
  rcases h with rfl <;> rfl
theorem own_psJ1_0 {c : Int32} {x0 : Int64} (h : c = (0 : Int32)) : pJ c (0 : Int32) (sJ1 c x0) x0 = x0 := by
  rcases h with rfl <;> rfl
theorem own_gJ1_0 {c : Int32} {x0 x1 : Int64} (h : c = (0 : Int32)) : ([(.long x0), (.long x1)] : List Value).getD ((0 : Int32) + c).toNatClampNeg (.long (0 : Int64)) = (.long (sJ1 c x0)) := by rcases h with rfl <;> rfl
theorem own_sJ1_0 {c : Int32} {v x0 x1 : Int64} (h : c = (0 : Int32)) : ([(.long x0), (.long x1)] : List Value).set ((0 : Int32) + c).toNatClampNeg (.long v) = [(.long (pJ c (0 : Int32) v x0)), (.long x1)] := by rcases h with rfl <;> rfl
theorem own_gJ1_1 {c : Int32} {x0 x1 : Int64} (h : c = (0 : Int32)) : ([(.long x0), (.long x1)] : List Value).getD ((1 : Int32) + c).toNatClampNeg (.long (0 : Int64)) = (.long (sJ1 c x1)) := by rcases h with rfl <;> rfl
theorem own_sJ1_1 {c : Int32} {v x0 x1 : Int64} (h : c = (0 : Int32)) : ([(.long x0), (.long x1)] : List Value).set ((1 : Int32) + c).toNatClampNeg (.long v) = [(.long x0), (.long (pJ c (0 : Int32) v x1))] := by rcases h with rfl <;> rfl
theorem own_b1_0 {c : Int32} (h : c = (0 : Int32)) : ¬ ((0 : Int32) + c) < (0 : Int32) ∧ ((0 : Int32) + c) < (2 : Int32) := by rcases h with rfl <;> decide
theorem own_k1_0 {c : Int32} (h : c = (0 : Int32)) : ((0 : Int32) + c).toNatClampNeg < 2 := by rcases h with rfl <;> decide
theorem own_b1_1 {c : Int32} (h : c = (0 : Int32)) : ¬ ((1 : Int32) + c) < (0 : Int32) ∧ ((1 : Int32) + c) < (2 : Int32) := by rcases h with rfl <;> decide
theorem own_k1_1 {c : Int32} (h : c = (0 : Int32)) : ((1 : Int32) + c).toNatClampNeg < 2 := by rcases h with rfl <;> decide
def sI2 (c : Int32) (x0 x1 : Int32) : Int32 := if c = (0 : Int32) then x0 else x1
theorem own_spI2 {c : Int32} {v x0 x1 : Int32} (h : c = (0 : Int32) ∨ c = (1 : Int32)) : sI2 c (pI c (0 : Int32) v x0) (pI c (1 : Int32) v x1) = v := by
  rcases h with rfl | rfl <;> rfl
theorem own_psI2_0 {c : Int32} {x0 x1 : Int32} (h : c = (0 : Int32) ∨ c = (1 : Int32)) : pI c (0 : Int32) (sI2 c x0 x1) x0 = x0 := by
  rcases h with rfl | rfl <;> rfl
theorem own_psI2_1 {c : Int32} {x0 x1 : Int32} (h : c = (0 : Int32) ∨ c = (1 : Int32)) : pI c (1 : Int32) (sI2 c x0 x1) x1 = x1 := by
  rcases h with rfl | rfl <;> rfl
theorem own_gI2_0 {c : Int32} {x0 x1 x2 x3 : Int32} (h : c = (0 : Int32) ∨ c = (1 : Int32)) : ([(.int x0), (.int x1), (.int x2), (.int x3)] : List Value).getD ((0 : Int32) + c).toNatClampNeg (.int (0 : Int32)) = (.int (sI2 c x0 x1)) := by rcases h with rfl | rfl <;> rfl
theorem own_sI2_0 {c : Int32} {v x0 x1 x2 x3 : Int32} (h : c = (0 : Int32) ∨ c = (1 : Int32)) : ([(.int x0), (.int x1), (.int x2), (.int x3)] : List Value).set ((0 : Int32) + c).toNatClampNeg (.int v) = [(.int (pI c (0 : Int32) v x0)), (.int (pI c (1 : Int32) v x1)), (.int x2), (.int x3)] := by rcases h with rfl | rfl <;> rfl
theorem own_gI2_2 {c : Int32} {x0 x1 x2 x3 : Int32} (h : c = (0 : Int32) ∨ c = (1 : Int32)) : ([(.int x0), (.int x1), (.int x2), (.int x3)] : List Value).getD ((2 : Int32) + c).toNatClampNeg (.int (0 : Int32)) = (.int (sI2 c x2 x3)) := by rcases h with rfl | rfl <;> rfl
theorem own_sI2_2 {c : Int32} {v x0 x1 x2 x3 : Int32} (h : c = (0 : Int32) ∨ c = (1 : Int32)) : ([(.int x0), (.int x1), (.int x2), (.int x3)] : List Value).set ((2 : Int32) + c).toNatClampNeg (.int v) = [(.int x0), (.int x1), (.int (pI c (0 : Int32) v x2)), (.int (pI c (1 : Int32) v x3))] := by rcases h with rfl | rfl <;> rfl
def sJ2 (c : Int32) (x0 x1 : Int64) : Int64 := if c = (0 : Int32) then x0 else x1
theorem own_spJ2 {c : Int32} {v x0 x1 : Int64} (h : c = (0 : Int32) ∨ c = (1 : Int32)) : sJ2 c (pJ c (0 : Int32) v x0) (pJ c (1 : Int32) v x1) = v := by
  rcases h with rfl | rfl <;> rfl
theorem own_psJ2_0 {c : Int32} {x0 x1 : Int64} (h : c = (0 : Int32) ∨ c = (1 : Int32)) : pJ c (0 : Int32) (sJ2 c x0 x1) x0 = x0 := by
  rcases h with rfl | rfl <;> rfl
theorem own_psJ2_1 {c : Int32} {x0 x1 : Int64} (h : c = (0 : Int32) ∨ c = (1 : Int32)) : pJ c (1 : Int32) (sJ2 c x0 x1) x1 = x1 := by
  rcases h with rfl | rfl <;> rfl
theorem own_gJ2_0 {c : Int32} {x0 x1 x2 x3 : Int64} (h : c = (0 : Int32) ∨ c = (1 : Int32)) : ([(.long x0), (.long x1), (.long x2), (.long x3)] : List Value).getD ((0 : Int32) + c).toNatClampNeg (.long (0 : Int64)) = (.long (sJ2 c x0 x1)) := by rcases h with rfl | rfl <;> rfl
theorem own_sJ2_0 {c : Int32} {v x0 x1 x2 x3 : Int64} (h : c = (0 : Int32) ∨ c = (1 : Int32)) : ([(.long x0), (.long x1), (.long x2), (.long x3)] : List Value).set ((0 : Int32) + c).toNatClampNeg (.long v) = [(.long (pJ c (0 : Int32) v x0)), (.long (pJ c (1 : Int32) v x1)), (.long x2), (.long x3)] := by rcases h with rfl | rfl <;> rfl
theorem own_gJ2_2 {c : Int32} {x0 x1 x2 x3 : Int64} (h : c = (0 : Int32) ∨ c = (1 : Int32)) : ([(.long x0), (.long x1), (.long x2), (.long x3)] : List Value).getD ((2 : Int32) + c).toNatClampNeg (.long (0 : Int64)) = (.long (sJ2 c x2 x3)) := by rcases h with rfl | rfl <;> rfl
theorem own_sJ2_2 {c : Int32} {v x0 x1 x2 x3 : Int64} (h : c = (0 : Int32) ∨ c = (1 : Int32)) : ([(.long x0), (.long x1), (.long x2), (.long x3)] : List Value).set ((2 : Int32) + c).toNatClampNeg (.long v) = [(.long x0), (.long x1), (.long (pJ c (0 : Int32) v x2)), (.long (pJ c (1 : Int32) v x3))] := by rcases h with rfl | rfl <;> rfl
theorem own_b2_0 {c : Int32} (h : c = (0 : Int32) ∨ c = (1 : Int32)) : ¬ ((0 : Int32) + c) < (0 : Int32) ∧ ((0 : Int32) + c) < (4 : Int32) := by rcases h with rfl | rfl <;> decide
theorem own_k2_0 {c : Int32} (h : c = (0 : Int32) ∨ c = (1 : Int32)) : ((0 : Int32) + c).toNatClampNeg < 4 := by rcases h with rfl | rfl <;> decide
theorem own_b2_2 {c : Int32} (h : c = (0 : Int32) ∨ c = (1 : Int32)) : ¬ ((2 : Int32) + c) < (0 : Int32) ∧ ((2 : Int32) + c) < (4 : Int32) := by rcases h with rfl | rfl <;> decide
theorem own_k2_2 {c : Int32} (h : c = (0 : Int32) ∨ c = (1 : Int32)) : ((2 : Int32) + c).toNatClampNeg < 4 := by rcases h with rfl | rfl <;> decide
def sI3 (c : Int32) (x0 x1 x2 : Int32) : Int32 := if c = (0 : Int32) then x0 else if c = (1 : Int32) then x1 else x2
theorem own_spI3 {c : Int32} {v x0 x1 x2 : Int32} (h : c = (0 : Int32) ∨ c = (1 : Int32) ∨ c = (2 : Int32)) : sI3 c (pI c (0 : Int32) v x0) (pI c (1 : Int32) v x1) (pI c (2 : Int32) v x2) = v := by
  rcases h with rfl | rfl | rfl <;> rfl
theorem own_psI3_0 {c : Int32} {x0 x1 x2 : Int32} (h : c = (0 : Int32) ∨ c = (1 : Int32) ∨ c = (2 : Int32)) : pI c (0 : Int32) (sI3 c x0 x1 x2) x0 = x0 := by
  rcases h with rfl | rfl | rfl <;> rfl
theorem own_psI3_1 {c : Int32} {x0 x1 x2 : Int32} (h : c = (0 : Int32) ∨ c = (1 : Int32) ∨ c = (2 : Int32)) : pI c (1 : Int32) (sI3 c x0 x1 x2) x1 = x1 := by
  rcases h with rfl | rfl | rfl <;> rfl
theorem own_psI3_2 {c : Int32} {x0 x1 x2 : Int32} (h : c = (0 : Int32) ∨ c = (1 : Int32) ∨ c = (2 : Int32)) : pI c (2 : Int32) (sI3 c x0 x1 x2) x2 = x2 := by
  rcases h with rfl | rfl | rfl <;> rfl
theorem own_gI3_0 {c : Int32} {x0 x1 x2 x3 x4 x5 : Int32} (h : c = (0 : Int32) ∨ c = (1 : Int32) ∨ c = (2 : Int32)) : ([(.int x0), (.int x1), (.int x2), (.int x3), (.int x4), (.int x5)] : List Value).getD ((0 : Int32) + c).toNatClampNeg (.int (0 : Int32)) = (.int (sI3 c x0 x1 x2)) := by rcases h with rfl | rfl | rfl <;> rfl
theorem own_sI3_0 {c : Int32} {v x0 x1 x2 x3 x4 x5 : Int32} (h : c = (0 : Int32) ∨ c = (1 : Int32) ∨ c = (2 : Int32)) : ([(.int x0), (.int x1), (.int x2), (.int x3), (.int x4), (.int x5)] : List Value).set ((0 : Int32) + c).toNatClampNeg (.int v) = [(.int (pI c (0 : Int32) v x0)), (.int (pI c (1 : Int32) v x1)), (.int (pI c (2 : Int32) v x2)), (.int x3), (.int x4), (.int x5)] := by rcases h with rfl | rfl | rfl <;> rfl
theorem own_gI3_3 {c : Int32} {x0 x1 x2 x3 x4 x5 : Int32} (h : c = (0 : Int32) ∨ c = (1 : Int32) ∨ c = (2 : Int32)) : ([(.int x0), (.int x1), (.int x2), (.int x3), (.int x4), (.int x5)] : List Value).getD ((3 : Int32) + c).toNatClampNeg (.int (0 : Int32)) = (.int (sI3 c x3 x4 x5)) := by rcases h with rfl | rfl | rfl <;> rfl
theorem own_sI3_3 {c : Int32} {v x0 x1 x2 x3 x4 x5 : Int32} (h : c = (0 : Int32) ∨ c = (1 : Int32) ∨ c = (2 : Int32)) : ([(.int x0), (.int x1), (.int x2), (.int x3), (.int x4), (.int x5)] : List Value).set ((3 : Int32) + c).toNatClampNeg (.int v) = [(.int x0), (.int x1), (.int x2), (.int (pI c (0 : Int32) v x3)), (.int (pI c (1 : Int32) v x4)), (.int (pI c (2 : Int32) v x5))] := by rcases h with rfl | rfl | rfl <;> rfl
def sJ3 (c : Int32) (x0 x1 x2 : Int64) : Int64 := if c = (0 : Int32) then x0 else if c = (1 : Int32) then x1 else x2
theorem own_spJ3 {c : Int32} {v x0 x1 x2 : Int64} (h : c = (0 : Int32) ∨ c = (1 : Int32) ∨ c = (2 : Int32)) : sJ3 c (pJ c (0 : Int32) v x0) (pJ c (1 : Int32) v x1) (pJ c (2 : Int32) v x2) = v := by
  rcases h with rfl | rfl | rfl <;> rfl
theorem own_psJ3_0 {c : Int32} {x0 x1 x2 : Int64} (h : c = (0 : Int32) ∨ c = (1 : Int32) ∨ c = (2 : Int32)) : pJ c (0 : Int32) (sJ3 c x0 x1 x2) x0 = x0 := by
  rcases h with rfl | rfl | rfl <;> rfl
theorem own_psJ3_1 {c : Int32} {x0 x1 x2 : Int64} (h : c = (0 : Int32) ∨ c = (1 : Int32) ∨ c = (2 : Int32)) : pJ c (1 : Int32) (sJ3 c x0 x1 x2) x1 = x1 := by
  rcases h with rfl | rfl | rfl <;> rfl
theorem own_psJ3_2 {c : Int32} {x0 x1 x2 : Int64} (h : c = (0 : Int32) ∨ c = (1 : Int32) ∨ c = (2 : Int32)) : pJ c (2 : Int32) (sJ3 c x0 x1 x2) x2 = x2 := by
  rcases h with rfl | rfl | rfl <;> rfl
theorem own_gJ3_0 {c : Int32} {x0 x1 x2 x3 x4 x5 : Int64} (h : c = (0 : Int32) ∨ c = (1 : Int32) ∨ c = (2 : Int32)) : ([(.long x0), (.long x1), (.long x2), (.long x3), (.long x4), (.long x5)] : List Value).getD ((0 : Int32) + c).toNatClampNeg (.long (0 : Int64)) = (.long (sJ3 c x0 x1 x2)) := by rcases h with rfl | rfl | rfl <;> rfl
theorem own_sJ3_0 {c : Int32} {v x0 x1 x2 x3 x4 x5 : Int64} (h : c = (0 : Int32) ∨ c = (1 : Int32) ∨ c = (2 : Int32)) : ([(.long x0), (.long x1), (.long x2), (.long x3), (.long x4), (.long x5)] : List Value).set ((0 : Int32) + c).toNatClampNeg (.long v) = [(.long (pJ c (0 : Int32) v x0)), (.long (pJ c (1 : Int32) v x1)), (.long (pJ c (2 : Int32) v x2)), (.long x3), (.long x4), (.long x5)] := by rcases h with rfl | rfl | rfl <;> rfl
theorem own_gJ3_3 {c : Int32} {x0 x1 x2 x3 x4 x5 : Int64} (h : c = (0 : Int32) ∨ c = (1 : Int32) ∨ c = (2 : Int32)) : ([(.long x0), (.long x1), (.long x2), (.long x3), (.long x4), (.long x5)] : List Value).getD ((3 : Int32) + c).toNatClampNeg (.long (0 : Int64)) = (.long (sJ3 c x3 x4 x5)) := by rcases h with rfl | rfl | rfl <;> rfl
theorem own_sJ3_3 {c : Int32} {v x0 x1 x2 x3 x4 x5 : Int64} (h : c = (0 : Int32) ∨ c = (1 : Int32) ∨ c = (2 : Int32)) : ([(.long x0), (.long x1), (.long x2), (.long x3), (.long x4), (.long x5)] : List Value).set ((3 : Int32) + c).toNatClampNeg (.long v) = [(.long x0), (.long x1), (.long x2), (.long (pJ c (0 : Int32) v x3)), (.long (pJ c (1 : Int32) v x4)), (.long (pJ c (2 : Int32) v x5))] := by rcases h with rfl | rfl | rfl <;> rfl
theorem own_b3_0 {c : Int32} (h : c = (0 : Int32) ∨ c = (1 : Int32) ∨ c = (2 : Int32)) : ¬ ((0 : Int32) + c) < (0 : Int32) ∧ ((0 : Int32) + c) < (6 : Int32) := by rcases h with rfl | rfl | rfl <;> decide
theorem own_k3_0 {c : Int32} (h : c = (0 : Int32) ∨ c = (1 : Int32) ∨ c = (2 : Int32)) : ((0 : Int32) + c).toNatClampNeg < 6 := by rcases h with rfl | rfl | rfl <;> decide
theorem own_b3_3 {c : Int32} (h : c = (0 : Int32) ∨ c = (1 : Int32) ∨ c = (2 : Int32)) : ¬ ((3 : Int32) + c) < (0 : Int32) ∧ ((3 : Int32) + c) < (6 : Int32) := by rcases h with rfl | rfl | rfl <;> decide
theorem own_k3_3 {c : Int32} (h : c = (0 : Int32) ∨ c = (1 : Int32) ∨ c = (2 : Int32)) : ((3 : Int32) + c).toNatClampNeg < 6 := by rcases h with rfl | rfl | rfl <;> decide
def sI4 (c : Int32) (x0 x1 x2 x3 : Int32) : Int32 := if c = (0 : Int32) then x0 else if c = (1 : Int32) then x1 else if c = (2 : Int32) then x2 else x3
theorem own_spI4 {c : Int32} {v x0 x1 x2 x3 : Int32} (h : c = (0 : Int32) ∨ c = (1 : Int32) ∨ c = (2 : Int32) ∨ c = (3 : Int32)) : sI4 c (pI c (0 : Int32) v x0) (pI c (1 : Int32) v x1) (pI c (2 : Int32) v x2) (pI c (3 : Int32) v x3) = v := by
  rcases h with rfl | rfl | rfl | rfl <;> rfl
theorem own_psI4_0 {c : Int32} {x0 x1 x2 x3 : Int32} (h : c = (0 : Int32) ∨ c = (1 : Int32) ∨ c = (2 : Int32) ∨ c = (3 : Int32)) : pI c (0 : Int32) (sI4 c x0 x1 x2 x3) x0 = x0 := by
  rcases h with rfl | rfl | rfl | rfl <;> rfl
theorem own_psI4_1 {c : Int32} {x0 x1 x2 x3 : Int32} (h : c = (0 : Int32) ∨ c = (1 : Int32) ∨ c = (2 : Int32) ∨ c = (3 : Int32)) : pI c (1 : Int32) (sI4 c x0 x1 x2 x3) x1 = x1 := by
  rcases h with rfl | rfl | rfl | rfl <;> rfl
theorem own_psI4_2 {c : Int32} {x0 x1 x2 x3 : Int32} (h : c = (0 : Int32) ∨ c = (1 : Int32) ∨ c = (2 : Int32) ∨ c = (3 : Int32)) : pI c (2 : Int32) (sI4 c x0 x1 x2 x3) x2 = x2 := by
  rcases h with rfl | rfl | rfl | rfl <;> rfl
theorem own_psI4_3 {c : Int32} {x0 x1 x2 x3 : Int32} (h : c = (0 : Int32) ∨ c = (1 : Int32) ∨ c = (2 : Int32) ∨ c = (3 : Int32)) : pI c (3 : Int32) (sI4 c x0 x1 x2 x3) x3 = x3 := by
  rcases h with rfl | rfl | rfl | rfl <;> rfl
theorem own_gI4_0 {c : Int32} {x0 x1 x2 x3 x4 x5 x6 x7 : Int32} (h : c = (0 : Int32) ∨ c = (1 : Int32) ∨ c = (2 : Int32) ∨ c = (3 : Int32)) : ([(.int x0), (.int x1), (.int x2), (.int x3), (.int x4), (.int x5), (.int x6), (.int x7)] : List Value).getD ((0 : Int32) + c).toNatClampNeg (.int (0 : Int32)) = (.int (sI4 c x0 x1 x2 x3)) := by rcases h with rfl | rfl | rfl | rfl <;> rfl
theorem own_sI4_0 {c : Int32} {v x0 x1 x2 x3 x4 x5 x6 x7 : Int32} (h : c = (0 : Int32) ∨ c = (1 : Int32) ∨ c = (2 : Int32) ∨ c = (3 : Int32)) : ([(.int x0), (.int x1), (.int x2), (.int x3), (.int x4), (.int x5), (.int x6), (.int x7)] : List Value).set ((0 : Int32) + c).toNatClampNeg (.int v) = [(.int (pI c (0 : Int32) v x0)), (.int (pI c (1 : Int32) v x1)), (.int (pI c (2 : Int32) v x2)), (.int (pI c (3 : Int32) v x3)), (.int x4), (.int x5), (.int x6), (.int x7)] := by rcases h with rfl | rfl | rfl | rfl <;> rfl
theorem own_gI4_4 {c : Int32} {x0 x1 x2 x3 x4 x5 x6 x7 : Int32} (h : c = (0 : Int32) ∨ c = (1 : Int32) ∨ c = (2 : Int32) ∨ c = (3 : Int32)) : ([(.int x0), (.int x1), (.int x2), (.int x3), (.int x4), (.int x5), (.int x6), (.int x7)] : List Value).getD ((4 : Int32) + c).toNatClampNeg (.int (0 : Int32)) = (.int (sI4 c x4 x5 x6 x7)) := by rcases h with rfl | rfl | rfl | rfl <;> rfl
theorem own_sI4_4 {c : Int32} {v x0 x1 x2 x3 x4 x5 x6 x7 : Int32} (h : c = (0 : Int32) ∨ c = (1 : Int32) ∨ c = (2 : Int32) ∨ c = (3 : Int32)) : ([(.int x0), (.int x1), (.int x2), (.int x3), (.int x4), (.int x5), (.int x6), (.int x7)] : List Value).set ((4 : Int32) + c).toNatClampNeg (.int v) = [(.int x0), (.int x1), (.int x2), (.int x3), (.int (pI c (0 : Int32) v x4)), (.int (pI c (1 : Int32) v x5)), (.int (pI c (2 : Int32) v x6)), (.int (pI c (3 : Int32) v x7))] := by rcases h with rfl | rfl | rfl | rfl <;> rfl
def sJ4 (c : Int32) (x0 x1 x2 x3 : Int64) : Int64 := if c = (0 : Int32) then x0 else if c = (1 : Int32) then x1 else if c = (2 : Int32) then x2 else x3
theorem own_spJ4 {c : Int32} {v x0 x1 x2 x3 : Int64} (h : c = (0 : Int32) ∨ c = (1 : Int32) ∨ c = (2 : Int32) ∨ c = (3 : Int32)) : sJ4 c (pJ c (0 : Int32) v x0) (pJ c (1 : Int32) v x1) (pJ c (2 : Int32) v x2) (pJ c (3 : Int32) v x3) = v := by
  rcases h with rfl | rfl | rfl | rfl <;> rfl
theorem own_psJ4_0 {c : Int32} {x0 x1 x2 x3 : Int64} (h : c = (0 : Int32) ∨ c = (1 : Int32) ∨ c = (2 : Int32) ∨ c = (3 : Int32)) : pJ c (0 : Int32) (sJ4 c x0 x1 x2 x3) x0 = x0 := by
  rcases h with rfl | rfl | rfl | rfl <;> rfl
theorem own_psJ4_1 {c : Int32} {x0 x1 x2 x3 : Int64} (h : c = (0 : Int32) ∨ c = (1 : Int32) ∨ c = (2 : Int32) ∨ c = (3 : Int32)) : pJ c (1 : Int32) (sJ4 c x0 x1 x2 x3) x1 = x1 := by
  rcases h with rfl | rfl | rfl | rfl <;> rfl
theorem own_psJ4_2 {c : Int32} {x0 x1 x2 x3 : Int64} (h : c = (0 : Int32) ∨ c = (1 : Int32) ∨ c = (2 : Int32) ∨ c = (3 : Int32)) : pJ c (2 : Int32) (sJ4 c x0 x1 x2 x3) x2 = x2 := by
  rcases h with rfl | rfl | rfl | rfl <;> rfl
theorem own_psJ4_3 {c : Int32} {x0 x1 x2 x3 : Int64} (h : c = (0 : Int32) ∨ c = (1 : Int32) ∨ c = (2 : Int32) ∨ c = (3 : Int32)) : pJ c (3 : Int32) (sJ4 c x0 x1 x2 x3) x3 = x3 := by
  rcases h with rfl | rfl | rfl | rfl <;> rfl
theorem own_gJ4_0 {c : Int32} {x0 x1 x2 x3 x4 x5 x6 x7 : Int64} (h : c = (0 : Int32) ∨ c = (1 : Int32) ∨ c = (2 : Int32) ∨ c = (3 : Int32)) : ([(.long x0), (.long x1), (.long x2), (.long x3), (.long x4), (.long x5), (.long x6), (.long x7)] : List Value).getD ((0 : Int32) + c).toNatClampNeg (.long (0 : Int64)) = (.long (sJ4 c x0 x1 x2 x3)) := by rcases h with rfl | rfl | rfl | rfl <;> rfl
theorem own_sJ4_0 {c : Int32} {v x0 x1 x2 x3 x4 x5 x6 x7 : Int64} (h : c = (0 : Int32) ∨ c = (1 : Int32) ∨ c = (2 : Int32) ∨ c = (3 : Int32)) : ([(.long x0), (.long x1), (.long x2), (.long x3), (.long x4), (.long x5), (.long x6), (.long x7)] : List Value).set ((0 : Int32) + c).toNatClampNeg (.long v) = [(.long (pJ c (0 : Int32) v x0)), (.long (pJ c (1 : Int32) v x1)), (.long (pJ c (2 : Int32) v x2)), (.long (pJ c (3 : Int32) v x3)), (.long x4), (.long x5), (.long x6), (.long x7)] := by rcases h with rfl | rfl | rfl | rfl <;> rfl
theorem own_gJ4_4 {c : Int32} {x0 x1 x2 x3 x4 x5 x6 x7 : Int64} (h : c = (0 : Int32) ∨ c = (1 : Int32) ∨ c = (2 : Int32) ∨ c = (3 : Int32)) : ([(.long x0), (.long x1), (.long x2), (.long x3), (.long x4), (.long x5), (.long x6), (.long x7)] : List Value).getD ((4 : Int32) + c).toNatClampNeg (.long (0 : Int64)) = (.long (sJ4 c x4 x5 x6 x7)) := by rcases h with rfl | rfl | rfl | rfl <;> rfl
theorem own_sJ4_4 {c : Int32} {v x0 x1 x2 x3 x4 x5 x6 x7 : Int64} (h : c = (0 : Int32) ∨ c = (1 : Int32) ∨ c = (2 : Int32) ∨ c = (3 : Int32)) : ([(.long x0), (.long x1), (.long x2), (.long x3), (.long x4), (.long x5), (.long x6), (.long x7)] : List Value).set ((4 : Int32) + c).toNatClampNeg (.long v) = [(.long x0), (.long x1), (.long x2), (.long x3), (.long (pJ c (0 : Int32) v x4)), (.long (pJ c (1 : Int32) v x5)), (.long (pJ c (2 : Int32) v x6)), (.long (pJ c (3 : Int32) v x7))] := by rcases h with rfl | rfl | rfl | rfl <;> rfl
theorem own_b4_0 {c : Int32} (h : c = (0 : Int32) ∨ c = (1 : Int32) ∨ c = (2 : Int32) ∨ c = (3 : Int32)) : ¬ ((0 : Int32) + c) < (0 : Int32) ∧ ((0 : Int32) + c) < (8 : Int32) := by rcases h with rfl | rfl | rfl | rfl <;> decide
theorem own_k4_0 {c : Int32} (h : c = (0 : Int32) ∨ c = (1 : Int32) ∨ c = (2 : Int32) ∨ c = (3 : Int32)) : ((0 : Int32) + c).toNatClampNeg < 8 := by rcases h with rfl | rfl | rfl | rfl <;> decide
theorem own_b4_4 {c : Int32} (h : c = (0 : Int32) ∨ c = (1 : Int32) ∨ c = (2 : Int32) ∨ c = (3 : Int32)) : ¬ ((4 : Int32) + c) < (0 : Int32) ∧ ((4 : Int32) + c) < (8 : Int32) := by rcases h with rfl | rfl | rfl | rfl <;> decide
theorem own_k4_4 {c : Int32} (h : c = (0 : Int32) ∨ c = (1 : Int32) ∨ c = (2 : Int32) ∨ c = (3 : Int32)) : ((4 : Int32) + c).toNatClampNeg < 8 := by rcases h with rfl | rfl | rfl | rfl <;> decide

theorem d2_0 : decode jdk_30_method_1_code 0 = .ok (.aload_n 0, 1) := by decide +kernel
theorem d2_1 : decode jdk_30_method_1_code 1 = .ok (.invokespecial 1, 3) := by decide +kernel
theorem d2_4 : decode jdk_30_method_1_code 4 = .ok (.return_, 1) := by decide +kernel
theorem ef_2 (m : MethodId) (a0 : Addr) : entryFrame m #[(.ref a0)] 1 = mkF m 0 #[rv a0] [] := by first | (simp [entryFrame, mkF, argsToLocals, Value.category]; done) | rfl
def Q2 (Z : State) (a0 : Addr) (h0 : Heap) (n0 : Nat) (v : Option Value) (h : Heap) (L : List Loc) : Prop := v = none ∧ Fr n0 L ∧ h = h0
abbrev R2 : Room := ({ frames := 1, cells := 0, slots := 0, locals := 12 } : Room)
set_option maxRecDepth 65536 in
set_option maxHeartbeats 40000000 in
theorem rm2 (l : Launch) (Z : State) (ar : Array Value) (hw : ∀ d ∈ tables_1, d.before ar Z = true) (ws : List Jvm.Cond) (a0 : Addr) (h0 : Heap) (n0 : Nat) (O0 : Old Z n0 h0) :
    MetFree l y2 (head1 (Jvm.Cond.code y2 jdk_30_method_1_code 1 none :: ws) R2) (fun a U => a = #[(.ref a0)] ∧ Z.Warmed39 U.vm ∧ U.heap = h0) (fun _ _ _ _ _ => True) (fun _ U o U' => ∃ v L, o = .returned v ∧ Q2 Z a0 h0 n0 v U'.heap L ∧ FrameEnd U o U' L R2.cells R2.slots) := by
 refine MetFree.of_bodySF (plainFor_of_name pn_0) hisR ?_
 intro p e s m args below meth c s₁ Bd hml0 hP hK
 obtain ⟨rfl, hZ, hh⟩ := hP
 have hx := Bd.exec
 have hby := Bd.bytes
 have hml : c.maxLocals = 1 := hml0
 have hown : s.vm.findClass "java/lang/Record" = some m.cls := findClass_of_methodNamed Bd.named
 have hnm := (name_of_methodNamed Bd.named Bd.method).1
 have hlk : meth.locks = false := by first | assumption | exact BodyLoose.notSynchronized (by assumption) | exact Body.notSynchronized (by assumption)
 have X0 : Stand p l e R2 s m #[(.ref a0)] below meth c s₁ [] 0 0 := Stand.of_body Bd
 have e0 : s₁.heap = h0 := by rw [← hh, Bd.state]; rfl
 have N0 := Fr.nil n0
 have Z0 : n0 ≤ h0.size := Nat.le_trans (Nat.le_of_eq O0.1.symm) O0.2.1
 obtain ⟨S0, hS0⟩ : ∃ z, z = s₁.setTop (entryFrame m #[(.ref a0)] 1) := ⟨_, rfl⟩
 have pre0 : ∀ tg, AT p e below s₁ m 0 #[rv a0] [] tg → Steps p.tables e below S0 tg := fun tg kg => by rw [hS0]; exact castTop (ef_2 m a0) kg
 obtain ⟨T1, X1, e1, st1⟩ := initO X0 hx hZ hown (ow hw 16 rfl) (ow hw 17 rfl) (ow hw 18 rfl) e0 (g := (mkF m 1 #[rv a0] [(.ref a0)])) rfl (by rw [hml]; rfl) rfl (hb hby d2_1) (by decide) (W := 0) (by show 2 * 0 + _ ≤ _; exact Nat.le_of_eq rfl) (by decide)
 obtain ⟨fs, hr, hrun, hended, hW, hsame⟩ := X1.leave (v := none) (fun _ => rfl) hlk
 subst hS0
 refine ⟨_, _, pre0 _ ?_, hrun, hended, _, _, rfl, ?_, ⟨_, rfl⟩, hW, hsame.mono (by decide) (by decide)⟩
 ·
  refine XS.aloadN X0.here hx rfl (hb hby d2_0) rfl rfl ?_
  refine st1 _ ?_
  exact X1.returnOut hx Bd.returns (hb hby d2_4) hr
 ·
  show Q2 Z a0 h0 n0 _ T1.heap _
  rw [e1]
  exact ⟨rfl, N0, rfl⟩

theorem d6_0 : decode jdk_31_method_11_code 0 = .ok (.aload_n 0, 1) := by decide +kernel
theorem d6_1 : decode jdk_31_method_11_code 1 = .ok (.ifnonnull 12, 3) := by decide +kernel
theorem d6_13 : decode jdk_31_method_11_code 13 = .ok (.aload_n 0, 1) := by decide +kernel
theorem d6_14 : decode jdk_31_method_11_code 14 = .ok (.areturn, 1) := by decide +kernel
theorem ef_6 (m : MethodId) (a0 : Addr) (a1 : Addr) : entryFrame m #[(.ref a0), (.ref a1)] 2 = mkF m 0 #[rv a0, rv a1] [] := by first | (simp [entryFrame, mkF, argsToLocals, Value.category]; done) | rfl
def Q6 (Z : State) (a0 : Addr) (a1 : Addr) (h0 : Heap) (n0 : Nat) (v : Option Value) (h : Heap) (L : List Loc) : Prop := v = some (.ref a0) ∧ Fr n0 L ∧ h = h0
abbrev R6 : Room := ({ frames := 0, cells := 0, slots := 0, locals := 0 } : Room)
set_option maxRecDepth 65536 in
set_option maxHeartbeats 40000000 in
theorem rm6 (l : Launch) (Z : State) (ar : Array Value) (hw : ∀ d ∈ tables_1, d.before ar Z = true) (ws : List Jvm.Cond) (a0 : Addr) (a1 : Addr) (h0 : Heap) (n0 : Nat) (O0 : Old Z n0 h0) :
    MetFree l y6 (head1 (Jvm.Cond.code y6 jdk_31_method_11_code 2 (some (.object "java/lang/Object")) :: ws) R6) (fun a U => a = #[(.ref a0), (.ref a1)] ∧ Z.Warmed39 U.vm ∧ U.heap = h0) (fun _ _ _ _ _ => True) (fun _ U o U' => ∃ v L, o = .returned v ∧ Q6 Z a0 a1 h0 n0 v U'.heap L ∧ FrameEnd U o U' L R6.cells R6.slots) := by
 refine MetFree.of_bodySF (plainFor_of_name pn_1) hisR ?_
 intro p e s m args below meth c s₁ Bd hml0 hP hK
 obtain ⟨rfl, hZ, hh⟩ := hP
 have hx := Bd.exec
 have hby := Bd.bytes
 have hml : c.maxLocals = 2 := hml0
 have hown : s.vm.findClass "java/util/Objects" = some m.cls := findClass_of_methodNamed Bd.named
 have hnm := (name_of_methodNamed Bd.named Bd.method).1
 have hlk : meth.locks = false := by first | assumption | exact BodyLoose.notSynchronized (by assumption) | exact Body.notSynchronized (by assumption)
 have X0 : Stand p l e R6 s m #[(.ref a0), (.ref a1)] below meth c s₁ [] 0 0 := Stand.of_body Bd
 have e0 : s₁.heap = h0 := by rw [← hh, Bd.state]; rfl
 have N0 := Fr.nil n0
 have Z0 : n0 ≤ h0.size := Nat.le_trans (Nat.le_of_eq O0.1.symm) O0.2.1
 obtain ⟨S0, hS0⟩ : ∃ z, z = s₁.setTop (entryFrame m #[(.ref a0), (.ref a1)] 2) := ⟨_, rfl⟩
 have pre0 : ∀ tg, AT p e below s₁ m 0 #[rv a0, rv a1] [] tg → Steps p.tables e below S0 tg := fun tg kg => by rw [hS0]; exact castTop (ef_6 m a0 a1) kg
 obtain ⟨fs, hr, hrun, hended, hW, hsame⟩ := X0.leave (v := some (.ref a0)) (fun h => by rw [Bd.returns] at h; cases h) hlk
 subst hS0
 refine ⟨_, _, pre0 _ ?_, hrun, hended, _, _, rfl, ?_, ⟨_, rfl⟩, hW, hsame.mono (by decide) (by decide)⟩
 ·
  refine XS.aloadN X0.here hx rfl (hb hby d6_0) rfl rfl ?_
  show AT p e below s₁ m 1 #[rv a0, rv a1] [(.ref a0)] _
  refine XS.ifnonnullYes X0.here hx rfl (pc0 := 1) (pc' := 13) rfl (hb hby d6_1) rfl (by decide) (by decide) ?_
  refine XS.aloadN X0.here hx rfl (hb hby d6_13) rfl rfl ?_
  exact retOut X0 hx (t := (.object "java/lang/Object")) (i := .areturn) Bd.returns rfl (Or.inr (Or.inr (Or.inr (Or.inr ⟨rfl, rfl, rfl⟩)))) (hb hby d6_14) hr
 ·
  show Q6 Z a0 a1 h0 n0 _ s₁.heap _
  rw [e0]
  exact ⟨rfl, N0, rfl⟩

theorem d9_0 : decode prog_39_method_7_code 0 = .ok (.aload_n 0, 1) := by decide +kernel
theorem d9_1 : decode prog_39_method_7_code 1 = .ok (.getfield 28, 3) := by decide +kernel
theorem d9_4 : decode prog_39_method_7_code 4 = .ok (.ireturn, 1) := by decide +kernel
theorem ef_9 (m : MethodId) (a0 : Addr) : entryFrame m #[(.ref a0)] 1 = mkF m 0 #[rv a0] [] := by first | (simp [entryFrame, mkF, argsToLocals, Value.category]; done) | rfl
def Q9 (Z : State) (a0 : Addr) (wv : Int32) (h0 : Heap) (n0 : Nat) (v : Option Value) (h : Heap) (L : List Loc) : Prop := v = some (.int wv) ∧ Fr n0 L ∧ h = h0
abbrev R9 : Room := ({ frames := 0, cells := 0, slots := 0, locals := 0 } : Room)
set_option maxRecDepth 65536 in
set_option maxHeartbeats 40000000 in
theorem rm9 (l : Launch) (Z : State) (ar : Array Value) (hw : ∀ d ∈ tables_1, d.before ar Z = true) (ws : List Jvm.Cond) (a0 : Addr) (wv : Int32) (h0 : Heap) (n0 : Nat) (O0 : Old Z n0 h0) (pf0 : Fld Z h0 a0 "com/example/filters_under_siege/filtersundersiege/SketchShape" "width" "I" (.int wv)) :
    MetFree l y9 (head1 (Jvm.Cond.code y9 prog_39_method_7_code 1 (some .int) :: ws) R9) (fun a U => a = #[(.ref a0)] ∧ Z.Warmed39 U.vm ∧ U.heap = h0) (fun _ _ _ _ _ => True) (fun _ U o U' => ∃ v L, o = .returned v ∧ Q9 Z a0 wv h0 n0 v U'.heap L ∧ FrameEnd U o U' L R9.cells R9.slots) := by
 refine MetFree.of_bodySF (plainFor_of_name pn_2) hisR ?_
 intro p e s m args below meth c s₁ Bd hml0 hP hK
 obtain ⟨rfl, hZ, hh⟩ := hP
 have hx := Bd.exec
 have hby := Bd.bytes
 have hml : c.maxLocals = 1 := hml0
 have hown : s.vm.findClass "com/example/filters_under_siege/filtersundersiege/SketchShape" = some m.cls := findClass_of_methodNamed Bd.named
 have hnm := (name_of_methodNamed Bd.named Bd.method).1
 have hlk : meth.locks = false := by first | assumption | exact BodyLoose.notSynchronized (by assumption) | exact Body.notSynchronized (by assumption)
 have X0 : Stand p l e R9 s m #[(.ref a0)] below meth c s₁ [] 0 0 := Stand.of_body Bd
 have e0 : s₁.heap = h0 := by rw [← hh, Bd.state]; rfl
 have N0 := Fr.nil n0
 have Z0 : n0 ≤ h0.size := Nat.le_trans (Nat.le_of_eq O0.1.symm) O0.2.1
 obtain ⟨S0, hS0⟩ : ∃ z, z = s₁.setTop (entryFrame m #[(.ref a0)] 1) := ⟨_, rfl⟩
 have pre0 : ∀ tg, AT p e below s₁ m 0 #[rv a0] [] tg → Steps p.tables e below S0 tg := fun tg kg => by rw [hS0]; exact castTop (ef_9 m a0) kg
 obtain ⟨T1, X1, e1, st1⟩ := getF X0 hx hZ hown (host := "") (Or.inl (ow hw 22 rfl)) Via.refl e0 pf0 (g := (mkF m 1 #[rv a0] [(.ref a0)])) rfl rfl (hb hby d9_1)
 obtain ⟨fs, hr, hrun, hended, hW, hsame⟩ := X1.leave (v := some (.int wv)) (fun h => by rw [Bd.returns] at h; cases h) hlk
 subst hS0
 refine ⟨_, _, pre0 _ ?_, hrun, hended, _, _, rfl, ?_, ⟨_, rfl⟩, hW, hsame.mono (by decide) (by decide)⟩
 ·
  refine XS.aloadN X0.here hx rfl (hb hby d9_0) rfl rfl ?_
  refine st1 _ ?_
  exact retOut X1 hx (t := .int) (i := .ireturn) Bd.returns rfl (Or.inl ⟨rfl, Or.inl rfl, _, rfl⟩) (hb hby d9_4) hr
 ·
  show Q9 Z a0 wv h0 n0 _ T1.heap _
  rw [e1]
  exact ⟨rfl, N0, rfl⟩

theorem d1_0 : decode prog_39_method_1_code 0 = .ok (.aload_n 0, 1) := by decide +kernel
theorem d1_1 : decode prog_39_method_1_code 1 = .ok (.invokespecial 1, 3) := by decide +kernel
theorem d1_4 : decode prog_39_method_1_code 4 = .ok (.iload_n 1, 1) := by decide +kernel
theorem d1_5 : decode prog_39_method_1_code 5 = .ok (.iconst 1, 1) := by decide +kernel
theorem d1_6 : decode prog_39_method_1_code 6 = .ok (.if_icmp .ge 17, 3) := by decide +kernel
theorem d1_23 : decode prog_39_method_1_code 23 = .ok (.iload_n 2, 1) := by decide +kernel
theorem d1_24 : decode prog_39_method_1_code 24 = .ok (.iconst 1, 1) := by decide +kernel
theorem d1_25 : decode prog_39_method_1_code 25 = .ok (.if_icmp .ge 17, 3) := by decide +kernel
theorem d1_42 : decode prog_39_method_1_code 42 = .ok (.iload_n 1, 1) := by decide +kernel
theorem d1_43 : decode prog_39_method_1_code 43 = .ok (.i2l, 1) := by decide +kernel
theorem d1_44 : decode prog_39_method_1_code 44 = .ok (.iload_n 2, 1) := by decide +kernel
theorem d1_45 : decode prog_39_method_1_code 45 = .ok (.i2l, 1) := by decide +kernel
theorem d1_46 : decode prog_39_method_1_code 46 = .ok (.lmul, 1) := by decide +kernel
theorem d1_47 : decode prog_39_method_1_code 47 = .ok (.ldc2_w 19, 3) := by decide +kernel
theorem d1_50 : decode prog_39_method_1_code 50 = .ok (.lcmp, 1) := by decide +kernel
theorem d1_51 : decode prog_39_method_1_code 51 = .ok (.ifCond .le 18, 3) := by decide +kernel
theorem d1_69 : decode prog_39_method_1_code 69 = .ok (.aload_n 0, 1) := by decide +kernel
theorem d1_70 : decode prog_39_method_1_code 70 = .ok (.iload_n 1, 1) := by decide +kernel
theorem d1_71 : decode prog_39_method_1_code 71 = .ok (.putfield 24, 3) := by decide +kernel
theorem d1_74 : decode prog_39_method_1_code 74 = .ok (.aload_n 0, 1) := by decide +kernel
theorem d1_75 : decode prog_39_method_1_code 75 = .ok (.iload_n 2, 1) := by decide +kernel
theorem d1_76 : decode prog_39_method_1_code 76 = .ok (.putfield 28, 3) := by decide +kernel
theorem d1_79 : decode prog_39_method_1_code 79 = .ok (.return_, 1) := by decide +kernel
theorem ef_1_1 (m : MethodId) (a0 : Addr) : entryFrame m #[(.ref a0), (.int (2 : Int32)), (.int (1 : Int32))] 3 = mkF m 0 #[rv a0, iv (2 : Int32), iv (1 : Int32)] [] := by first | (simp [entryFrame, mkF, argsToLocals, Value.category]; done) | rfl
def Q1_1 (Z : State) (a0 : Addr) (h0 : Heap) (n0 : Nat) (v : Option Value) (h : Heap) (L : List Loc) : Prop := v = none ∧ Fr n0 L ∧ Keep h0 h [a0] ∧ Exa Z h a0 "com/example/filters_under_siege/filtersundersiege/SketchShape" ∧ Fld Z h a0 "com/example/filters_under_siege/filtersundersiege/SketchShape" "rows" "I" (.int (2 : Int32)) ∧ Fld Z h a0 "com/example/filters_under_siege/filtersundersiege/SketchShape" "width" "I" (.int (1 : Int32))
abbrev R1_1 : Room := ({ frames := 2, cells := 0, slots := 0, locals := 24 } : Room)
set_option maxRecDepth 65536 in
set_option maxHeartbeats 40000000 in
theorem rm1_1 (l : Launch) (Z : State) (ar : Array Value) (hw : ∀ d ∈ tables_1, d.before ar Z = true) (ws : List Jvm.Cond) (a0 : Addr) (h0 : Heap) (n0 : Nat) (O0 : Old Z n0 h0) (pf0 : Exa Z h0 a0 "com/example/filters_under_siege/filtersundersiege/SketchShape") (pf1 : Fld Z h0 a0 "com/example/filters_under_siege/filtersundersiege/SketchShape" "rows" "I" (.int (0 : Int32))) (pf2 : Fld Z h0 a0 "com/example/filters_under_siege/filtersundersiege/SketchShape" "width" "I" (.int (0 : Int32))) (pf3 : n0 ≤ a0) :
    MetFree l y1 (head1 (Jvm.Cond.code y1 prog_39_method_1_code 3 none :: ws) R1_1) (fun a U => a = #[(.ref a0), (.int (2 : Int32)), (.int (1 : Int32))] ∧ Z.Warmed39 U.vm ∧ U.heap = h0) (fun _ _ _ _ _ => True) (fun _ U o U' => ∃ v L, o = .returned v ∧ Q1_1 Z a0 h0 n0 v U'.heap L ∧ FrameEnd U o U' L R1_1.cells R1_1.slots) := by
 refine MetFree.of_bodySF (plainFor_of_name pn_2) hisR ?_
 intro p e s m args below meth c s₁ Bd hml0 hP hK
 obtain ⟨rfl, hZ, hh⟩ := hP
 have hx := Bd.exec
 have hby := Bd.bytes
 have hml : c.maxLocals = 3 := hml0
 have hown : s.vm.findClass "com/example/filters_under_siege/filtersundersiege/SketchShape" = some m.cls := findClass_of_methodNamed Bd.named
 have hnm := (name_of_methodNamed Bd.named Bd.method).1
 have hlk : meth.locks = false := by first | assumption | exact BodyLoose.notSynchronized (by assumption) | exact Body.notSynchronized (by assumption)
 have X0 : Stand p l e R1_1 s m #[(.ref a0), (.int (2 : Int32)), (.int (1 : Int32))] below meth c s₁ [] 0 0 := Stand.of_body Bd
 have e0 : s₁.heap = h0 := by rw [← hh, Bd.state]; rfl
 have N0 := Fr.nil n0
 have Z0 : n0 ≤ h0.size := Nat.le_trans (Nat.le_of_eq O0.1.symm) O0.2.1
 obtain ⟨S0, hS0⟩ : ∃ z, z = s₁.setTop (entryFrame m #[(.ref a0), (.int (2 : Int32)), (.int (1 : Int32))] 3) := ⟨_, rfl⟩
 have pre0 : ∀ tg, AT p e below s₁ m 0 #[rv a0, iv (2 : Int32), iv (1 : Int32)] [] tg → Steps p.tables e below S0 tg := fun tg kg => by rw [hS0]; exact castTop (ef_1_1 m a0) kg
 obtain ⟨_, _, ⟨T1, L1, k1, n1⟩, -, X1, ⟨Lc1, hQ1, l1, y1, z1⟩, st1⟩ := X0.specialBack hx (y := y2) rfl hown (mvT hZ (ow hw 11 rfl)) (mvT hZ (ow hw 12 rfl)) (mvT hZ (ow hw 15 rfl)) (by decide) (backOf (W := 0) (rm2 l Z ar hw [] a0 h0 n0 O0) hZ (ow hw 15 rfl) (ow hw 14 rfl) (by decide) (by decide)) (g := (mkF m 1 #[rv a0, iv (2 : Int32), iv (1 : Int32)] [(.ref a0)])) rfl (by rw [hml]; rfl) (Steps.refl _) (a := a0) (argsL := []) (rest := []) (lenOf pd_0 rfl) rfl (by show 2 * 0 + _ ≤ _; exact Nat.le_of_eq rfl) (hb hby d1_1) (fun _ _ => ⟨rfl, e0, (by decide : 0 + 0 ≤ _), (by decide : 0 + 0 ≤ _)⟩)
 dsimp only [Pt.U, Pt.locs, Pt.cells, Pt.slots] at X1 l1 y1 z1 st1 hQ1
 subst l1 y1 z1
 obtain ⟨rfl, N1q, e1⟩ := hQ1
 have N1 := Fr.app N0 N1q
 obtain ⟨T2, h2, X2, e2, W2, st2⟩ := putF X1 hx hZ hown (host := "") (Or.inl (ow hw 20 rfl)) Via.refl e1 pf1 pf0 (Or.inr ⟨(ow hw 21 rfl), rfl, hnm⟩) (ow hw 6 rfl) (ty := .int) (by decide) rfl rfl (g := (mkF m 71 #[rv a0, iv (2 : Int32), iv (1 : Int32)] [(.int (2 : Int32)), (.ref a0)])) rfl rfl (hb hby d1_71)
 have E2_3 := pf0.wr W2
 have F2_4 : Fld Z h2 a0 "com/example/filters_under_siege/filtersundersiege/SketchShape" "rows" "I" (.int (2 : Int32)) := pf1.same W2
 have F2_5 := pf2.other W2 (Or.inr (slot_ne (Or.inr (ow hw 23 rfl)) (Or.inr (ow hw 21 rfl)) (by decide) (t := .int) (t' := .int) (by decide) (by decide)))
 have K2 := (Keep.refl h0 [a0]).wr W2 (Or.inl (List.mem_of_getElem? (i := 0) rfl))
 have O2 := O0.wr W2 pf3
 have N2 := Fr.snoc X2 N1 pf3
 obtain ⟨T6, h6, X6, e6, W6, st6⟩ := putF X2 hx hZ hown (host := "") (Or.inl (ow hw 22 rfl)) Via.refl e2 F2_5 E2_3 (Or.inr ⟨(ow hw 23 rfl), rfl, hnm⟩) (ow hw 6 rfl) (ty := .int) (by decide) rfl rfl (g := (mkF m 76 #[rv a0, iv (2 : Int32), iv (1 : Int32)] [(.int (1 : Int32)), (.ref a0)])) rfl rfl (hb hby d1_76)
 have E6_7 := E2_3.wr W6
 have F6_8 := F2_4.other W6 (Or.inr (slot_ne (Or.inr (ow hw 21 rfl)) (Or.inr (ow hw 23 rfl)) (by decide) (t := .int) (t' := .int) (by decide) (by decide)))
 have F6_9 : Fld Z h6 a0 "com/example/filters_under_siege/filtersundersiege/SketchShape" "width" "I" (.int (1 : Int32)) := F2_5.same W6
 have K6 := K2.wr W6 (Or.inl (List.mem_of_getElem? (i := 0) rfl))
 have O6 := O2.wr W6 pf3
 have N6 := Fr.snoc X6 N2 pf3
 obtain ⟨fs, hr, hrun, hended, hW, hsame⟩ := X6.leave (v := none) (fun _ => rfl) hlk
 subst hS0
 refine ⟨_, _, pre0 _ ?_, hrun, hended, _, _, rfl, ?_, ⟨_, rfl⟩, hW, hsame.mono (by decide) (by decide)⟩
 ·
  refine XS.aloadN X0.here hx rfl (hb hby d1_0) rfl rfl ?_
  refine st1.trans ?_
  refine XS.iloadN X1.here hx rfl (hb hby d1_4) rfl ?_
  refine XS.iconst X1.here hx rfl (hb hby d1_5) ?_
  show AT p e below T1 m 6 #[rv a0, iv (2 : Int32), iv (1 : Int32)] [(.int (1 : Int32)), (.int (2 : Int32))] _
  refine XS.icmpYes X1.here hx rfl (pc0 := 6) (pc' := 23) rfl (hb hby d1_6) rfl (XT.ii_ge_t ((by decide) : ¬ ((2 : Int32) < (1 : Int32)))) (by decide) (by decide) ?_
  refine XS.iloadN X1.here hx rfl (hb hby d1_23) rfl ?_
  refine XS.iconst X1.here hx rfl (hb hby d1_24) ?_
  show AT p e below T1 m 25 #[rv a0, iv (2 : Int32), iv (1 : Int32)] [(.int (1 : Int32)), (.int (1 : Int32))] _
  refine XS.icmpYes X1.here hx rfl (pc0 := 25) (pc' := 42) rfl (hb hby d1_25) rfl (XT.ii_ge_t ((by decide) : ¬ ((1 : Int32) < (1 : Int32)))) (by decide) (by decide) ?_
  refine XS.iloadN X1.here hx rfl (hb hby d1_42) rfl ?_
  refine XS.i2l X1.here hx rfl (hb hby d1_43) rfl ?_
  refine XS.iloadN X1.here hx rfl (hb hby d1_44) rfl ?_
  refine XS.i2l X1.here hx rfl (hb hby d1_45) rfl ?_
  refine XS.lmul X1.here hx rfl (hb hby d1_46) rfl ?_
  refine X1.ldc2Long hx hown (mvT hZ (ow hw 19 rfl)) (g := (mkF m 47 #[rv a0, iv (2 : Int32), iv (1 : Int32)] [(.long (2 : Int64))])) rfl (hb hby d1_47) _ ?_
  refine XS.lcmp X1.here hx rfl (hb hby d1_50) rfl ?_
  show AT p e below T1 m 51 #[rv a0, iv (2 : Int32), iv (1 : Int32)] [(.int (XT.cmpL (2 : Int64) (1073741824 : Int64)))] _
  refine XS.ifYes X1.here hx rfl (pc0 := 51) (pc' := 69) rfl (hb hby d1_51) rfl (XT.ll_le_t ((by decide) : ¬ ((1073741824 : Int64) < (2 : Int64)))) (by decide) (by decide) ?_
  refine XS.aloadN X1.here hx rfl (hb hby d1_69) rfl rfl ?_
  refine XS.iloadN X1.here hx rfl (hb hby d1_70) rfl ?_
  refine st2 _ ?_
  refine XS.aloadN X2.here hx rfl (hb hby d1_74) rfl rfl ?_
  refine XS.iloadN X2.here hx rfl (hb hby d1_75) rfl ?_
  refine st6 _ ?_
  exact X6.returnOut hx Bd.returns (hb hby d1_79) hr
 ·
  show Q1_1 Z a0 h0 n0 _ T6.heap _
  rw [e6]
  exact ⟨rfl, N6, K6, E6_7, F6_8, F6_9⟩

theorem d7_0 : decode prog_39_method_2_code 0 = .ok (.aload_n 0, 1) := by decide +kernel
theorem d7_1 : decode prog_39_method_2_code 1 = .ok (.getfield 24, 3) := by decide +kernel
theorem d7_4 : decode prog_39_method_2_code 4 = .ok (.aload_n 0, 1) := by decide +kernel
theorem d7_5 : decode prog_39_method_2_code 5 = .ok (.getfield 28, 3) := by decide +kernel
theorem d7_8 : decode prog_39_method_2_code 8 = .ok (.imul, 1) := by decide +kernel
theorem d7_9 : decode prog_39_method_2_code 9 = .ok (.ireturn, 1) := by decide +kernel
theorem ef_7_1 (m : MethodId) (a0 : Addr) : entryFrame m #[(.ref a0)] 1 = mkF m 0 #[rv a0] [] := by first | (simp [entryFrame, mkF, argsToLocals, Value.category]; done) | rfl
def Q7_1 (Z : State) (a0 : Addr) (h0 : Heap) (n0 : Nat) (v : Option Value) (h : Heap) (L : List Loc) : Prop := v = some (.int (2 : Int32)) ∧ Fr n0 L ∧ h = h0
abbrev R7_1 : Room := ({ frames := 0, cells := 0, slots := 0, locals := 0 } : Room)
set_option maxRecDepth 65536 in
set_option maxHeartbeats 40000000 in
theorem rm7_1 (l : Launch) (Z : State) (ar : Array Value) (hw : ∀ d ∈ tables_1, d.before ar Z = true) (ws : List Jvm.Cond) (a0 : Addr) (h0 : Heap) (n0 : Nat) (O0 : Old Z n0 h0) (pf0 : Fld Z h0 a0 "com/example/filters_under_siege/filtersundersiege/SketchShape" "rows" "I" (.int (2 : Int32))) (pf1 : Fld Z h0 a0 "com/example/filters_under_siege/filtersundersiege/SketchShape" "width" "I" (.int (1 : Int32))) :
    MetFree l y7 (head1 (Jvm.Cond.code y7 prog_39_method_2_code 1 (some .int) :: ws) R7_1) (fun a U => a = #[(.ref a0)] ∧ Z.Warmed39 U.vm ∧ U.heap = h0) (fun _ _ _ _ _ => True) (fun _ U o U' => ∃ v L, o = .returned v ∧ Q7_1 Z a0 h0 n0 v U'.heap L ∧ FrameEnd U o U' L R7_1.cells R7_1.slots) := by
 refine MetFree.of_bodySF (plainFor_of_name pn_2) hisR ?_
 intro p e s m args below meth c s₁ Bd hml0 hP hK
 obtain ⟨rfl, hZ, hh⟩ := hP
 have hx := Bd.exec
 have hby := Bd.bytes
 have hml : c.maxLocals = 1 := hml0
 have hown : s.vm.findClass "com/example/filters_under_siege/filtersundersiege/SketchShape" = some m.cls := findClass_of_methodNamed Bd.named
 have hnm := (name_of_methodNamed Bd.named Bd.method).1
 have hlk : meth.locks = false := by first | assumption | exact BodyLoose.notSynchronized (by assumption) | exact Body.notSynchronized (by assumption)
 have X0 : Stand p l e R7_1 s m #[(.ref a0)] below meth c s₁ [] 0 0 := Stand.of_body Bd
 have e0 : s₁.heap = h0 := by rw [← hh, Bd.state]; rfl
 have N0 := Fr.nil n0
 have Z0 : n0 ≤ h0.size := Nat.le_trans (Nat.le_of_eq O0.1.symm) O0.2.1
 obtain ⟨S0, hS0⟩ : ∃ z, z = s₁.setTop (entryFrame m #[(.ref a0)] 1) := ⟨_, rfl⟩
 have pre0 : ∀ tg, AT p e below s₁ m 0 #[rv a0] [] tg → Steps p.tables e below S0 tg := fun tg kg => by rw [hS0]; exact castTop (ef_7_1 m a0) kg
 obtain ⟨T1, X1, e1, st1⟩ := getF X0 hx hZ hown (host := "") (Or.inl (ow hw 20 rfl)) Via.refl e0 pf0 (g := (mkF m 1 #[rv a0] [(.ref a0)])) rfl rfl (hb hby d7_1)
 obtain ⟨T2, X2, e2, st2⟩ := getF X1 hx hZ hown (host := "") (Or.inl (ow hw 22 rfl)) Via.refl e1 pf1 (g := (mkF m 5 #[rv a0] [(.ref a0), (.int (2 : Int32))])) rfl rfl (hb hby d7_5)
 obtain ⟨fs, hr, hrun, hended, hW, hsame⟩ := X2.leave (v := some (.int (2 : Int32))) (fun h => by rw [Bd.returns] at h; cases h) hlk
 subst hS0
 refine ⟨_, _, pre0 _ ?_, hrun, hended, _, _, rfl, ?_, ⟨_, rfl⟩, hW, hsame.mono (by decide) (by decide)⟩
 ·
  refine XS.aloadN X0.here hx rfl (hb hby d7_0) rfl rfl ?_
  refine st1 _ ?_
  refine XS.aloadN X1.here hx rfl (hb hby d7_4) rfl rfl ?_
  refine st2 _ ?_
  refine XS.imul X2.here hx rfl (hb hby d7_8) rfl ?_
  exact retOut X2 hx (t := .int) (i := .ireturn) Bd.returns rfl (Or.inl ⟨rfl, Or.inl rfl, _, rfl⟩) (hb hby d7_9) hr
 ·
  show Q7_1 Z a0 h0 n0 _ T2.heap _
  rw [e2]
  exact ⟨rfl, N0, rfl⟩

theorem d5_0 : decode prog_26_method_3_code 0 = .ok (.aload_n 0, 1) := by decide +kernel
theorem d5_1 : decode prog_26_method_3_code 1 = .ok (.invokespecial 22, 3) := by decide +kernel
theorem d5_4 : decode prog_26_method_3_code 4 = .ok (.aload_n 0, 1) := by decide +kernel
theorem d5_5 : decode prog_26_method_3_code 5 = .ok (.aload_n 1, 1) := by decide +kernel
theorem d5_6 : decode prog_26_method_3_code 6 = .ok (.ldc 27, 2) := by decide +kernel
theorem d5_8 : decode prog_26_method_3_code 8 = .ok (.invokestatic 16, 3) := by decide +kernel
theorem d5_11 : decode prog_26_method_3_code 11 = .ok (.checkcast 29, 3) := by decide +kernel
theorem d5_14 : decode prog_26_method_3_code 14 = .ok (.putfield 31, 3) := by decide +kernel
theorem d5_17 : decode prog_26_method_3_code 17 = .ok (.aload_n 0, 1) := by decide +kernel
theorem d5_18 : decode prog_26_method_3_code 18 = .ok (.aload_n 2, 1) := by decide +kernel
theorem d5_19 : decode prog_26_method_3_code 19 = .ok (.putfield 34, 3) := by decide +kernel
theorem d5_22 : decode prog_26_method_3_code 22 = .ok (.aload_n 0, 1) := by decide +kernel
theorem d5_23 : decode prog_26_method_3_code 23 = .ok (.aload_n 1, 1) := by decide +kernel
theorem d5_24 : decode prog_26_method_3_code 24 = .ok (.invokevirtual 38, 3) := by decide +kernel
theorem d5_27 : decode prog_26_method_3_code 27 = .ok (.newarray .int, 2) := by decide +kernel
theorem d5_29 : decode prog_26_method_3_code 29 = .ok (.putfield 42, 3) := by decide +kernel
theorem d5_32 : decode prog_26_method_3_code 32 = .ok (.aload_n 0, 1) := by decide +kernel
theorem d5_33 : decode prog_26_method_3_code 33 = .ok (.aload_n 1, 1) := by decide +kernel
theorem d5_34 : decode prog_26_method_3_code 34 = .ok (.invokevirtual 38, 3) := by decide +kernel
theorem d5_37 : decode prog_26_method_3_code 37 = .ok (.newarray .long, 2) := by decide +kernel
theorem d5_39 : decode prog_26_method_3_code 39 = .ok (.putfield 46, 3) := by decide +kernel
theorem d5_42 : decode prog_26_method_3_code 42 = .ok (.return_, 1) := by decide +kernel
theorem ef_5_1 (m : MethodId) (a0 : Addr) (a1 : Addr) (a2 : Addr) : entryFrame m #[(.ref a0), (.ref a1), (.ref a2)] 3 = mkF m 0 #[rv a0, rv a1, rv a2] [] := by first | (simp [entryFrame, mkF, argsToLocals, Value.category]; done) | rfl
def Q5_1 (Z : State) (a0 : Addr) (a1 : Addr) (a2 : Addr) (h0 : Heap) (n0 : Nat) (v : Option Value) (h : Heap) (L : List Loc) : Prop := ∃ (fa : Addr) (ca : Addr) (kf : ClassId) (kc : ClassId), v = none ∧ Fr n0 L ∧ Keep h0 h [a0] ∧ Exa Z h a0 "com/example/filters_under_siege/filtersundersiege/KeeperPairs" ∧ Fld Z h a0 "com/example/filters_under_siege/filtersundersiege/KeeperPairs" "shape" "Lcom/example/filters_under_siege/filtersundersiege/SketchShape;" (.ref a1) ∧ Fld Z h a0 "com/example/filters_under_siege/filtersundersiege/KeeperPairs" "knocksDown" "Ljava/util/function/LongPredicate;" (.ref a2) ∧ Fld Z h a0 "com/example/filters_under_siege/filtersundersiege/KeeperPairs" "fingerprints" "[I" (.ref fa) ∧ Fld Z h a0 "com/example/filters_under_siege/filtersundersiege/KeeperPairs" "counts" "[J" (.ref ca) ∧ Arv Z h fa kf .int (2 : Int32) [(.int (0 : Int32)), (.int (0 : Int32))] (.int (0 : Int32)) ∧ Arv Z h ca kc .long (2 : Int32) [(.long (0 : Int64)), (.long (0 : Int64))] (.long (0 : Int64)) ∧ h0.size ≤ fa ∧ h0.size ≤ ca ∧ Exa Z h fa "[I" ∧ Exa Z h ca "[J"
abbrev R5_1 : Room := ({ frames := 1, cells := 4, slots := 28, locals := 14 } : Room)
set_option maxRecDepth 65536 in
set_option maxHeartbeats 40000000 in
theorem rm5_1 (l : Launch) (Z : State) (ar : Array Value) (hw : ∀ d ∈ tables_1, d.before ar Z = true) (ws : List Jvm.Cond) (a0 : Addr) (a1 : Addr) (a2 : Addr) (h0 : Heap) (n0 : Nat) (O0 : Old Z n0 h0) (hEL : EW Z ar EL0) (pf0 : Exa Z h0 a0 "com/example/filters_under_siege/filtersundersiege/KeeperPairs") (pf1 : Fld Z h0 a0 "com/example/filters_under_siege/filtersundersiege/KeeperPairs" "shape" "Lcom/example/filters_under_siege/filtersundersiege/SketchShape;" .null) (pf2 : Fld Z h0 a0 "com/example/filters_under_siege/filtersundersiege/KeeperPairs" "fingerprints" "[I" .null) (pf3 : Fld Z h0 a0 "com/example/filters_under_siege/filtersundersiege/KeeperPairs" "counts" "[J" .null) (pf4 : Fld Z h0 a0 "com/example/filters_under_siege/filtersundersiege/KeeperPairs" "knocksDown" "Ljava/util/function/LongPredicate;" .null) (pf5 : n0 ≤ a0) (pf6 : Exa Z h0 a1 "com/example/filters_under_siege/filtersundersiege/SketchShape") (pf7 : Fld Z h0 a1 "com/example/filters_under_siege/filtersundersiege/SketchShape" "rows" "I" (.int (2 : Int32))) (pf8 : Fld Z h0 a1 "com/example/filters_under_siege/filtersundersiege/SketchShape" "width" "I" (.int (1 : Int32))) (pf9 : a0 ≠ a1) :
    MetFree l y5 (head1 (Jvm.Cond.code y5 prog_26_method_3_code 3 none :: ws) R5_1) (fun a U => a = #[(.ref a0), (.ref a1), (.ref a2)] ∧ Z.Warmed39 U.vm ∧ U.heap = h0 ∧ CHv Z EL0 U.vm h0) (fun _ _ _ _ _ => True) (fun _ U o U' => ∃ v L, o = .returned v ∧ Q5_1 Z a0 a1 a2 h0 n0 v U'.heap L ∧ CHr Z EL0 U.vm U.heap U'.vm U'.heap ∧ ReturnedEndW U o U' L R5_1.cells R5_1.slots) := by
 refine MetFree.of_bodySF (plainFor_of_name pn_3) hisR ?_
 intro p e s m args below meth c s₁ Bd hml0 hP hK
 obtain ⟨rfl, hZ, hh, hCH⟩ := hP
 have hx := Bd.exec
 have hby := Bd.bytes
 have hml : c.maxLocals = 3 := hml0
 have hown : s.vm.findClass "com/example/filters_under_siege/filtersundersiege/KeeperPairs" = some m.cls := findClass_of_methodNamed Bd.named
 have hnm := (name_of_methodNamed Bd.named Bd.method).1
 have hlk : meth.locks = false := by first | assumption | exact BodyLoose.notSynchronized (by assumption) | exact Body.notSynchronized (by assumption)
 have X0 : Stand p l e R5_1 (s.setVm s.vm) m #[(.ref a0), (.ref a1), (.ref a2)] below meth c s₁ [] 0 0 := Stand.of_body Bd
 have e0 : s₁.heap = h0 := by rw [← hh, Bd.state]; rfl
 have N0 := Fr.nil n0
 have Z0 : n0 ≤ h0.size := Nat.le_trans (Nat.le_of_eq O0.1.symm) O0.2.1
 obtain ⟨S0, hS0⟩ : ∃ z, z = s₁.setTop (entryFrame m #[(.ref a0), (.ref a1), (.ref a2)] 3) := ⟨_, rfl⟩
 have pre0 : ∀ tg, AT p e below s₁ m 0 #[rv a0, rv a1, rv a2] [] tg → Steps p.tables e below S0 tg := fun tg kg => by rw [hS0]; exact castTop (ef_5_1 m a0 a1 a2) kg
 have hS : s.Since s.vm 0 := (State.WarmedH.refl s).since 0
 have hk : 0 ≤ h0.size := Nat.zero_le _
 have CR0 : CHr Z EL0 s.vm h0 s.vm h0 := CHr.refl hCH
 obtain ⟨T1, X1, e1, st1⟩ := initO X0 hx hZ hown (ow hw 33 rfl) (ow hw 17 rfl) (ow hw 18 rfl) e0 (g := (mkF m 1 #[rv a0, rv a1, rv a2] [(.ref a0)])) rfl (by rw [hml]; rfl) rfl (hb hby d5_1) (by decide) (W := 0) (by show 2 * 0 + _ ≤ _; exact Nat.le_of_eq rfl) (by decide)
 obtain ⟨al2, T2, h2, q2, X2, e2, E2, hS, hk, hZ, hown, CRq2, Li2, st2⟩ := ldcOH X1 hx hZ hown (ow hw 34 rfl) (own_sa hw) e1 hS hk hEL CR0.1 (g := (mkF m 6 #[rv a0, rv a1, rv a2] [(.ref a1), (.ref a0)])) rfl (hb hby d5_6) (n := 20) (by decide) (by decide) (by decide) (by decide)
 have E2_3 := pf0.ext E2
 have F2_4 := pf1.ext E2
 have F2_5 := pf2.ext E2
 have F2_6 := pf3.ext E2
 have F2_7 := pf4.ext E2
 have E2_8 := pf6.ext E2
 have F2_9 := pf7.ext E2
 have F2_10 := pf8.ext E2
 have K2 := (Keep.refl h0 [a0]).ext E2
 have O2 : Old Z n0 h2 := O0.ext E2
 have CR2 : CHr Z EL0 s.vm h0 T2.vm h2 := CR0.trans CRq2
 obtain ⟨_, _, ⟨T11, L11, k11, n11⟩, -, X11, ⟨Lc11, hQ11, l11, y11, z11⟩, st11⟩ := Jvm.LawKit.callS X2 hx (y := y6) hown (mvT hZ (ow hw 42 rfl)) (mvT hZ (ow hw 43 rfl)) (mvT hZ (ow hw 44 rfl)) (mvT hZ (ow hw 45 rfl)) (by decide) (backOf (W := 1) (rm6 l Z ar hw [] a1 al2 h2 n0 O2) hZ (ow hw 45 rfl) (ow hw 44 rfl) (by decide) (by decide)) (g := (mkF m 8 #[rv a0, rv a1, rv a2] [(.ref al2), (.ref a1), (.ref a0)])) rfl (by rw [hml]; rfl) (argsL := [(.ref a1), (.ref al2)]) (rest := [(.ref a0)]) (lenOf pd_1 rfl) rfl (by show 2 * 0 + _ ≤ _; exact Nat.le_of_eq rfl) (hb hby d5_8) (fun _ _ => ⟨rfl, e2, (by decide : 2 + 0 ≤ _), (by decide : 24 + 0 ≤ _)⟩)
 dsimp only [Pt.U, Pt.locs, Pt.cells, Pt.slots] at X11 l11 y11 z11 st11 hQ11
 subst l11 y11 z11
 obtain ⟨rfl, N11q, e11⟩ := hQ11
 have N11 := Fr.app N0 N11q
 obtain ⟨T12, X12, e12, st12⟩ := castY X11 hx hZ hown (ow hw 46 rfl) e11 (Ins.self E2_8) (g := (mkF m 11 #[rv a0, rv a1, rv a2] [(.ref a1), (.ref a0)])) rfl rfl (hb hby d5_11)
 obtain ⟨T13, h13, X13, e13, W13, st13⟩ := putF X12 hx hZ hown (host := "") (Or.inl (ow hw 48 rfl)) Via.refl e12 F2_4 E2_3 (Or.inr ⟨(ow hw 49 rfl), rfl, hnm⟩) (ow hw 3 rfl) (ty := (.object "com/example/filters_under_siege/filtersundersiege/SketchShape")) (by decide) rfl rfl (g := (mkF m 14 #[rv a0, rv a1, rv a2] [(.ref a1), (.ref a0)])) rfl rfl (hb hby d5_14)
 have E13_14 := E2_3.wr W13
 have F13_15 : Fld Z h13 a0 "com/example/filters_under_siege/filtersundersiege/KeeperPairs" "shape" "Lcom/example/filters_under_siege/filtersundersiege/SketchShape;" (.ref a1) := F2_4.same W13
 have F13_16 := F2_5.other W13 (Or.inr (slot_ne (Or.inr (ow hw 58 rfl)) (Or.inr (ow hw 49 rfl)) (by decide) (t := (.array .int)) (t' := (.object "com/example/filters_under_siege/filtersundersiege/SketchShape")) (by decide) (by decide)))
 have F13_17 := F2_6.other W13 (Or.inr (slot_ne (Or.inr (ow hw 61 rfl)) (Or.inr (ow hw 49 rfl)) (by decide) (t := (.array .long)) (t' := (.object "com/example/filters_under_siege/filtersundersiege/SketchShape")) (by decide) (by decide)))
 have F13_18 := F2_7.other W13 (Or.inr (slot_ne (Or.inr (ow hw 51 rfl)) (Or.inr (ow hw 49 rfl)) (by decide) (t := (.object "java/util/function/LongPredicate")) (t' := (.object "com/example/filters_under_siege/filtersundersiege/SketchShape")) (by decide) (by decide)))
 have E13_19 := E2_8.wr W13
 have F13_20 := F2_9.other W13 (Or.inl (Ne.symm pf9))
 have F13_21 := F2_10.other W13 (Or.inl (Ne.symm pf9))
 have K13 := K2.wr W13 (Or.inl (List.mem_of_getElem? (i := 0) rfl))
 have O13 := O2.wr W13 pf5
 have CR13 : CHr Z EL0 s.vm h0 T2.vm h13 := CR2.trans (CHr.wr W13 own_sf0 CR2.1)
 have hk := Nat.le_trans hk (Keep.of_wr W13).1
 have N13 := Fr.snoc X13 N11 pf5
 obtain ⟨T22, h22, X22, e22, W22, st22⟩ := putF X13 hx hZ hown (host := "") (Or.inl (ow hw 50 rfl)) Via.refl e13 F13_18 E13_14 (Or.inr ⟨(ow hw 51 rfl), rfl, hnm⟩) (ow hw 3 rfl) (ty := (.object "java/util/function/LongPredicate")) (by decide) rfl rfl (g := (mkF m 19 #[rv a0, rv a1, rv a2] [(.ref a2), (.ref a0)])) rfl rfl (hb hby d5_19)
 have E22_23 := E13_14.wr W22
 have F22_24 := F13_15.other W22 (Or.inr (slot_ne (Or.inr (ow hw 49 rfl)) (Or.inr (ow hw 51 rfl)) (by decide) (t := (.object "com/example/filters_under_siege/filtersundersiege/SketchShape")) (t' := (.object "java/util/function/LongPredicate")) (by decide) (by decide)))
 have F22_25 := F13_16.other W22 (Or.inr (slot_ne (Or.inr (ow hw 58 rfl)) (Or.inr (ow hw 51 rfl)) (by decide) (t := (.array .int)) (t' := (.object "java/util/function/LongPredicate")) (by decide) (by decide)))
 have F22_26 := F13_17.other W22 (Or.inr (slot_ne (Or.inr (ow hw 61 rfl)) (Or.inr (ow hw 51 rfl)) (by decide) (t := (.array .long)) (t' := (.object "java/util/function/LongPredicate")) (by decide) (by decide)))
 have F22_27 : Fld Z h22 a0 "com/example/filters_under_siege/filtersundersiege/KeeperPairs" "knocksDown" "Ljava/util/function/LongPredicate;" (.ref a2) := F13_18.same W22
 have E22_28 := E13_19.wr W22
 have F22_29 := F13_20.other W22 (Or.inl (Ne.symm pf9))
 have F22_30 := F13_21.other W22 (Or.inl (Ne.symm pf9))
 have K22 := K13.wr W22 (Or.inl (List.mem_of_getElem? (i := 0) rfl))
 have O22 := O13.wr W22 pf5
 have CR22 : CHr Z EL0 s.vm h0 T2.vm h22 := CR13.trans (CHr.wr W22 own_sf0 CR13.1)
 have hk := Nat.le_trans hk (Keep.of_wr W22).1
 have N22 := Fr.snoc X22 N13 pf5
 obtain ⟨cq31, kq31, q31a, q31b, q31c⟩ := isOf hZ e22 E22_28
 obtain ⟨_, _, ⟨T31, L31, k31, n31⟩, -, X31, ⟨Lc31, hQ31, l31, y31, z31⟩, st31⟩ := X22.virtualBack hx (y := y7) (z := y7) hown (mvT hZ (ow hw 52 rfl)) (mvT hZ (ow hw 53 rfl)) (notFace_of_selects (args := #[]) (mvT hZ (ow hw 55 rfl))) (mvT hZ (ow hw 55 rfl)) (mvT hZ (ow hw 54 rfl)) (by decide) (backOf (W := 1) (rm7_1 l Z ar hw [] a1 h22 n0 O22 F22_29 F22_30) hZ (ow hw 56 rfl) (ow hw 7 rfl) (by decide) (by decide)) q31a q31c (g := (mkF m 24 #[rv a0, rv a1, rv a2] [(.ref a1), (.ref a0)])) rfl (by rw [hml]; rfl) (Steps.refl _) (argsL := []) (rest := [(.ref a0)]) (lenOf pd_2 rfl) rfl (by show 2 * 0 + _ ≤ _; exact Nat.le_of_eq rfl) (hb hby d5_24) (fun _ _ => ⟨rfl, e22, (by decide : 2 + 0 ≤ _), (by decide : 24 + 0 ≤ _)⟩)
 dsimp only [Pt.U, Pt.locs, Pt.cells, Pt.slots] at X31 l31 y31 z31 st31 hQ31
 subst l31 y31 z31
 obtain ⟨rfl, N31q, e31⟩ := hQ31
 have N31 := Fr.app N22 N31q
 obtain ⟨T32, h32, k32, X32, e32, E32, A32, B32, st32⟩ := newPE X31 hx hZ (ow hw 1 rfl) e31 (g := (mkF m 27 #[rv a0, rv a1, rv a2] [(.int (2 : Int32)), (.ref a0)])) rfl (hb hby d5_27) rfl (by decide) (cap := 2) (by decide) (by decide) (by decide) (by decide) (ad := "[I") (by decide)
 obtain ⟨b32, g32⟩ : ∃ z, z = h22.size := ⟨_, rfl⟩
 rw [← g32] at A32 B32 st32
 have ne32_33 : a0 ≠ b32 := Nat.ne_of_lt (Nat.lt_of_lt_of_le (E22_23).lt (Nat.le_of_eq g32.symm))
 have ne32_34 : a1 ≠ b32 := Nat.ne_of_lt (Nat.lt_of_lt_of_le (E22_28).lt (Nat.le_of_eq g32.symm))
 have gn32 : n0 ≤ b32 := Nat.le_trans (Nat.le_trans (Nat.le_of_eq O22.1.symm) O22.2.1) (Nat.le_of_eq g32.symm)
 have sz32 : h0.size ≤ b32 := Nat.le_trans K22.1 (Nat.le_of_eq g32.symm)
 have E32_35 := E22_23.ext E32
 have F32_36 := F22_24.ext E32
 have F32_37 := F22_25.ext E32
 have F32_38 := F22_26.ext E32
 have F32_39 := F22_27.ext E32
 have E32_40 := E22_28.ext E32
 have F32_41 := F22_29.ext E32
 have F32_42 := F22_30.ext E32
 have K32 := K22.ext E32
 have O32 := O22.ext E32
 have CR32 : CHr Z EL0 s.vm h0 T2.vm h32 := CR22.trans (CHr.ext E32 CR22.1)
 have hk := Nat.le_trans hk E32.1
 have V32_43 : Arv Z h32 b32 k32 .int (2 : Int32) [(.int (0 : Int32)), (.int (0 : Int32))] (.int (0 : Int32)) := (Arv.new A32 (by decide)).pad (pad_rep [] (.int (0 : Int32)) 2)
 obtain ⟨T44, h44, X44, e44, W44, st44⟩ := putF X32 hx hZ hown (host := "") (Or.inl (ow hw 57 rfl)) Via.refl e32 F32_37 E32_35 (Or.inr ⟨(ow hw 58 rfl), rfl, hnm⟩) (ow hw 3 rfl) (ty := (.array .int)) (by decide) rfl rfl (g := (mkF m 29 #[rv a0, rv a1, rv a2] [(.ref b32), (.ref a0)])) rfl rfl (hb hby d5_29)
 have E44_45 := E32_35.wr W44
 have F44_46 := F32_36.other W44 (Or.inr (slot_ne (Or.inr (ow hw 49 rfl)) (Or.inr (ow hw 58 rfl)) (by decide) (t := (.object "com/example/filters_under_siege/filtersundersiege/SketchShape")) (t' := (.array .int)) (by decide) (by decide)))
 have F44_47 : Fld Z h44 a0 "com/example/filters_under_siege/filtersundersiege/KeeperPairs" "fingerprints" "[I" (.ref b32) := F32_37.same W44
 have F44_48 := F32_38.other W44 (Or.inr (slot_ne (Or.inr (ow hw 61 rfl)) (Or.inr (ow hw 58 rfl)) (by decide) (t := (.array .long)) (t' := (.array .int)) (by decide) (by decide)))
 have F44_49 := F32_39.other W44 (Or.inr (slot_ne (Or.inr (ow hw 51 rfl)) (Or.inr (ow hw 58 rfl)) (by decide) (t := (.object "java/util/function/LongPredicate")) (t' := (.array .int)) (by decide) (by decide)))
 have E44_50 := E32_40.wr W44
 have F44_51 := F32_41.other W44 (Or.inl (Ne.symm pf9))
 have F44_52 := F32_42.other W44 (Or.inl (Ne.symm pf9))
 have V44_53 := V32_43.other W44 (Ne.symm ne32_33)
 have E44_54 := B32.wr W44
 have K44 := K32.wr W44 (Or.inl (List.mem_of_getElem? (i := 0) rfl))
 have O44 := O32.wr W44 pf5
 have CR44 : CHr Z EL0 s.vm h0 T2.vm h44 := CR32.trans (CHr.wr W44 own_sf0 CR32.1)
 have hk := Nat.le_trans hk (Keep.of_wr W44).1
 have N44 := Fr.snoc X44 N31 pf5
 obtain ⟨cq55, kq55, q55a, q55b, q55c⟩ := isOf hZ e44 E44_50
 obtain ⟨_, _, ⟨T55, L55, k55, n55⟩, -, X55, ⟨Lc55, hQ55, l55, y55, z55⟩, st55⟩ := X44.virtualBack hx (y := y7) (z := y7) hown (mvT hZ (ow hw 52 rfl)) (mvT hZ (ow hw 53 rfl)) (notFace_of_selects (args := #[]) (mvT hZ (ow hw 55 rfl))) (mvT hZ (ow hw 55 rfl)) (mvT hZ (ow hw 54 rfl)) (by decide) (backOf (W := 1) (rm7_1 l Z ar hw [] a1 h44 n0 O44 F44_51 F44_52) hZ (ow hw 56 rfl) (ow hw 7 rfl) (by decide) (by decide)) q55a q55c (g := (mkF m 34 #[rv a0, rv a1, rv a2] [(.ref a1), (.ref a0)])) rfl (by rw [hml]; rfl) (Steps.refl _) (argsL := []) (rest := [(.ref a0)]) (lenOf pd_2 rfl) rfl (by show 2 * 0 + _ ≤ _; exact Nat.le_of_eq rfl) (hb hby d5_34) (fun _ _ => ⟨rfl, e44, (by decide : 3 + 0 ≤ _), (by decide : 26 + 0 ≤ _)⟩)
 dsimp only [Pt.U, Pt.locs, Pt.cells, Pt.slots] at X55 l55 y55 z55 st55 hQ55
 subst l55 y55 z55
 obtain ⟨rfl, N55q, e55⟩ := hQ55
 have N55 := Fr.app N44 N55q
 obtain ⟨T56, h56, k56, X56, e56, E56, A56, B56, st56⟩ := newPE X55 hx hZ (ow hw 59 rfl) e55 (g := (mkF m 37 #[rv a0, rv a1, rv a2] [(.int (2 : Int32)), (.ref a0)])) rfl (hb hby d5_37) rfl (by decide) (cap := 2) (by decide) (by decide) (by decide) (by decide) (ad := "[J") (by decide)
 obtain ⟨b56, g56⟩ : ∃ z, z = h44.size := ⟨_, rfl⟩
 rw [← g56] at A56 B56 st56
 have ne56_57 : a0 ≠ b56 := Nat.ne_of_lt (Nat.lt_of_lt_of_le (E44_45).lt (Nat.le_of_eq g56.symm))
 have ne56_58 : a1 ≠ b56 := Nat.ne_of_lt (Nat.lt_of_lt_of_le (E44_50).lt (Nat.le_of_eq g56.symm))
 have ne56_59 : b32 ≠ b56 := Nat.ne_of_lt (Nat.lt_of_lt_of_le (V44_53).lt (Nat.le_of_eq g56.symm))
 have gn56 : n0 ≤ b56 := Nat.le_trans (Nat.le_trans (Nat.le_of_eq O44.1.symm) O44.2.1) (Nat.le_of_eq g56.symm)
 have sz56 : h0.size ≤ b56 := Nat.le_trans K44.1 (Nat.le_of_eq g56.symm)
 have E56_60 := E44_45.ext E56
 have F56_61 := F44_46.ext E56
 have F56_62 := F44_47.ext E56
 have F56_63 := F44_48.ext E56
 have F56_64 := F44_49.ext E56
 have E56_65 := E44_50.ext E56
 have F56_66 := F44_51.ext E56
 have F56_67 := F44_52.ext E56
 have V56_68 := V44_53.ext E56
 have E56_69 := E44_54.ext E56
 have K56 := K44.ext E56
 have O56 := O44.ext E56
 have CR56 : CHr Z EL0 s.vm h0 T2.vm h56 := CR44.trans (CHr.ext E56 CR44.1)
 have hk := Nat.le_trans hk E56.1
 have V56_70 : Arv Z h56 b56 k56 .long (2 : Int32) [(.long (0 : Int64)), (.long (0 : Int64))] (.long (0 : Int64)) := (Arv.new A56 (by decide)).pad (pad_rep [] (.long (0 : Int64)) 2)
 obtain ⟨T71, h71, X71, e71, W71, st71⟩ := putF X56 hx hZ hown (host := "") (Or.inl (ow hw 60 rfl)) Via.refl e56 F56_63 E56_60 (Or.inr ⟨(ow hw 61 rfl), rfl, hnm⟩) (ow hw 3 rfl) (ty := (.array .long)) (by decide) rfl rfl (g := (mkF m 39 #[rv a0, rv a1, rv a2] [(.ref b56), (.ref a0)])) rfl rfl (hb hby d5_39)
 have E71_72 := E56_60.wr W71
 have F71_73 := F56_61.other W71 (Or.inr (slot_ne (Or.inr (ow hw 49 rfl)) (Or.inr (ow hw 61 rfl)) (by decide) (t := (.object "com/example/filters_under_siege/filtersundersiege/SketchShape")) (t' := (.array .long)) (by decide) (by decide)))
 have F71_74 := F56_62.other W71 (Or.inr (slot_ne (Or.inr (ow hw 58 rfl)) (Or.inr (ow hw 61 rfl)) (by decide) (t := (.array .int)) (t' := (.array .long)) (by decide) (by decide)))
 have F71_75 : Fld Z h71 a0 "com/example/filters_under_siege/filtersundersiege/KeeperPairs" "counts" "[J" (.ref b56) := F56_63.same W71
 have F71_76 := F56_64.other W71 (Or.inr (slot_ne (Or.inr (ow hw 51 rfl)) (Or.inr (ow hw 61 rfl)) (by decide) (t := (.object "java/util/function/LongPredicate")) (t' := (.array .long)) (by decide) (by decide)))
 have E71_77 := E56_65.wr W71
 have F71_78 := F56_66.other W71 (Or.inl (Ne.symm pf9))
 have F71_79 := F56_67.other W71 (Or.inl (Ne.symm pf9))
 have V71_80 := V56_68.other W71 (Ne.symm ne32_33)
 have E71_81 := E56_69.wr W71
 have V71_82 := V56_70.other W71 (Ne.symm ne56_57)
 have E71_83 := B56.wr W71
 have K71 := K56.wr W71 (Or.inl (List.mem_of_getElem? (i := 0) rfl))
 have O71 := O56.wr W71 pf5
 have CR71 : CHr Z EL0 s.vm h0 T2.vm h71 := CR56.trans (CHr.wr W71 own_sf0 CR56.1)
 have hk := Nat.le_trans hk (Keep.of_wr W71).1
 have N71 := Fr.snoc X71 N55 pf5
 obtain ⟨fs, hr, hrun, hended, hRE⟩ := X71.leaveW hS (by rw [e71]; exact hk) (v := none) (fun _ => rfl)
 have CRf : CHr Z EL0 s.vm s.heap (T71.setFrames fs).vm (T71.setFrames fs).heap := by
   show CHr Z EL0 s.vm s.heap T71.vm T71.heap
   rw [hh, e71]
   exact CR71.trans (CHv.at X71 hZ hEL CR71.1)
 subst hS0
 refine ⟨_, _, pre0 _ ?_, hrun, hended, _, _, rfl, ?_, CRf, hRE.1, hRE.2.1, hRE.2.2.1, hRE.2.2.2.mono (by decide) (by decide)⟩
 ·
  refine XS.aloadN X0.here hx rfl (hb hby d5_0) rfl rfl ?_
  refine st1 _ ?_
  refine XS.aloadN X1.here hx rfl (hb hby d5_4) rfl rfl ?_
  refine XS.aloadN X1.here hx rfl (hb hby d5_5) rfl rfl ?_
  refine st2 _ ?_
  refine st11 _ ?_
  refine st12 _ ?_
  refine st13 _ ?_
  refine XS.aloadN X13.here hx rfl (hb hby d5_17) rfl rfl ?_
  refine XS.aloadN X13.here hx rfl (hb hby d5_18) rfl rfl ?_
  refine st22 _ ?_
  refine XS.aloadN X22.here hx rfl (hb hby d5_22) rfl rfl ?_
  refine XS.aloadN X22.here hx rfl (hb hby d5_23) rfl rfl ?_
  refine st31.trans ?_
  refine st32 _ ?_
  refine st44 _ ?_
  refine XS.aloadN X44.here hx rfl (hb hby d5_32) rfl rfl ?_
  refine XS.aloadN X44.here hx rfl (hb hby d5_33) rfl rfl ?_
  refine st55.trans ?_
  refine st56 _ ?_
  refine st71 _ ?_
  exact X71.returnOut hx Bd.returns (hb hby d5_42) hr
 ·
  show Q5_1 Z a0 a1 a2 h0 n0 _ T71.heap _
  rw [e71]
  exact ⟨b32, b56, k32, k56, rfl, N71, K71, E71_72, F71_73, F71_76, F71_74, F71_75, V71_80, V71_82, sz32, sz56, E71_81, E71_83⟩

theorem d4_0 : decode prog_26_method_1_code 0 = .ok (.aload_n 0, 1) := by decide +kernel
theorem d4_1 : decode prog_26_method_1_code 1 = .ok (.aload_n 1, 1) := by decide +kernel
theorem d4_2 : decode prog_26_method_1_code 2 = .ok (.invokedynamic 1, 5) := by decide +kernel
theorem d4_7 : decode prog_26_method_1_code 7 = .ok (.invokespecial 5, 3) := by decide +kernel
theorem d4_10 : decode prog_26_method_1_code 10 = .ok (.return_, 1) := by decide +kernel
theorem ef_4_1 (m : MethodId) (a0 : Addr) (a1 : Addr) : entryFrame m #[(.ref a0), (.ref a1)] 2 = mkF m 0 #[rv a0, rv a1] [] := by first | (simp [entryFrame, mkF, argsToLocals, Value.category]; done) | rfl
def Q4_1 (Z : State) (a0 : Addr) (a1 : Addr) (w_lam : Addr) (h0 : Heap) (n0 : Nat) (v : Option Value) (h : Heap) (L : List Loc) : Prop := ∃ (fa : Addr) (ca : Addr) (kf : ClassId) (kc : ClassId), v = none ∧ Fr n0 L ∧ Keep h0 h [a0] ∧ Exa Z h a0 "com/example/filters_under_siege/filtersundersiege/KeeperPairs" ∧ Fld Z h a0 "com/example/filters_under_siege/filtersundersiege/KeeperPairs" "shape" "Lcom/example/filters_under_siege/filtersundersiege/SketchShape;" (.ref a1) ∧ Fld Z h a0 "com/example/filters_under_siege/filtersundersiege/KeeperPairs" "knocksDown" "Ljava/util/function/LongPredicate;" (.ref w_lam) ∧ Fld Z h a0 "com/example/filters_under_siege/filtersundersiege/KeeperPairs" "fingerprints" "[I" (.ref fa) ∧ Fld Z h a0 "com/example/filters_under_siege/filtersundersiege/KeeperPairs" "counts" "[J" (.ref ca) ∧ Arv Z h fa kf .int (2 : Int32) [(.int (0 : Int32)), (.int (0 : Int32))] (.int (0 : Int32)) ∧ Arv Z h ca kc .long (2 : Int32) [(.long (0 : Int64)), (.long (0 : Int64))] (.long (0 : Int64)) ∧ h0.size ≤ fa ∧ h0.size ≤ ca ∧ Exa Z h fa "[I" ∧ Exa Z h ca "[J"
abbrev R4_1 : Room := ({ frames := 2, cells := 4, slots := 28, locals := 3074 } : Room)
set_option maxRecDepth 65536 in
set_option maxHeartbeats 40000000 in
theorem rm4_1 (l : Launch) (Z : State) (ar : Array Value) (hw : ∀ d ∈ tables_1, d.before ar Z = true) (ws : List Jvm.Cond) (a0 : Addr) (a1 : Addr) (h0 : Heap) (n0 : Nat) (O0 : Old Z n0 h0) (hEL : EW Z ar EL0) (HW : Wd Z w_lam k_lam) (pf0 : Exa Z h0 a0 "com/example/filters_under_siege/filtersundersiege/KeeperPairs") (pf1 : Fld Z h0 a0 "com/example/filters_under_siege/filtersundersiege/KeeperPairs" "shape" "Lcom/example/filters_under_siege/filtersundersiege/SketchShape;" .null) (pf2 : Fld Z h0 a0 "com/example/filters_under_siege/filtersundersiege/KeeperPairs" "fingerprints" "[I" .null) (pf3 : Fld Z h0 a0 "com/example/filters_under_siege/filtersundersiege/KeeperPairs" "counts" "[J" .null) (pf4 : Fld Z h0 a0 "com/example/filters_under_siege/filtersundersiege/KeeperPairs" "knocksDown" "Ljava/util/function/LongPredicate;" .null) (pf5 : n0 ≤ a0) (pf6 : Exa Z h0 a1 "com/example/filters_under_siege/filtersundersiege/SketchShape") (pf7 : Fld Z h0 a1 "com/example/filters_under_siege/filtersundersiege/SketchShape" "rows" "I" (.int (2 : Int32))) (pf8 : Fld Z h0 a1 "com/example/filters_under_siege/filtersundersiege/SketchShape" "width" "I" (.int (1 : Int32))) (pf9 : a0 ≠ a1) :
    MetFree l y4 (head1 (Jvm.Cond.code y4 prog_26_method_1_code 2 none :: ws) R4_1) (fun a U => a = #[(.ref a0), (.ref a1)] ∧ Z.Warmed39 U.vm ∧ U.heap = h0 ∧ CHv Z EL0 U.vm h0) (fun _ _ _ _ _ => True) (fun _ U o U' => ∃ v L, o = .returned v ∧ Q4_1 Z a0 a1 w_lam h0 n0 v U'.heap L ∧ CHr Z EL0 U.vm U.heap U'.vm U'.heap ∧ ReturnedEndW U o U' L R4_1.cells R4_1.slots) := by
 refine MetFree.of_bodySF (plainFor_of_name pn_3) hisR ?_
 intro p e s m args below meth c s₁ Bd hml0 hP hK
 obtain ⟨rfl, hZ, hh, hCH⟩ := hP
 have hx := Bd.exec
 have hby := Bd.bytes
 have hml : c.maxLocals = 2 := hml0
 have hown : s.vm.findClass "com/example/filters_under_siege/filtersundersiege/KeeperPairs" = some m.cls := findClass_of_methodNamed Bd.named
 have hnm := (name_of_methodNamed Bd.named Bd.method).1
 have hlk : meth.locks = false := by first | assumption | exact BodyLoose.notSynchronized (by assumption) | exact Body.notSynchronized (by assumption)
 have X0 : Stand p l e R4_1 (s.setVm s.vm) m #[(.ref a0), (.ref a1)] below meth c s₁ [] 0 0 := Stand.of_body Bd
 have e0 : s₁.heap = h0 := by rw [← hh, Bd.state]; rfl
 have N0 := Fr.nil n0
 have Z0 : n0 ≤ h0.size := Nat.le_trans (Nat.le_of_eq O0.1.symm) O0.2.1
 obtain ⟨S0, hS0⟩ : ∃ z, z = s₁.setTop (entryFrame m #[(.ref a0), (.ref a1)] 2) := ⟨_, rfl⟩
 have pre0 : ∀ tg, AT p e below s₁ m 0 #[rv a0, rv a1] [] tg → Steps p.tables e below S0 tg := fun tg kg => by rw [hS0]; exact castTop (ef_4_1 m a0 a1) kg
 have hS : s.Since s.vm 0 := (State.WarmedH.refl s).since 0
 have hk : 0 ≤ h0.size := Nat.zero_le _
 have CR0 : CHr Z EL0 s.vm h0 s.vm h0 := CHr.refl hCH
 obtain ⟨HLm, -⟩ := id HW
 have st1 := own_site X0 hx HLm hZ Bd.named (g := (mkF m 2 #[rv a0, rv a1] [(.ref a1), (.ref a0)])) rfl rfl (by rw [hml]; rfl) (hb hby d4_2) (W := 2) (by show 2 * 0 + _ ≤ _; exact Nat.le_of_eq rfl) (by decide)
 obtain ⟨_, _, ⟨T2, L2, k2, n2⟩, -, X2, hS2, hg2, ⟨Lc2, hQ2, l2, y2, z2, CRq2⟩, st2⟩ := X0.specialBackS hx (y := y5) rfl hown (mvT hZ (ow hw 30 rfl)) (mvT hZ (ow hw 31 rfl)) (mvT hZ (ow hw 32 rfl)) (by decide) (backOfSH (W := 0) (rm5_1 l Z ar hw [] a0 a1 w_lam h0 n0 O0 hEL pf0 pf1 pf2 pf3 pf4 pf5 pf6 pf7 pf8 pf9) hZ (ow hw 32 rfl) (ow hw 4 rfl) (by decide) (by decide) hEL CR0.1) (g := (mkF m 7 #[rv a0, rv a1] [(.ref w_lam), (.ref a1), (.ref a0)])) rfl (by rw [hml]; rfl) (Steps.refl _) (a := a0) (argsL := [(.ref a1), (.ref w_lam)]) (rest := []) (lenOf pd_3 rfl) rfl (by show 2 * 0 + _ ≤ _; exact Nat.le_of_eq rfl) (hb hby d4_7) (fun _ _ => ⟨rfl, e0, (by decide : 0 + 4 ≤ _), (by decide : 0 + 28 ≤ _)⟩)
 dsimp only [Pt.U, Pt.locs, Pt.cells, Pt.slots] at X2 l2 y2 z2 st2 hQ2 hS2 hg2 CRq2
 subst l2 y2 z2
 obtain ⟨X2, hS, hZ, hown⟩ := rebS hS (by rw [e0]; exact hk) X2 hS2 hg2 hZ hown
 have CR2 : CHr Z EL0 s.vm h0 T2.vm T2.heap := CR0.trans CRq2
 obtain ⟨fa_2, ca_2, kf_2, kc_2, rfl, N2q, Kq2, u2_0, u2_1, u2_2, u2_3, u2_4, u2_5, u2_6, u2_7, u2_8, u2_9, u2_10⟩ := hQ2
 have N2 := Fr.app N0 N2q
 have E2_3 := pf0.keep Kq2
 have E2_4 := pf6.keep Kq2
 have F2_5 := pf7.keep Kq2 (ninS (Ne.symm pf9) nin0)
 have F2_6 := pf8.keep Kq2 (ninS (Ne.symm pf9) nin0)
 have K2 := (Keep.refl h0 [a0]).trans Kq2 (allS (Or.inl (List.mem_of_getElem? (i := 0) rfl)) all0)
 have O2 := O0.keep Kq2 (allS pf5 all0)
 have hk := Nat.le_trans hk Kq2.1
 have hk := Nat.le_refl (Array.size T2.heap)
 have sz7 : h0.size ≤ fa_2 := Nat.le_trans (Keep.refl h0 [a0]).1 u2_7
 have gn7 : n0 ≤ fa_2 := Nat.le_trans (Nat.le_trans (Nat.le_of_eq O0.1.symm) O0.2.1) u2_7
 have ne8 : a0 ≠ fa_2 := Nat.ne_of_lt (Nat.lt_of_lt_of_le (pf0).lt u2_7)
 have ne9 : a1 ≠ fa_2 := Nat.ne_of_lt (Nat.lt_of_lt_of_le (pf6).lt u2_7)
 have sz10 : h0.size ≤ ca_2 := Nat.le_trans (Keep.refl h0 [a0]).1 u2_8
 have gn10 : n0 ≤ ca_2 := Nat.le_trans (Nat.le_trans (Nat.le_of_eq O0.1.symm) O0.2.1) u2_8
 have ne11 : a0 ≠ ca_2 := Nat.ne_of_lt (Nat.lt_of_lt_of_le (pf0).lt u2_8)
 have ne12 : a1 ≠ ca_2 := Nat.ne_of_lt (Nat.lt_of_lt_of_le (pf6).lt u2_8)
 obtain ⟨fs, hr, hrun, hended, hRE⟩ := X2.leaveW hS hk (v := none) (fun _ => rfl)
 have CRf : CHr Z EL0 s.vm s.heap (T2.setFrames fs).vm (T2.setFrames fs).heap := by
   show CHr Z EL0 s.vm s.heap T2.vm T2.heap
   rw [hh]
   exact CR2.trans (CHv.at X2 hZ hEL CR2.1)
 subst hS0
 refine ⟨_, _, pre0 _ ?_, hrun, hended, _, _, rfl, ?_, CRf, hRE.1, hRE.2.1, hRE.2.2.1, hRE.2.2.2.mono (by decide) (by decide)⟩
 ·
  refine XS.aloadN X0.here hx rfl (hb hby d4_0) rfl rfl ?_
  refine XS.aloadN X0.here hx rfl (hb hby d4_1) rfl rfl ?_
  refine st1 _ ?_
  refine st2.trans ?_
  exact X2.returnOut hx Bd.returns (hb hby d4_10) hr
 ·
  show Q4_1 Z a0 a1 w_lam h0 n0 _ T2.heap _
  exact ⟨fa_2, ca_2, kf_2, kc_2, rfl, N2, K2, E2_3, u2_1, u2_2, u2_3, u2_4, u2_5, u2_6, sz7, sz10, u2_9, u2_10⟩

theorem d8_0 : decode prog_26_method_4_code 0 = .ok (.iconst 0, 1) := by decide +kernel
theorem d8_1 : decode prog_26_method_4_code 1 = .ok (.istore_n 3, 1) := by decide +kernel
theorem d8_2 : decode prog_26_method_4_code 2 = .ok (.iload_n 3, 1) := by decide +kernel
theorem d8_3 : decode prog_26_method_4_code 3 = .ok (.aload_n 1, 1) := by decide +kernel
theorem d8_4 : decode prog_26_method_4_code 4 = .ok (.arraylength, 1) := by decide +kernel
theorem d8_5 : decode prog_26_method_4_code 5 = .ok (.if_icmp .ge 127, 3) := by decide +kernel
theorem d8_8 : decode prog_26_method_4_code 8 = .ok (.iload_n 3, 1) := by decide +kernel
theorem d8_9 : decode prog_26_method_4_code 9 = .ok (.aload_n 0, 1) := by decide +kernel
theorem d8_10 : decode prog_26_method_4_code 10 = .ok (.getfield 31, 3) := by decide +kernel
theorem d8_13 : decode prog_26_method_4_code 13 = .ok (.invokevirtual 50, 3) := by decide +kernel
theorem d8_16 : decode prog_26_method_4_code 16 = .ok (.imul, 1) := by decide +kernel
theorem d8_17 : decode prog_26_method_4_code 17 = .ok (.aload_n 1, 1) := by decide +kernel
theorem d8_18 : decode prog_26_method_4_code 18 = .ok (.iload_n 3, 1) := by decide +kernel
theorem d8_19 : decode prog_26_method_4_code 19 = .ok (.iaload, 1) := by decide +kernel
theorem d8_20 : decode prog_26_method_4_code 20 = .ok (.iadd, 1) := by decide +kernel
theorem d8_21 : decode prog_26_method_4_code 21 = .ok (.istore 4, 2) := by decide +kernel
theorem d8_23 : decode prog_26_method_4_code 23 = .ok (.aload_n 0, 1) := by decide +kernel
theorem d8_24 : decode prog_26_method_4_code 24 = .ok (.getfield 46, 3) := by decide +kernel
theorem d8_27 : decode prog_26_method_4_code 27 = .ok (.iload 4, 2) := by decide +kernel
theorem d8_29 : decode prog_26_method_4_code 29 = .ok (.laload, 1) := by decide +kernel
theorem d8_30 : decode prog_26_method_4_code 30 = .ok (.lconst 0, 1) := by decide +kernel
theorem d8_31 : decode prog_26_method_4_code 31 = .ok (.lcmp, 1) := by decide +kernel
theorem d8_32 : decode prog_26_method_4_code 32 = .ok (.ifCond .eq 14, 3) := by decide +kernel
theorem d8_35 : decode prog_26_method_4_code 35 = .ok (.aload_n 0, 1) := by decide +kernel
theorem d8_36 : decode prog_26_method_4_code 36 = .ok (.getfield 42, 3) := by decide +kernel
theorem d8_39 : decode prog_26_method_4_code 39 = .ok (.iload 4, 2) := by decide +kernel
theorem d8_41 : decode prog_26_method_4_code 41 = .ok (.iaload, 1) := by decide +kernel
theorem d8_42 : decode prog_26_method_4_code 42 = .ok (.iload_n 2, 1) := by decide +kernel
theorem d8_43 : decode prog_26_method_4_code 43 = .ok (.if_icmp .ne 25, 3) := by decide +kernel
theorem d8_46 : decode prog_26_method_4_code 46 = .ok (.aload_n 0, 1) := by decide +kernel
theorem d8_47 : decode prog_26_method_4_code 47 = .ok (.getfield 42, 3) := by decide +kernel
theorem d8_50 : decode prog_26_method_4_code 50 = .ok (.iload 4, 2) := by decide +kernel
theorem d8_52 : decode prog_26_method_4_code 52 = .ok (.iload_n 2, 1) := by decide +kernel
theorem d8_53 : decode prog_26_method_4_code 53 = .ok (.iastore, 1) := by decide +kernel
theorem d8_54 : decode prog_26_method_4_code 54 = .ok (.aload_n 0, 1) := by decide +kernel
theorem d8_55 : decode prog_26_method_4_code 55 = .ok (.getfield 46, 3) := by decide +kernel
theorem d8_58 : decode prog_26_method_4_code 58 = .ok (.iload 4, 2) := by decide +kernel
theorem d8_60 : decode prog_26_method_4_code 60 = .ok (.dup2, 1) := by decide +kernel
theorem d8_61 : decode prog_26_method_4_code 61 = .ok (.laload, 1) := by decide +kernel
theorem d8_62 : decode prog_26_method_4_code 62 = .ok (.lconst 1, 1) := by decide +kernel
theorem d8_63 : decode prog_26_method_4_code 63 = .ok (.ladd, 1) := by decide +kernel
theorem d8_64 : decode prog_26_method_4_code 64 = .ok (.lastore, 1) := by decide +kernel
theorem d8_65 : decode prog_26_method_4_code 65 = .ok (.goto 61, 3) := by decide +kernel
theorem d8_68 : decode prog_26_method_4_code 68 = .ok (.aload_n 0, 1) := by decide +kernel
theorem d8_69 : decode prog_26_method_4_code 69 = .ok (.getfield 34, 3) := by decide +kernel
theorem d8_72 : decode prog_26_method_4_code 72 = .ok (.aload_n 0, 1) := by decide +kernel
theorem d8_73 : decode prog_26_method_4_code 73 = .ok (.getfield 46, 3) := by decide +kernel
theorem d8_76 : decode prog_26_method_4_code 76 = .ok (.iload 4, 2) := by decide +kernel
theorem d8_78 : decode prog_26_method_4_code 78 = .ok (.laload, 1) := by decide +kernel
theorem d8_79 : decode prog_26_method_4_code 79 = .ok (.invokeinterface 53 3, 5) := by decide +kernel
theorem d8_84 : decode prog_26_method_4_code 84 = .ok (.ifCond .eq 42, 3) := by decide +kernel
theorem d8_87 : decode prog_26_method_4_code 87 = .ok (.aload_n 0, 1) := by decide +kernel
theorem d8_88 : decode prog_26_method_4_code 88 = .ok (.getfield 46, 3) := by decide +kernel
theorem d8_91 : decode prog_26_method_4_code 91 = .ok (.iload 4, 2) := by decide +kernel
theorem d8_93 : decode prog_26_method_4_code 93 = .ok (.dup2, 1) := by decide +kernel
theorem d8_94 : decode prog_26_method_4_code 94 = .ok (.laload, 1) := by decide +kernel
theorem d8_95 : decode prog_26_method_4_code 95 = .ok (.lconst 1, 1) := by decide +kernel
theorem d8_96 : decode prog_26_method_4_code 96 = .ok (.lsub, 1) := by decide +kernel
theorem d8_97 : decode prog_26_method_4_code 97 = .ok (.lastore, 1) := by decide +kernel
theorem d8_98 : decode prog_26_method_4_code 98 = .ok (.aload_n 0, 1) := by decide +kernel
theorem d8_99 : decode prog_26_method_4_code 99 = .ok (.getfield 46, 3) := by decide +kernel
theorem d8_102 : decode prog_26_method_4_code 102 = .ok (.iload 4, 2) := by decide +kernel
theorem d8_104 : decode prog_26_method_4_code 104 = .ok (.laload, 1) := by decide +kernel
theorem d8_105 : decode prog_26_method_4_code 105 = .ok (.lconst 0, 1) := by decide +kernel
theorem d8_106 : decode prog_26_method_4_code 106 = .ok (.lcmp, 1) := by decide +kernel
theorem d8_107 : decode prog_26_method_4_code 107 = .ok (.ifCond .ne 19, 3) := by decide +kernel
theorem d8_110 : decode prog_26_method_4_code 110 = .ok (.aload_n 0, 1) := by decide +kernel
theorem d8_111 : decode prog_26_method_4_code 111 = .ok (.getfield 42, 3) := by decide +kernel
theorem d8_114 : decode prog_26_method_4_code 114 = .ok (.iload 4, 2) := by decide +kernel
theorem d8_116 : decode prog_26_method_4_code 116 = .ok (.iload_n 2, 1) := by decide +kernel
theorem d8_117 : decode prog_26_method_4_code 117 = .ok (.iastore, 1) := by decide +kernel
theorem d8_118 : decode prog_26_method_4_code 118 = .ok (.aload_n 0, 1) := by decide +kernel
theorem d8_119 : decode prog_26_method_4_code 119 = .ok (.getfield 46, 3) := by decide +kernel
theorem d8_122 : decode prog_26_method_4_code 122 = .ok (.iload 4, 2) := by decide +kernel
theorem d8_124 : decode prog_26_method_4_code 124 = .ok (.lconst 1, 1) := by decide +kernel
theorem d8_125 : decode prog_26_method_4_code 125 = .ok (.lastore, 1) := by decide +kernel
theorem d8_126 : decode prog_26_method_4_code 126 = .ok (.iinc 3 1, 3) := by decide +kernel
theorem d8_129 : decode prog_26_method_4_code 129 = .ok (.goto (-127), 3) := by decide +kernel
theorem d8_132 : decode prog_26_method_4_code 132 = .ok (.return_, 1) := by decide +kernel
theorem ef_8_1 (m : MethodId) (a0 : Addr) (a1 : Addr) (p2 : Int32) : entryFrame m #[(.ref a0), (.ref a1), (.int p2)] 5 = mkF m 0 #[rv a0, rv a1, iv p2, un, un] [] := by first | (simp [entryFrame, mkF, argsToLocals, Value.category]; done) | rfl
def Q8_1 (Z : State) (a0 : Addr) (a1 : Addr) (p2 : Int32) (sh : Addr) (kk : ClassId) (c0 : Int32) (c1 : Int32) (fa : Addr) (ca : Addr) (kf : ClassId) (kc : ClassId) (f0 : Int32) (f1 : Int32) (k0 : Int64) (k1 : Int64) (h0 : Heap) (n0 : Nat) (v : Option Value) (h : Heap) (L : List Loc) : Prop := v = none ∧ Fr n0 L ∧ Keep h0 h [fa, ca] ∧ Arv Z h fa kf .int (2 : Int32) [(.int (pI c0 (0 : Int32) (nf (sJ1 c0 k0) (sI1 c0 f0) p2) f0)), (.int (pI c1 (0 : Int32) (nf (sJ1 c1 k1) (sI1 c1 f1) p2) f1))] (.int (0 : Int32)) ∧ Arv Z h ca kc .long (2 : Int32) [(.long (pJ c0 (0 : Int32) (nc (sJ1 c0 k0) (sI1 c0 f0) p2) k0)), (.long (pJ c1 (0 : Int32) (nc (sJ1 c1 k1) (sI1 c1 f1) p2) k1))] (.long (0 : Int64))
abbrev R8_1 : Room := ({ frames := 2, cells := 0, slots := 0, locals := 27 } : Room)
set_option maxRecDepth 65536 in
set_option maxHeartbeats 40000000 in
theorem rm8_1 (l : Launch) (Z : State) (ar : Array Value) (hw : ∀ d ∈ tables_1, d.before ar Z = true) (ws : List Jvm.Cond) (a0 : Addr) (a1 : Addr) (p2 : Int32) (sh : Addr) (kk : ClassId) (c0 : Int32) (c1 : Int32) (fa : Addr) (ca : Addr) (kf : ClassId) (kc : ClassId) (f0 : Int32) (f1 : Int32) (k0 : Int64) (k1 : Int64) (h0 : Heap) (n0 : Nat) (O0 : Old Z n0 h0) (HW : Wd Z w_lam k_lam) (pf0 : Exa Z h0 a0 "com/example/filters_under_siege/filtersundersiege/KeeperPairs") (pf1 : Fld Z h0 a0 "com/example/filters_under_siege/filtersundersiege/KeeperPairs" "shape" "Lcom/example/filters_under_siege/filtersundersiege/SketchShape;" (.ref sh)) (pf2 : Exa Z h0 sh "com/example/filters_under_siege/filtersundersiege/SketchShape") (pf3 : Fld Z h0 sh "com/example/filters_under_siege/filtersundersiege/SketchShape" "width" "I" (.int (1 : Int32))) (pf4 : Fld Z h0 a0 "com/example/filters_under_siege/filtersundersiege/KeeperPairs" "fingerprints" "[I" (.ref fa)) (pf5 : Fld Z h0 a0 "com/example/filters_under_siege/filtersundersiege/KeeperPairs" "counts" "[J" (.ref ca)) (pf6 : Fld Z h0 a0 "com/example/filters_under_siege/filtersundersiege/KeeperPairs" "knocksDown" "Ljava/util/function/LongPredicate;" (.ref w_lam)) (pf7 : Exa Z h0 a1 "[I") (pf8 : Arv Z h0 a1 kk .int (2 : Int32) [(.int c0), (.int c1)] (.int (0 : Int32))) (pf9 : Exa Z h0 fa "[I") (pf10 : Exa Z h0 ca "[J") (pf11 : Arv Z h0 fa kf .int (2 : Int32) [(.int f0), (.int f1)] (.int (0 : Int32))) (pf12 : Arv Z h0 ca kc .long (2 : Int32) [(.long k0), (.long k1)] (.long (0 : Int64))) (pf13 : n0 ≤ fa) (pf14 : n0 ≤ ca) (pf15 : a1 ≠ fa) (hc0 : c0 = (0 : Int32)) (hc1 : c1 = (0 : Int32)) :
    MetFree l y8 (head1 (Jvm.Cond.code y8 prog_26_method_4_code 5 none :: ws) R8_1) (fun a U => a = #[(.ref a0), (.ref a1), (.int p2)] ∧ Z.Warmed39 U.vm ∧ U.heap = h0) (fun _ _ _ _ _ => True) (fun _ U o U' => ∃ v L, o = .returned v ∧ Q8_1 Z a0 a1 p2 sh kk c0 c1 fa ca kf kc f0 f1 k0 k1 h0 n0 v U'.heap L ∧ FrameEnd U o U' L R8_1.cells R8_1.slots) := by
 refine MetFree.of_bodySF (plainFor_of_name pn_3) hisR ?_
 intro p e s m args below meth c s₁ Bd hml0 hP hK
 obtain ⟨rfl, hZ, hh⟩ := hP
 have hx := Bd.exec
 have hby := Bd.bytes
 have hml : c.maxLocals = 5 := hml0
 have hown : s.vm.findClass "com/example/filters_under_siege/filtersundersiege/KeeperPairs" = some m.cls := findClass_of_methodNamed Bd.named
 have hnm := (name_of_methodNamed Bd.named Bd.method).1
 have hlk : meth.locks = false := by first | assumption | exact BodyLoose.notSynchronized (by assumption) | exact Body.notSynchronized (by assumption)
 have X0 : Stand p l e R8_1 s m #[(.ref a0), (.ref a1), (.int p2)] below meth c s₁ [] 0 0 := Stand.of_body Bd
 have e0 : s₁.heap = h0 := by rw [← hh, Bd.state]; rfl
 have N0 := Fr.nil n0
 have Z0 : n0 ≤ h0.size := Nat.le_trans (Nat.le_of_eq O0.1.symm) O0.2.1
 obtain ⟨S0, hS0⟩ : ∃ z, z = s₁.setTop (entryFrame m #[(.ref a0), (.ref a1), (.int p2)] 5) := ⟨_, rfl⟩
 have pre0 : ∀ tg, AT p e below s₁ m 0 #[rv a0, rv a1, iv p2, un, un] [] tg → Steps p.tables e below S0 tg := fun tg kg => by rw [hS0]; exact castTop (ef_8_1 m a0 a1 p2) kg
 obtain ⟨HLm, -⟩ := id HW
 have n_a0_fa : a0 ≠ fa := (ne_exa pf0 pf9 (by decide))
 have n_a0_ca : a0 ≠ ca := (ne_exa pf0 pf10 (by decide))
 have n_sh_fa : sh ≠ fa := (ne_exa pf2 pf9 (by decide))
 have n_sh_ca : sh ≠ ca := (ne_exa pf2 pf10 (by decide))
 have n_a1_ca : a1 ≠ ca := (ne_exa pf7 pf10 (by decide))
 have n_fa_ca : fa ≠ ca := (ne_exa pf9 pf10 (by decide))
 obtain ⟨cl1, Ar1, q1, S1, N1, H1, G1⟩ := id pf8
 obtain ⟨T2, X2, e2, st2⟩ := getF X0 hx hZ hown (host := "") (Or.inl (ow hw 48 rfl)) Via.refl e0 pf1 (g := (mkF m 10 #[rv a0, rv a1, iv p2, iv (0 : Int32), un] [(.ref a0), (.int (0 : Int32))])) rfl rfl (hb hby d8_10)
 obtain ⟨cq3, kq3, q3a, q3b, q3c⟩ := isOf hZ e2 pf2
 obtain ⟨_, _, ⟨T3, L3, k3, n3⟩, -, X3, ⟨Lc3, hQ3, l3, y3, z3⟩, st3⟩ := X2.virtualBack hx (y := y9) (z := y9) hown (mvT hZ (ow hw 67 rfl)) (mvT hZ (ow hw 68 rfl)) (notFace_of_selects (args := #[]) (mvT hZ (ow hw 70 rfl))) (mvT hZ (ow hw 70 rfl)) (mvT hZ (ow hw 69 rfl)) (by decide) (backOf (W := 1) (rm9 l Z ar hw [] sh _ h0 n0 O0 pf3) hZ (ow hw 71 rfl) (ow hw 7 rfl) (by decide) (by decide)) q3a q3c (g := (mkF m 13 #[rv a0, rv a1, iv p2, iv (0 : Int32), un] [(.ref sh), (.int (0 : Int32))])) rfl (by rw [hml]; rfl) (Steps.refl _) (argsL := []) (rest := [(.int (0 : Int32))]) (lenOf pd_2 rfl) rfl (by show 2 * 0 + _ ≤ _; exact Nat.le_of_eq rfl) (hb hby d8_13) (fun _ _ => ⟨rfl, e2, (by decide : 0 + 0 ≤ _), (by decide : 0 + 0 ≤ _)⟩)
 dsimp only [Pt.U, Pt.locs, Pt.cells, Pt.slots] at X3 l3 y3 z3 st3 hQ3
 subst l3 y3 z3
 obtain ⟨rfl, N3q, e3⟩ := hQ3
 have N3 := Fr.app N0 N3q
 obtain ⟨cl4, Ar4, q4, S4, N4, H4, G4⟩ := id pf8
 have hin4 := own_in (0 : Int32) S4 ⟨by decide, by decide⟩
 have hat4 : cl4.slots[((0 : Int32)).toNatClampNeg]? = some (.int c0) := Has.at H4 hin4 rfl
 have pre5 : ∀ tg, AT p e below T3 m 23 #[rv a0, rv a1, iv p2, iv (0 : Int32), iv ((0 : Int32) + c0)] [] tg → Steps p.tables e below S0 tg := fun tg kg => pre0 tg (by
  refine XS.iconst X0.here hx rfl (hb hby d8_0) ?_
  refine XS.istoreN X0.here hx rfl (hb hby d8_1) rfl (l' := #[rv a0, rv a1, iv p2, iv (0 : Int32), un]) rfl ?_
  refine XS.iloadN X0.here hx rfl (hb hby d8_2) rfl ?_
  refine XS.aloadN X0.here hx rfl (hb hby d8_3) rfl rfl ?_
  refine X0.arraylength hx (by rw [e0]; exact Ar1.1) (State.isArrayOf_alike hZ.alike Ar1.2.1) (g := (mkF m 4 #[rv a0, rv a1, iv p2, iv (0 : Int32), un] [(.ref a1), (.int (0 : Int32))])) rfl rfl (hb hby d8_4) _ ?_
  rw [len_of S1 N1]
  show AT p e below s₁ m 5 #[rv a0, rv a1, iv p2, iv (0 : Int32), un] [(.int (2 : Int32)), (.int (0 : Int32))] _
  refine XS.icmpNo X0.here hx rfl (hb hby d8_5) rfl (XT.ii_ge_f ((by decide) : (0 : Int32) < (2 : Int32))) ?_
  refine XS.iloadN X0.here hx rfl (hb hby d8_8) rfl ?_
  refine XS.aloadN X0.here hx rfl (hb hby d8_9) rfl rfl ?_
  refine st2 _ ?_
  refine st3.trans ?_
  refine XS.imul X3.here hx rfl (hb hby d8_16) rfl ?_
  refine XS.aloadN X3.here hx rfl (hb hby d8_17) rfl rfl ?_
  refine XS.iloadN X3.here hx rfl (hb hby d8_18) rfl ?_
  refine X3.iaload hx (j := (0 : Int32)) (v := (.int c0)) (by rw [e3]; exact Ar4.1) (State.isArrayOf_alike hZ.alike Ar4.2.1) Ar4.2.2 hin4 hat4 (g := (mkF m 19 #[rv a0, rv a1, iv p2, iv (0 : Int32), un] [(.int (0 : Int32)), (.ref a1), (.int (0 : Int32))])) rfl rfl (hb hby d8_19) _ ?_
  refine XS.iadd X3.here hx rfl (hb hby d8_20) rfl ?_
  refine XS.istore X3.here hx rfl (hb hby d8_21) rfl (l' := #[rv a0, rv a1, iv p2, iv (0 : Int32), iv ((0 : Int32) + c0)]) rfl ?_
  exact kg)
 obtain ⟨Kz0, hKz0⟩ : ∃ z, z = (sJ1 c0 k0) := ⟨_, rfl⟩
 obtain ⟨Fz0, hFz0⟩ : ∃ z, z = (sI1 c0 f0) := ⟨_, rfl⟩
 obtain ⟨T6, h6, L6, X6, e6, N6, K6, O6, J6_0, J6_1, J6_2, J6_3, J6_4, J6_5, J6_6, J6_7, J6_8, J6_9, J6_10, J6_11, J6_12, pre6⟩ : ∃ (T6 : State) (h6 : Heap) (L6 : List Loc), Stand p l e R8_1 s m #[(.ref a0), (.ref a1), (.int p2)] below meth c T6 L6 (0 + 0) (0 + 0) ∧ T6.heap = h6 ∧ Fr n0 L6 ∧ Keep h0 h6 [fa, ca] ∧ Old Z n0 h6 ∧ Exa Z h6 a0 "com/example/filters_under_siege/filtersundersiege/KeeperPairs" ∧ Fld Z h6 a0 "com/example/filters_under_siege/filtersundersiege/KeeperPairs" "shape" "Lcom/example/filters_under_siege/filtersundersiege/SketchShape;" (.ref sh) ∧ Exa Z h6 sh "com/example/filters_under_siege/filtersundersiege/SketchShape" ∧ Fld Z h6 sh "com/example/filters_under_siege/filtersundersiege/SketchShape" "width" "I" (.int (1 : Int32)) ∧ Fld Z h6 a0 "com/example/filters_under_siege/filtersundersiege/KeeperPairs" "fingerprints" "[I" (.ref fa) ∧ Fld Z h6 a0 "com/example/filters_under_siege/filtersundersiege/KeeperPairs" "counts" "[J" (.ref ca) ∧ Fld Z h6 a0 "com/example/filters_under_siege/filtersundersiege/KeeperPairs" "knocksDown" "Ljava/util/function/LongPredicate;" (.ref w_lam) ∧ Exa Z h6 a1 "[I" ∧ Arv Z h6 a1 kk .int (2 : Int32) [(.int c0), (.int c1)] (.int (0 : Int32)) ∧ Exa Z h6 fa "[I" ∧ Exa Z h6 ca "[J" ∧ Arv Z h6 fa kf .int (2 : Int32) [(.int (pI c0 (0 : Int32) (nf Kz0 Fz0 p2) f0)), (.int f1)] (.int (0 : Int32)) ∧ Arv Z h6 ca kc .long (2 : Int32) [(.long (pJ c0 (0 : Int32) (nc Kz0 Fz0 p2) k0)), (.long k1)] (.long (0 : Int64)) ∧ (∀ tg, AT p e below T6 m 126 #[rv a0, rv a1, iv p2, iv (0 : Int32), iv ((0 : Int32) + c0)] [] tg → Steps p.tables e below S0 tg) := by
  obtain ⟨T7, X7, e7, st7⟩ := getF X3 hx hZ hown (host := "") (Or.inl (ow hw 60 rfl)) Via.refl e3 pf5 (g := (mkF m 24 #[rv a0, rv a1, iv p2, iv (0 : Int32), iv ((0 : Int32) + c0)] [(.ref a0)])) rfl rfl (hb hby d8_24)
  obtain ⟨cl8, Ar8, q8, S8, N8, H8, G8⟩ := id pf12
  have hin8 := own_in ((0 : Int32) + c0) S8 (own_b1_0 hc0)
  have hat8 : cl8.slots[(((0 : Int32) + c0)).toNatClampNeg]? = some (.long Kz0) := Has.at H8 hin8 ((own_gJ1_0 hc0).trans (congrArg Value.long hKz0.symm))
  have pre9 : ∀ tg, AT p e below T7 m 32 #[rv a0, rv a1, iv p2, iv (0 : Int32), iv ((0 : Int32) + c0)] [(.int (XT.cmpL Kz0 (0 : Int64)))] tg → Steps p.tables e below S0 tg := fun tg kg => pre5 tg (by
   refine XS.aloadN X3.here hx rfl (hb hby d8_23) rfl rfl ?_
   refine st7 _ ?_
   refine XS.iload X7.here hx rfl (hb hby d8_27) rfl ?_
   refine X7.laload hx (j := ((0 : Int32) + c0)) (v := (.long Kz0)) (by rw [e7]; exact Ar8.1) (State.isArrayOf_alike hZ.alike Ar8.2.1) Ar8.2.2 hin8 hat8 (g := (mkF m 29 #[rv a0, rv a1, iv p2, iv (0 : Int32), iv ((0 : Int32) + c0)] [(.int ((0 : Int32) + c0)), (.ref ca)])) rfl rfl (hb hby d8_29) _ ?_
   refine XS.lconst X7.here hx rfl (hb hby d8_30) ?_
   refine XS.lcmp X7.here hx rfl (hb hby d8_31) rfl ?_
   exact kg)
  rcases Decidable.em (Kz0 = (0 : Int64)) with hc10 | hc10
  ·
   obtain ⟨T11, X11, e11, st11⟩ := getF X7 hx hZ hown (host := "") (Or.inl (ow hw 57 rfl)) Via.refl e7 pf4 (g := (mkF m 47 #[rv a0, rv a1, iv p2, iv (0 : Int32), iv ((0 : Int32) + c0)] [(.ref a0)])) rfl rfl (hb hby d8_47)
   obtain ⟨cl12, Ar12, q12, S12, M12, H12, G12⟩ := id pf11
   have hin12 := own_in ((0 : Int32) + c0) S12 (own_b1_0 hc0)
   obtain ⟨T12, h12, X12, e12, W12, st12⟩ := stI X11 hx hZ e11 Ar12 (j := ((0 : Int32) + c0)) hin12 (g := (mkF m 53 #[rv a0, rv a1, iv p2, iv (0 : Int32), iv ((0 : Int32) + c0)] [(.int p2), (.int ((0 : Int32) + c0)), (.ref fa)])) rfl rfl (hb hby d8_53)
   have V12_13 : Arv Z h12 fa kf .int (2 : Int32) [(.int (pI c0 (0 : Int32) p2 f0)), (.int f1)] (.int (0 : Int32)) := by have q := Arv.set Ar12 q12 S12 M12 H12 G12 rfl W12 (((0 : Int32) + c0)).toNatClampNeg rfl (own_k1_0 hc0); rw [own_sI1_0 hc0] at q; exact q
   have E12_14 := pf0.wr W12
   have F12_15 := pf1.other W12 (Or.inl n_a0_fa)
   have E12_16 := pf2.wr W12
   have F12_17 := pf3.other W12 (Or.inl n_sh_fa)
   have F12_18 := pf4.other W12 (Or.inl n_a0_fa)
   have F12_19 := pf5.other W12 (Or.inl n_a0_fa)
   have F12_20 := pf6.other W12 (Or.inl n_a0_fa)
   have E12_21 := pf7.wr W12
   have V12_22 := pf8.other W12 pf15
   have E12_23 := pf9.wr W12
   have E12_24 := pf10.wr W12
   have V12_25 := pf12.other W12 (Ne.symm n_fa_ca)
   have K12 := (Keep.refl h0 [fa, ca]).wr W12 (Or.inl (List.mem_of_getElem? (i := 0) rfl))
   have O12 := O0.wr W12 pf13
   have N12 := Fr.snoc X12 N3 pf13
   obtain ⟨T26, X26, e26, st26⟩ := getF X12 hx hZ hown (host := "") (Or.inl (ow hw 60 rfl)) Via.refl e12 F12_19 (g := (mkF m 55 #[rv a0, rv a1, iv p2, iv (0 : Int32), iv ((0 : Int32) + c0)] [(.ref a0)])) rfl rfl (hb hby d8_55)
   obtain ⟨cl27, Ar27, q27, S27, N27, H27, G27⟩ := id V12_25
   have hin27 := own_in ((0 : Int32) + c0) S27 (own_b1_0 hc0)
   have hat27 : cl27.slots[(((0 : Int32) + c0)).toNatClampNeg]? = some (.long Kz0) := Has.at H27 hin27 ((own_gJ1_0 hc0).trans (congrArg Value.long hKz0.symm))
   obtain ⟨cl28, Ar28, q28, S28, M28, H28, G28⟩ := id V12_25
   have hin28 := own_in ((0 : Int32) + c0) S28 (own_b1_0 hc0)
   obtain ⟨T28, h28, X28, e28, W28, st28⟩ := stJ X26 hx hZ e26 Ar28 (j := ((0 : Int32) + c0)) hin28 (g := (mkF m 64 #[rv a0, rv a1, iv p2, iv (0 : Int32), iv ((0 : Int32) + c0)] [(.long (Kz0 + (1 : Int64))), (.int ((0 : Int32) + c0)), (.ref ca)])) rfl rfl (hb hby d8_64)
   have V28_29 : Arv Z h28 ca kc .long (2 : Int32) [(.long (pJ c0 (0 : Int32) (Kz0 + (1 : Int64)) k0)), (.long k1)] (.long (0 : Int64)) := by have q := Arv.set Ar28 q28 S28 M28 H28 G28 rfl W28 (((0 : Int32) + c0)).toNatClampNeg rfl (own_k1_0 hc0); rw [own_sJ1_0 hc0] at q; exact q
   have E28_30 := E12_14.wr W28
   have F28_31 := F12_15.other W28 (Or.inl n_a0_ca)
   have E28_32 := E12_16.wr W28
   have F28_33 := F12_17.other W28 (Or.inl n_sh_ca)
   have F28_34 := F12_18.other W28 (Or.inl n_a0_ca)
   have F28_35 := F12_19.other W28 (Or.inl n_a0_ca)
   have F28_36 := F12_20.other W28 (Or.inl n_a0_ca)
   have E28_37 := E12_21.wr W28
   have V28_38 := V12_22.other W28 n_a1_ca
   have E28_39 := E12_23.wr W28
   have E28_40 := E12_24.wr W28
   have V28_41 := V12_13.other W28 n_fa_ca
   have K28 := K12.wr W28 (Or.inl (List.mem_of_getElem? (i := 1) rfl))
   have O28 := O12.wr W28 pf14
   have N28 := Fr.snoc X28 N12 pf14
   have pre42 : ∀ tg, AT p e below T28 m 126 #[rv a0, rv a1, iv p2, iv (0 : Int32), iv ((0 : Int32) + c0)] [] tg → Steps p.tables e below S0 tg := fun tg kg => pre9 tg (by
    refine XS.ifYes X7.here hx rfl (pc0 := 32) (pc' := 46) rfl (hb hby d8_32) rfl (XT.ll_eq_t hc10) (by decide) (by decide) ?_
    refine XS.aloadN X7.here hx rfl (hb hby d8_46) rfl rfl ?_
    refine st11 _ ?_
    refine XS.iload X11.here hx rfl (hb hby d8_50) rfl ?_
    refine XS.iloadN X11.here hx rfl (hb hby d8_52) rfl ?_
    refine st12 _ ?_
    refine XS.aloadN X12.here hx rfl (hb hby d8_54) rfl rfl ?_
    refine st26 _ ?_
    refine XS.iload X26.here hx rfl (hb hby d8_58) rfl ?_
    refine XT.dup2 X26.here hx rfl (hb hby d8_60) rfl rfl rfl ?_
    refine X26.laload hx (j := ((0 : Int32) + c0)) (v := (.long Kz0)) (by rw [e26]; exact Ar27.1) (State.isArrayOf_alike hZ.alike Ar27.2.1) Ar27.2.2 hin27 hat27 (g := (mkF m 61 #[rv a0, rv a1, iv p2, iv (0 : Int32), iv ((0 : Int32) + c0)] [(.int ((0 : Int32) + c0)), (.ref ca), (.int ((0 : Int32) + c0)), (.ref ca)])) rfl rfl (hb hby d8_61) _ ?_
    refine XS.lconst X26.here hx rfl (hb hby d8_62) ?_
    refine XS.ladd X26.here hx rfl (hb hby d8_63) rfl ?_
    refine st28 _ ?_
    refine XS.goto X28.here hx rfl (pc0 := 65) (pc' := 126) rfl (hb hby d8_65) (by decide) (by decide) ?_
    exact kg)
   have hj43 : (pI c0 (0 : Int32) (nf Kz0 Fz0 p2) f0) = (pI c0 (0 : Int32) p2 f0) := by simp only [nf, if_pos hc10]
   have hj44 : (pJ c0 (0 : Int32) (nc Kz0 Fz0 p2) k0) = (pJ c0 (0 : Int32) (Kz0 + (1 : Int64)) k0) := by simp only [nc, if_pos hc10]
   exact ⟨_, _, _, X28, e28, N28, K28, O28, E28_30, F28_31, E28_32, F28_33, F28_34, F28_35, F28_36, E28_37, V28_38, E28_39, E28_40, (by rw [hj43]; exact V28_41), (by rw [hj44]; exact V28_29), pre42⟩
  ·
   obtain ⟨T45, X45, e45, st45⟩ := getF X7 hx hZ hown (host := "") (Or.inl (ow hw 57 rfl)) Via.refl e7 pf4 (g := (mkF m 36 #[rv a0, rv a1, iv p2, iv (0 : Int32), iv ((0 : Int32) + c0)] [(.ref a0)])) rfl rfl (hb hby d8_36)
   obtain ⟨cl46, Ar46, q46, S46, N46, H46, G46⟩ := id pf11
   have hin46 := own_in ((0 : Int32) + c0) S46 (own_b1_0 hc0)
   have hat46 : cl46.slots[(((0 : Int32) + c0)).toNatClampNeg]? = some (.int Fz0) := Has.at H46 hin46 ((own_gI1_0 hc0).trans (congrArg Value.int hFz0.symm))
   have pre47 : ∀ tg, AT p e below T45 m 43 #[rv a0, rv a1, iv p2, iv (0 : Int32), iv ((0 : Int32) + c0)] [(.int p2), (.int Fz0)] tg → Steps p.tables e below S0 tg := fun tg kg => pre9 tg (by
    refine XS.ifNo X7.here hx rfl (hb hby d8_32) rfl (XT.ll_eq_f hc10) ?_
    refine XS.aloadN X7.here hx rfl (hb hby d8_35) rfl rfl ?_
    refine st45 _ ?_
    refine XS.iload X45.here hx rfl (hb hby d8_39) rfl ?_
    refine X45.iaload hx (j := ((0 : Int32) + c0)) (v := (.int Fz0)) (by rw [e45]; exact Ar46.1) (State.isArrayOf_alike hZ.alike Ar46.2.1) Ar46.2.2 hin46 hat46 (g := (mkF m 41 #[rv a0, rv a1, iv p2, iv (0 : Int32), iv ((0 : Int32) + c0)] [(.int ((0 : Int32) + c0)), (.ref fa)])) rfl rfl (hb hby d8_41) _ ?_
    refine XS.iloadN X45.here hx rfl (hb hby d8_42) rfl ?_
    exact kg)
   rcases Decidable.em (Fz0 = p2) with hc48 | hc48
   ·
    obtain ⟨T49, X49, e49, st49⟩ := getF X45 hx hZ hown (host := "") (Or.inl (ow hw 57 rfl)) Via.refl e45 pf4 (g := (mkF m 47 #[rv a0, rv a1, iv p2, iv (0 : Int32), iv ((0 : Int32) + c0)] [(.ref a0)])) rfl rfl (hb hby d8_47)
    obtain ⟨cl50, Ar50, q50, S50, M50, H50, G50⟩ := id pf11
    have hin50 := own_in ((0 : Int32) + c0) S50 (own_b1_0 hc0)
    obtain ⟨T50, h50, X50, e50, W50, st50⟩ := stI X49 hx hZ e49 Ar50 (j := ((0 : Int32) + c0)) hin50 (g := (mkF m 53 #[rv a0, rv a1, iv p2, iv (0 : Int32), iv ((0 : Int32) + c0)] [(.int p2), (.int ((0 : Int32) + c0)), (.ref fa)])) rfl rfl (hb hby d8_53)
    have V50_51 : Arv Z h50 fa kf .int (2 : Int32) [(.int (pI c0 (0 : Int32) p2 f0)), (.int f1)] (.int (0 : Int32)) := by have q := Arv.set Ar50 q50 S50 M50 H50 G50 rfl W50 (((0 : Int32) + c0)).toNatClampNeg rfl (own_k1_0 hc0); rw [own_sI1_0 hc0] at q; exact q
    have E50_52 := pf0.wr W50
    have F50_53 := pf1.other W50 (Or.inl n_a0_fa)
    have E50_54 := pf2.wr W50
    have F50_55 := pf3.other W50 (Or.inl n_sh_fa)
    have F50_56 := pf4.other W50 (Or.inl n_a0_fa)
    have F50_57 := pf5.other W50 (Or.inl n_a0_fa)
    have F50_58 := pf6.other W50 (Or.inl n_a0_fa)
    have E50_59 := pf7.wr W50
    have V50_60 := pf8.other W50 pf15
    have E50_61 := pf9.wr W50
    have E50_62 := pf10.wr W50
    have V50_63 := pf12.other W50 (Ne.symm n_fa_ca)
    have K50 := (Keep.refl h0 [fa, ca]).wr W50 (Or.inl (List.mem_of_getElem? (i := 0) rfl))
    have O50 := O0.wr W50 pf13
    have N50 := Fr.snoc X50 N3 pf13
    obtain ⟨T64, X64, e64, st64⟩ := getF X50 hx hZ hown (host := "") (Or.inl (ow hw 60 rfl)) Via.refl e50 F50_57 (g := (mkF m 55 #[rv a0, rv a1, iv p2, iv (0 : Int32), iv ((0 : Int32) + c0)] [(.ref a0)])) rfl rfl (hb hby d8_55)
    obtain ⟨cl65, Ar65, q65, S65, N65, H65, G65⟩ := id V50_63
    have hin65 := own_in ((0 : Int32) + c0) S65 (own_b1_0 hc0)
    have hat65 : cl65.slots[(((0 : Int32) + c0)).toNatClampNeg]? = some (.long Kz0) := Has.at H65 hin65 ((own_gJ1_0 hc0).trans (congrArg Value.long hKz0.symm))
    obtain ⟨cl66, Ar66, q66, S66, M66, H66, G66⟩ := id V50_63
    have hin66 := own_in ((0 : Int32) + c0) S66 (own_b1_0 hc0)
    obtain ⟨T66, h66, X66, e66, W66, st66⟩ := stJ X64 hx hZ e64 Ar66 (j := ((0 : Int32) + c0)) hin66 (g := (mkF m 64 #[rv a0, rv a1, iv p2, iv (0 : Int32), iv ((0 : Int32) + c0)] [(.long (Kz0 + (1 : Int64))), (.int ((0 : Int32) + c0)), (.ref ca)])) rfl rfl (hb hby d8_64)
    have V66_67 : Arv Z h66 ca kc .long (2 : Int32) [(.long (pJ c0 (0 : Int32) (Kz0 + (1 : Int64)) k0)), (.long k1)] (.long (0 : Int64)) := by have q := Arv.set Ar66 q66 S66 M66 H66 G66 rfl W66 (((0 : Int32) + c0)).toNatClampNeg rfl (own_k1_0 hc0); rw [own_sJ1_0 hc0] at q; exact q
    have E66_68 := E50_52.wr W66
    have F66_69 := F50_53.other W66 (Or.inl n_a0_ca)
    have E66_70 := E50_54.wr W66
    have F66_71 := F50_55.other W66 (Or.inl n_sh_ca)
    have F66_72 := F50_56.other W66 (Or.inl n_a0_ca)
    have F66_73 := F50_57.other W66 (Or.inl n_a0_ca)
    have F66_74 := F50_58.other W66 (Or.inl n_a0_ca)
    have E66_75 := E50_59.wr W66
    have V66_76 := V50_60.other W66 n_a1_ca
    have E66_77 := E50_61.wr W66
    have E66_78 := E50_62.wr W66
    have V66_79 := V50_51.other W66 n_fa_ca
    have K66 := K50.wr W66 (Or.inl (List.mem_of_getElem? (i := 1) rfl))
    have O66 := O50.wr W66 pf14
    have N66 := Fr.snoc X66 N50 pf14
    have pre80 : ∀ tg, AT p e below T66 m 126 #[rv a0, rv a1, iv p2, iv (0 : Int32), iv ((0 : Int32) + c0)] [] tg → Steps p.tables e below S0 tg := fun tg kg => pre47 tg (by
     refine XS.icmpNo X45.here hx rfl (hb hby d8_43) rfl (XT.ii_ne_f hc48) ?_
     refine XS.aloadN X45.here hx rfl (hb hby d8_46) rfl rfl ?_
     refine st49 _ ?_
     refine XS.iload X49.here hx rfl (hb hby d8_50) rfl ?_
     refine XS.iloadN X49.here hx rfl (hb hby d8_52) rfl ?_
     refine st50 _ ?_
     refine XS.aloadN X50.here hx rfl (hb hby d8_54) rfl rfl ?_
     refine st64 _ ?_
     refine XS.iload X64.here hx rfl (hb hby d8_58) rfl ?_
     refine XT.dup2 X64.here hx rfl (hb hby d8_60) rfl rfl rfl ?_
     refine X64.laload hx (j := ((0 : Int32) + c0)) (v := (.long Kz0)) (by rw [e64]; exact Ar65.1) (State.isArrayOf_alike hZ.alike Ar65.2.1) Ar65.2.2 hin65 hat65 (g := (mkF m 61 #[rv a0, rv a1, iv p2, iv (0 : Int32), iv ((0 : Int32) + c0)] [(.int ((0 : Int32) + c0)), (.ref ca), (.int ((0 : Int32) + c0)), (.ref ca)])) rfl rfl (hb hby d8_61) _ ?_
     refine XS.lconst X64.here hx rfl (hb hby d8_62) ?_
     refine XS.ladd X64.here hx rfl (hb hby d8_63) rfl ?_
     refine st66 _ ?_
     refine XS.goto X66.here hx rfl (pc0 := 65) (pc' := 126) rfl (hb hby d8_65) (by decide) (by decide) ?_
     exact kg)
    have hj81 : (pI c0 (0 : Int32) (nf Kz0 Fz0 p2) f0) = (pI c0 (0 : Int32) p2 f0) := by simp only [nf, if_neg hc10, if_pos hc48]
    have hj82 : (pJ c0 (0 : Int32) (nc Kz0 Fz0 p2) k0) = (pJ c0 (0 : Int32) (Kz0 + (1 : Int64)) k0) := by simp only [nc, if_neg hc10, if_pos hc48]
    exact ⟨_, _, _, X66, e66, N66, K66, O66, E66_68, F66_69, E66_70, F66_71, F66_72, F66_73, F66_74, E66_75, V66_76, E66_77, E66_78, (by rw [hj81]; exact V66_79), (by rw [hj82]; exact V66_67), pre80⟩
   ·
    obtain ⟨T83, X83, e83, st83⟩ := getF X45 hx hZ hown (host := "") (Or.inl (ow hw 50 rfl)) Via.refl e45 pf6 (g := (mkF m 69 #[rv a0, rv a1, iv p2, iv (0 : Int32), iv ((0 : Int32) + c0)] [(.ref a0)])) rfl rfl (hb hby d8_69)
    obtain ⟨T84, X84, e84, st84⟩ := getF X83 hx hZ hown (host := "") (Or.inl (ow hw 60 rfl)) Via.refl e83 pf5 (g := (mkF m 73 #[rv a0, rv a1, iv p2, iv (0 : Int32), iv ((0 : Int32) + c0)] [(.ref a0), (.ref w_lam)])) rfl rfl (hb hby d8_73)
    obtain ⟨cl85, Ar85, q85, S85, N85, H85, G85⟩ := id pf12
    have hin85 := own_in ((0 : Int32) + c0) S85 (own_b1_0 hc0)
    have hat85 : cl85.slots[(((0 : Int32) + c0)).toNatClampNeg]? = some (.long Kz0) := Has.at H85 hin85 ((own_gJ1_0 hc0).trans (congrArg Value.long hKz0.symm))
    obtain ⟨T86, X86, e86, st86⟩ := own_test X84 hx hw hZ hown HLm O0 e84 (g := (mkF m 79 #[rv a0, rv a1, iv p2, iv (0 : Int32), iv ((0 : Int32) + c0)] [(.long Kz0), (.ref w_lam)])) rfl (by rw [hml]; rfl) rfl (hb hby d8_79) (W := 0) (by show 2 * 0 + _ ≤ _; exact Nat.le_of_eq rfl) (by decide) (by decide) (by decide) (by decide)
    obtain ⟨T87, X87, e87, st87⟩ := getF X86 hx hZ hown (host := "") (Or.inl (ow hw 60 rfl)) Via.refl e86 pf5 (g := (mkF m 88 #[rv a0, rv a1, iv p2, iv (0 : Int32), iv ((0 : Int32) + c0)] [(.ref a0)])) rfl rfl (hb hby d8_88)
    obtain ⟨cl88, Ar88, q88, S88, N88, H88, G88⟩ := id pf12
    have hin88 := own_in ((0 : Int32) + c0) S88 (own_b1_0 hc0)
    have hat88 : cl88.slots[(((0 : Int32) + c0)).toNatClampNeg]? = some (.long Kz0) := Has.at H88 hin88 ((own_gJ1_0 hc0).trans (congrArg Value.long hKz0.symm))
    obtain ⟨cl89, Ar89, q89, S89, M89, H89, G89⟩ := id pf12
    have hin89 := own_in ((0 : Int32) + c0) S89 (own_b1_0 hc0)
    obtain ⟨T89, h89, X89, e89, W89, st89⟩ := stJ X87 hx hZ e87 Ar89 (j := ((0 : Int32) + c0)) hin89 (g := (mkF m 97 #[rv a0, rv a1, iv p2, iv (0 : Int32), iv ((0 : Int32) + c0)] [(.long (Kz0 - (1 : Int64))), (.int ((0 : Int32) + c0)), (.ref ca)])) rfl rfl (hb hby d8_97)
    have V89_90 : Arv Z h89 ca kc .long (2 : Int32) [(.long (pJ c0 (0 : Int32) (Kz0 - (1 : Int64)) k0)), (.long k1)] (.long (0 : Int64)) := by have q := Arv.set Ar89 q89 S89 M89 H89 G89 rfl W89 (((0 : Int32) + c0)).toNatClampNeg rfl (own_k1_0 hc0); rw [own_sJ1_0 hc0] at q; exact q
    have E89_91 := pf0.wr W89
    have F89_92 := pf1.other W89 (Or.inl n_a0_ca)
    have E89_93 := pf2.wr W89
    have F89_94 := pf3.other W89 (Or.inl n_sh_ca)
    have F89_95 := pf4.other W89 (Or.inl n_a0_ca)
    have F89_96 := pf5.other W89 (Or.inl n_a0_ca)
    have F89_97 := pf6.other W89 (Or.inl n_a0_ca)
    have E89_98 := pf7.wr W89
    have V89_99 := pf8.other W89 n_a1_ca
    have E89_100 := pf9.wr W89
    have E89_101 := pf10.wr W89
    have V89_102 := pf11.other W89 n_fa_ca
    have K89 := (Keep.refl h0 [fa, ca]).wr W89 (Or.inl (List.mem_of_getElem? (i := 1) rfl))
    have O89 := O0.wr W89 pf14
    have N89 := Fr.snoc X89 N3 pf14
    obtain ⟨T103, X103, e103, st103⟩ := getF X89 hx hZ hown (host := "") (Or.inl (ow hw 60 rfl)) Via.refl e89 F89_96 (g := (mkF m 99 #[rv a0, rv a1, iv p2, iv (0 : Int32), iv ((0 : Int32) + c0)] [(.ref a0)])) rfl rfl (hb hby d8_99)
    obtain ⟨cl104, Ar104, q104, S104, N104, H104, G104⟩ := id V89_90
    have hin104 := own_in ((0 : Int32) + c0) S104 (own_b1_0 hc0)
    have hat104 : cl104.slots[(((0 : Int32) + c0)).toNatClampNeg]? = some (.long (Kz0 - (1 : Int64))) := Has.at H104 hin104 ((own_gJ1_0 hc0).trans (congrArg Value.long (own_spJ1 hc0)))
    have pre105 : ∀ tg, AT p e below T103 m 107 #[rv a0, rv a1, iv p2, iv (0 : Int32), iv ((0 : Int32) + c0)] [(.int (XT.cmpL (Kz0 - (1 : Int64)) (0 : Int64)))] tg → Steps p.tables e below S0 tg := fun tg kg => pre47 tg (by
     refine XS.icmpYes X45.here hx rfl (pc0 := 43) (pc' := 68) rfl (hb hby d8_43) rfl (XT.ii_ne_t hc48) (by decide) (by decide) ?_
     refine XS.aloadN X45.here hx rfl (hb hby d8_68) rfl rfl ?_
     refine st83 _ ?_
     refine XS.aloadN X83.here hx rfl (hb hby d8_72) rfl rfl ?_
     refine st84 _ ?_
     refine XS.iload X84.here hx rfl (hb hby d8_76) rfl ?_
     refine X84.laload hx (j := ((0 : Int32) + c0)) (v := (.long Kz0)) (by rw [e84]; exact Ar85.1) (State.isArrayOf_alike hZ.alike Ar85.2.1) Ar85.2.2 hin85 hat85 (g := (mkF m 78 #[rv a0, rv a1, iv p2, iv (0 : Int32), iv ((0 : Int32) + c0)] [(.int ((0 : Int32) + c0)), (.ref ca), (.ref w_lam)])) rfl rfl (hb hby d8_78) _ ?_
     refine st86 _ ?_
     show AT p e below T86 m 84 #[rv a0, rv a1, iv p2, iv (0 : Int32), iv ((0 : Int32) + c0)] [(.int (1 : Int32))] _
     refine XS.ifNo X86.here hx rfl (hb hby d8_84) rfl (XT.i0_eq_f ((by decide) : ¬ ((1 : Int32) = (0 : Int32)))) ?_
     refine XS.aloadN X86.here hx rfl (hb hby d8_87) rfl rfl ?_
     refine st87 _ ?_
     refine XS.iload X87.here hx rfl (hb hby d8_91) rfl ?_
     refine XT.dup2 X87.here hx rfl (hb hby d8_93) rfl rfl rfl ?_
     refine X87.laload hx (j := ((0 : Int32) + c0)) (v := (.long Kz0)) (by rw [e87]; exact Ar88.1) (State.isArrayOf_alike hZ.alike Ar88.2.1) Ar88.2.2 hin88 hat88 (g := (mkF m 94 #[rv a0, rv a1, iv p2, iv (0 : Int32), iv ((0 : Int32) + c0)] [(.int ((0 : Int32) + c0)), (.ref ca), (.int ((0 : Int32) + c0)), (.ref ca)])) rfl rfl (hb hby d8_94) _ ?_
     refine XS.lconst X87.here hx rfl (hb hby d8_95) ?_
     refine XS.lsub X87.here hx rfl (hb hby d8_96) rfl ?_
     refine st89 _ ?_
     refine XS.aloadN X89.here hx rfl (hb hby d8_98) rfl rfl ?_
     refine st103 _ ?_
     refine XS.iload X103.here hx rfl (hb hby d8_102) rfl ?_
     refine X103.laload hx (j := ((0 : Int32) + c0)) (v := (.long (Kz0 - (1 : Int64)))) (by rw [e103]; exact Ar104.1) (State.isArrayOf_alike hZ.alike Ar104.2.1) Ar104.2.2 hin104 hat104 (g := (mkF m 104 #[rv a0, rv a1, iv p2, iv (0 : Int32), iv ((0 : Int32) + c0)] [(.int ((0 : Int32) + c0)), (.ref ca)])) rfl rfl (hb hby d8_104) _ ?_
     refine XS.lconst X103.here hx rfl (hb hby d8_105) ?_
     refine XS.lcmp X103.here hx rfl (hb hby d8_106) rfl ?_
     exact kg)
    rcases Decidable.em ((Kz0 - (1 : Int64)) = (0 : Int64)) with hc106 | hc106
    ·
     obtain ⟨T107, X107, e107, st107⟩ := getF X103 hx hZ hown (host := "") (Or.inl (ow hw 57 rfl)) Via.refl e103 F89_95 (g := (mkF m 111 #[rv a0, rv a1, iv p2, iv (0 : Int32), iv ((0 : Int32) + c0)] [(.ref a0)])) rfl rfl (hb hby d8_111)
     obtain ⟨cl108, Ar108, q108, S108, M108, H108, G108⟩ := id V89_102
     have hin108 := own_in ((0 : Int32) + c0) S108 (own_b1_0 hc0)
     obtain ⟨T108, h108, X108, e108, W108, st108⟩ := stI X107 hx hZ e107 Ar108 (j := ((0 : Int32) + c0)) hin108 (g := (mkF m 117 #[rv a0, rv a1, iv p2, iv (0 : Int32), iv ((0 : Int32) + c0)] [(.int p2), (.int ((0 : Int32) + c0)), (.ref fa)])) rfl rfl (hb hby d8_117)
     have V108_109 : Arv Z h108 fa kf .int (2 : Int32) [(.int (pI c0 (0 : Int32) p2 f0)), (.int f1)] (.int (0 : Int32)) := by have q := Arv.set Ar108 q108 S108 M108 H108 G108 rfl W108 (((0 : Int32) + c0)).toNatClampNeg rfl (own_k1_0 hc0); rw [own_sI1_0 hc0] at q; exact q
     have E108_110 := E89_91.wr W108
     have F108_111 := F89_92.other W108 (Or.inl n_a0_fa)
     have E108_112 := E89_93.wr W108
     have F108_113 := F89_94.other W108 (Or.inl n_sh_fa)
     have F108_114 := F89_95.other W108 (Or.inl n_a0_fa)
     have F108_115 := F89_96.other W108 (Or.inl n_a0_fa)
     have F108_116 := F89_97.other W108 (Or.inl n_a0_fa)
     have E108_117 := E89_98.wr W108
     have V108_118 := V89_99.other W108 pf15
     have E108_119 := E89_100.wr W108
     have E108_120 := E89_101.wr W108
     have V108_121 := V89_90.other W108 (Ne.symm n_fa_ca)
     have K108 := K89.wr W108 (Or.inl (List.mem_of_getElem? (i := 0) rfl))
     have O108 := O89.wr W108 pf13
     have N108 := Fr.snoc X108 N89 pf13
     obtain ⟨T122, X122, e122, st122⟩ := getF X108 hx hZ hown (host := "") (Or.inl (ow hw 60 rfl)) Via.refl e108 F108_115 (g := (mkF m 119 #[rv a0, rv a1, iv p2, iv (0 : Int32), iv ((0 : Int32) + c0)] [(.ref a0)])) rfl rfl (hb hby d8_119)
     obtain ⟨cl123, Ar123, q123, S123, M123, H123, G123⟩ := id V108_121
     have hin123 := own_in ((0 : Int32) + c0) S123 (own_b1_0 hc0)
     obtain ⟨T123, h123, X123, e123, W123, st123⟩ := stJ X122 hx hZ e122 Ar123 (j := ((0 : Int32) + c0)) hin123 (g := (mkF m 125 #[rv a0, rv a1, iv p2, iv (0 : Int32), iv ((0 : Int32) + c0)] [(.long (1 : Int64)), (.int ((0 : Int32) + c0)), (.ref ca)])) rfl rfl (hb hby d8_125)
     have V123_124 : Arv Z h123 ca kc .long (2 : Int32) [(.long (pJ c0 (0 : Int32) (1 : Int64) k0)), (.long k1)] (.long (0 : Int64)) := by have q := Arv.set Ar123 q123 S123 M123 H123 G123 rfl W123 (((0 : Int32) + c0)).toNatClampNeg rfl (own_k1_0 hc0); rw [own_sJ1_0 hc0] at q; simp only [own_ppJ] at q; exact q
     have E123_125 := E108_110.wr W123
     have F123_126 := F108_111.other W123 (Or.inl n_a0_ca)
     have E123_127 := E108_112.wr W123
     have F123_128 := F108_113.other W123 (Or.inl n_sh_ca)
     have F123_129 := F108_114.other W123 (Or.inl n_a0_ca)
     have F123_130 := F108_115.other W123 (Or.inl n_a0_ca)
     have F123_131 := F108_116.other W123 (Or.inl n_a0_ca)
     have E123_132 := E108_117.wr W123
     have V123_133 := V108_118.other W123 n_a1_ca
     have E123_134 := E108_119.wr W123
     have E123_135 := E108_120.wr W123
     have V123_136 := V108_109.other W123 n_fa_ca
     have K123 := K108.wr W123 (Or.inl (List.mem_of_getElem? (i := 1) rfl))
     have O123 := O108.wr W123 pf14
     have N123 := Fr.snoc X123 N108 pf14
     have pre137 : ∀ tg, AT p e below T123 m 126 #[rv a0, rv a1, iv p2, iv (0 : Int32), iv ((0 : Int32) + c0)] [] tg → Steps p.tables e below S0 tg := fun tg kg => pre105 tg (by
      refine XS.ifNo X103.here hx rfl (hb hby d8_107) rfl (XT.ll_ne_f hc106) ?_
      refine XS.aloadN X103.here hx rfl (hb hby d8_110) rfl rfl ?_
      refine st107 _ ?_
      refine XS.iload X107.here hx rfl (hb hby d8_114) rfl ?_
      refine XS.iloadN X107.here hx rfl (hb hby d8_116) rfl ?_
      refine st108 _ ?_
      refine XS.aloadN X108.here hx rfl (hb hby d8_118) rfl rfl ?_
      refine st122 _ ?_
      refine XS.iload X122.here hx rfl (hb hby d8_122) rfl ?_
      show AT p e below T122 m 124 #[rv a0, rv a1, iv p2, iv (0 : Int32), iv ((0 : Int32) + c0)] [(.int ((0 : Int32) + c0)), (.ref ca)] _
      refine XS.lconst X122.here hx rfl (hb hby d8_124) ?_
      refine st123 _ ?_
      exact kg)
     have hj138 : (pI c0 (0 : Int32) (nf Kz0 Fz0 p2) f0) = (pI c0 (0 : Int32) p2 f0) := by simp only [nf, if_neg hc10, if_neg hc48, if_pos hc106]
     have hj139 : (pJ c0 (0 : Int32) (nc Kz0 Fz0 p2) k0) = (pJ c0 (0 : Int32) (1 : Int64) k0) := by simp only [nc, if_neg hc10, if_neg hc48, if_pos hc106]
     exact ⟨_, _, _, X123, e123, N123, K123, O123, E123_125, F123_126, E123_127, F123_128, F123_129, F123_130, F123_131, E123_132, V123_133, E123_134, E123_135, (by rw [hj138]; exact V123_136), (by rw [hj139]; exact V123_124), pre137⟩
    ·
     have pre140 : ∀ tg, AT p e below T103 m 126 #[rv a0, rv a1, iv p2, iv (0 : Int32), iv ((0 : Int32) + c0)] [] tg → Steps p.tables e below S0 tg := fun tg kg => pre105 tg (by
      refine XS.ifYes X103.here hx rfl (pc0 := 107) (pc' := 126) rfl (hb hby d8_107) rfl (XT.ll_ne_t hc106) (by decide) (by decide) ?_
      exact kg)
     have hj141 : (pI c0 (0 : Int32) (nf Kz0 Fz0 p2) f0) = f0 := by rw [nf, if_neg hc10, if_neg hc48, if_neg hc106, hFz0]; exact own_psI1_0 hc0
     have hj142 : (pJ c0 (0 : Int32) (nc Kz0 Fz0 p2) k0) = (pJ c0 (0 : Int32) (Kz0 - (1 : Int64)) k0) := by simp only [nc, if_neg hc10, if_neg hc48, if_neg hc106]
     exact ⟨_, _, _, X103, e103, N89, K89, O89, E89_91, F89_92, E89_93, F89_94, F89_95, F89_96, F89_97, E89_98, V89_99, E89_100, E89_101, (by rw [hj141]; exact V89_102), (by rw [hj142]; exact V89_90), pre140⟩
 obtain ⟨cl143, Ar143, q143, S143, N143, H143, G143⟩ := id J6_8
 obtain ⟨T144, X144, e144, st144⟩ := getF X6 hx hZ hown (host := "") (Or.inl (ow hw 48 rfl)) Via.refl e6 J6_1 (g := (mkF m 10 #[rv a0, rv a1, iv p2, iv (1 : Int32), iv ((0 : Int32) + c0)] [(.ref a0), (.int (1 : Int32))])) rfl rfl (hb hby d8_10)
 obtain ⟨cq145, kq145, q145a, q145b, q145c⟩ := isOf hZ e144 J6_2
 obtain ⟨_, _, ⟨T145, L145, k145, n145⟩, -, X145, ⟨Lc145, hQ145, l145, y145, z145⟩, st145⟩ := X144.virtualBack hx (y := y9) (z := y9) hown (mvT hZ (ow hw 67 rfl)) (mvT hZ (ow hw 68 rfl)) (notFace_of_selects (args := #[]) (mvT hZ (ow hw 70 rfl))) (mvT hZ (ow hw 70 rfl)) (mvT hZ (ow hw 69 rfl)) (by decide) (backOf (W := 1) (rm9 l Z ar hw [] sh _ h6 n0 O6 J6_3) hZ (ow hw 71 rfl) (ow hw 7 rfl) (by decide) (by decide)) q145a q145c (g := (mkF m 13 #[rv a0, rv a1, iv p2, iv (1 : Int32), iv ((0 : Int32) + c0)] [(.ref sh), (.int (1 : Int32))])) rfl (by rw [hml]; rfl) (Steps.refl _) (argsL := []) (rest := [(.int (1 : Int32))]) (lenOf pd_2 rfl) rfl (by show 2 * 0 + _ ≤ _; exact Nat.le_of_eq rfl) (hb hby d8_13) (fun _ _ => ⟨rfl, e144, (by decide : 0 + 0 ≤ _), (by decide : 0 + 0 ≤ _)⟩)
 dsimp only [Pt.U, Pt.locs, Pt.cells, Pt.slots] at X145 l145 y145 z145 st145 hQ145
 subst l145 y145 z145
 obtain ⟨rfl, N145q, e145⟩ := hQ145
 have N145 := Fr.app N6 N145q
 obtain ⟨cl146, Ar146, q146, S146, N146, H146, G146⟩ := id J6_8
 have hin146 := own_in (1 : Int32) S146 ⟨by decide, by decide⟩
 have hat146 : cl146.slots[((1 : Int32)).toNatClampNeg]? = some (.int c1) := Has.at H146 hin146 rfl
 have pre147 : ∀ tg, AT p e below T145 m 23 #[rv a0, rv a1, iv p2, iv (1 : Int32), iv ((1 : Int32) + c1)] [] tg → Steps p.tables e below S0 tg := fun tg kg => pre6 tg (by
  refine XS.iinc X6.here hx rfl (hb hby d8_126) rfl (l' := #[rv a0, rv a1, iv p2, iv (1 : Int32), iv ((0 : Int32) + c0)]) rfl ?_
  refine XS.goto X6.here hx rfl (pc0 := 129) (pc' := 2) rfl (hb hby d8_129) (by decide) (by decide) ?_
  refine XS.iloadN X6.here hx rfl (hb hby d8_2) rfl ?_
  refine XS.aloadN X6.here hx rfl (hb hby d8_3) rfl rfl ?_
  refine X6.arraylength hx (by rw [e6]; exact Ar143.1) (State.isArrayOf_alike hZ.alike Ar143.2.1) (g := (mkF m 4 #[rv a0, rv a1, iv p2, iv (1 : Int32), iv ((0 : Int32) + c0)] [(.ref a1), (.int (1 : Int32))])) rfl rfl (hb hby d8_4) _ ?_
  rw [len_of S143 N143]
  show AT p e below T6 m 5 #[rv a0, rv a1, iv p2, iv (1 : Int32), iv ((0 : Int32) + c0)] [(.int (2 : Int32)), (.int (1 : Int32))] _
  refine XS.icmpNo X6.here hx rfl (hb hby d8_5) rfl (XT.ii_ge_f ((by decide) : (1 : Int32) < (2 : Int32))) ?_
  refine XS.iloadN X6.here hx rfl (hb hby d8_8) rfl ?_
  refine XS.aloadN X6.here hx rfl (hb hby d8_9) rfl rfl ?_
  refine st144 _ ?_
  refine st145.trans ?_
  refine XS.imul X145.here hx rfl (hb hby d8_16) rfl ?_
  refine XS.aloadN X145.here hx rfl (hb hby d8_17) rfl rfl ?_
  refine XS.iloadN X145.here hx rfl (hb hby d8_18) rfl ?_
  refine X145.iaload hx (j := (1 : Int32)) (v := (.int c1)) (by rw [e145]; exact Ar146.1) (State.isArrayOf_alike hZ.alike Ar146.2.1) Ar146.2.2 hin146 hat146 (g := (mkF m 19 #[rv a0, rv a1, iv p2, iv (1 : Int32), iv ((0 : Int32) + c0)] [(.int (1 : Int32)), (.ref a1), (.int (1 : Int32))])) rfl rfl (hb hby d8_19) _ ?_
  refine XS.iadd X145.here hx rfl (hb hby d8_20) rfl ?_
  refine XS.istore X145.here hx rfl (hb hby d8_21) rfl (l' := #[rv a0, rv a1, iv p2, iv (1 : Int32), iv ((1 : Int32) + c1)]) rfl ?_
  exact kg)
 obtain ⟨Kz1, hKz1⟩ : ∃ z, z = (sJ1 c1 k1) := ⟨_, rfl⟩
 obtain ⟨Fz1, hFz1⟩ : ∃ z, z = (sI1 c1 f1) := ⟨_, rfl⟩
 obtain ⟨T148, h148, L148, X148, e148, N148, K148, O148, J148_0, J148_1, J148_2, J148_3, J148_4, J148_5, J148_6, J148_7, J148_8, J148_9, J148_10, J148_11, J148_12, pre148⟩ : ∃ (T148 : State) (h148 : Heap) (L148 : List Loc), Stand p l e R8_1 s m #[(.ref a0), (.ref a1), (.int p2)] below meth c T148 L148 ((0 + 0) + 0) ((0 + 0) + 0) ∧ T148.heap = h148 ∧ Fr n0 L148 ∧ Keep h0 h148 [fa, ca] ∧ Old Z n0 h148 ∧ Exa Z h148 a0 "com/example/filters_under_siege/filtersundersiege/KeeperPairs" ∧ Fld Z h148 a0 "com/example/filters_under_siege/filtersundersiege/KeeperPairs" "shape" "Lcom/example/filters_under_siege/filtersundersiege/SketchShape;" (.ref sh) ∧ Exa Z h148 sh "com/example/filters_under_siege/filtersundersiege/SketchShape" ∧ Fld Z h148 sh "com/example/filters_under_siege/filtersundersiege/SketchShape" "width" "I" (.int (1 : Int32)) ∧ Fld Z h148 a0 "com/example/filters_under_siege/filtersundersiege/KeeperPairs" "fingerprints" "[I" (.ref fa) ∧ Fld Z h148 a0 "com/example/filters_under_siege/filtersundersiege/KeeperPairs" "counts" "[J" (.ref ca) ∧ Fld Z h148 a0 "com/example/filters_under_siege/filtersundersiege/KeeperPairs" "knocksDown" "Ljava/util/function/LongPredicate;" (.ref w_lam) ∧ Exa Z h148 a1 "[I" ∧ Arv Z h148 a1 kk .int (2 : Int32) [(.int c0), (.int c1)] (.int (0 : Int32)) ∧ Exa Z h148 fa "[I" ∧ Exa Z h148 ca "[J" ∧ Arv Z h148 fa kf .int (2 : Int32) [(.int (pI c0 (0 : Int32) (nf Kz0 Fz0 p2) f0)), (.int (pI c1 (0 : Int32) (nf Kz1 Fz1 p2) f1))] (.int (0 : Int32)) ∧ Arv Z h148 ca kc .long (2 : Int32) [(.long (pJ c0 (0 : Int32) (nc Kz0 Fz0 p2) k0)), (.long (pJ c1 (0 : Int32) (nc Kz1 Fz1 p2) k1))] (.long (0 : Int64)) ∧ (∀ tg, AT p e below T148 m 126 #[rv a0, rv a1, iv p2, iv (1 : Int32), iv ((1 : Int32) + c1)] [] tg → Steps p.tables e below S0 tg) := by
  obtain ⟨T149, X149, e149, st149⟩ := getF X145 hx hZ hown (host := "") (Or.inl (ow hw 60 rfl)) Via.refl e145 J6_5 (g := (mkF m 24 #[rv a0, rv a1, iv p2, iv (1 : Int32), iv ((1 : Int32) + c1)] [(.ref a0)])) rfl rfl (hb hby d8_24)
  obtain ⟨cl150, Ar150, q150, S150, N150, H150, G150⟩ := id J6_12
  have hin150 := own_in ((1 : Int32) + c1) S150 (own_b1_1 hc1)
  have hat150 : cl150.slots[(((1 : Int32) + c1)).toNatClampNeg]? = some (.long Kz1) := Has.at H150 hin150 ((own_gJ1_1 hc1).trans (congrArg Value.long hKz1.symm))
  have pre151 : ∀ tg, AT p e below T149 m 32 #[rv a0, rv a1, iv p2, iv (1 : Int32), iv ((1 : Int32) + c1)] [(.int (XT.cmpL Kz1 (0 : Int64)))] tg → Steps p.tables e below S0 tg := fun tg kg => pre147 tg (by
   refine XS.aloadN X145.here hx rfl (hb hby d8_23) rfl rfl ?_
   refine st149 _ ?_
   refine XS.iload X149.here hx rfl (hb hby d8_27) rfl ?_
   refine X149.laload hx (j := ((1 : Int32) + c1)) (v := (.long Kz1)) (by rw [e149]; exact Ar150.1) (State.isArrayOf_alike hZ.alike Ar150.2.1) Ar150.2.2 hin150 hat150 (g := (mkF m 29 #[rv a0, rv a1, iv p2, iv (1 : Int32), iv ((1 : Int32) + c1)] [(.int ((1 : Int32) + c1)), (.ref ca)])) rfl rfl (hb hby d8_29) _ ?_
   refine XS.lconst X149.here hx rfl (hb hby d8_30) ?_
   refine XS.lcmp X149.here hx rfl (hb hby d8_31) rfl ?_
   exact kg)
  rcases Decidable.em (Kz1 = (0 : Int64)) with hc152 | hc152
  ·
   obtain ⟨T153, X153, e153, st153⟩ := getF X149 hx hZ hown (host := "") (Or.inl (ow hw 57 rfl)) Via.refl e149 J6_4 (g := (mkF m 47 #[rv a0, rv a1, iv p2, iv (1 : Int32), iv ((1 : Int32) + c1)] [(.ref a0)])) rfl rfl (hb hby d8_47)
   obtain ⟨cl154, Ar154, q154, S154, M154, H154, G154⟩ := id J6_11
   have hin154 := own_in ((1 : Int32) + c1) S154 (own_b1_1 hc1)
   obtain ⟨T154, h154, X154, e154, W154, st154⟩ := stI X153 hx hZ e153 Ar154 (j := ((1 : Int32) + c1)) hin154 (g := (mkF m 53 #[rv a0, rv a1, iv p2, iv (1 : Int32), iv ((1 : Int32) + c1)] [(.int p2), (.int ((1 : Int32) + c1)), (.ref fa)])) rfl rfl (hb hby d8_53)
   have V154_155 : Arv Z h154 fa kf .int (2 : Int32) [(.int (pI c0 (0 : Int32) (nf Kz0 Fz0 p2) f0)), (.int (pI c1 (0 : Int32) p2 f1))] (.int (0 : Int32)) := by have q := Arv.set Ar154 q154 S154 M154 H154 G154 rfl W154 (((1 : Int32) + c1)).toNatClampNeg rfl (own_k1_1 hc1); rw [own_sI1_1 hc1] at q; exact q
   have E154_156 := J6_0.wr W154
   have F154_157 := J6_1.other W154 (Or.inl n_a0_fa)
   have E154_158 := J6_2.wr W154
   have F154_159 := J6_3.other W154 (Or.inl n_sh_fa)
   have F154_160 := J6_4.other W154 (Or.inl n_a0_fa)
   have F154_161 := J6_5.other W154 (Or.inl n_a0_fa)
   have F154_162 := J6_6.other W154 (Or.inl n_a0_fa)
   have E154_163 := J6_7.wr W154
   have V154_164 := J6_8.other W154 pf15
   have E154_165 := J6_9.wr W154
   have E154_166 := J6_10.wr W154
   have V154_167 := J6_12.other W154 (Ne.symm n_fa_ca)
   have K154 := K6.wr W154 (Or.inl (List.mem_of_getElem? (i := 0) rfl))
   have O154 := O6.wr W154 pf13
   have N154 := Fr.snoc X154 N145 pf13
   obtain ⟨T168, X168, e168, st168⟩ := getF X154 hx hZ hown (host := "") (Or.inl (ow hw 60 rfl)) Via.refl e154 F154_161 (g := (mkF m 55 #[rv a0, rv a1, iv p2, iv (1 : Int32), iv ((1 : Int32) + c1)] [(.ref a0)])) rfl rfl (hb hby d8_55)
   obtain ⟨cl169, Ar169, q169, S169, N169, H169, G169⟩ := id V154_167
   have hin169 := own_in ((1 : Int32) + c1) S169 (own_b1_1 hc1)
   have hat169 : cl169.slots[(((1 : Int32) + c1)).toNatClampNeg]? = some (.long Kz1) := Has.at H169 hin169 ((own_gJ1_1 hc1).trans (congrArg Value.long hKz1.symm))
   obtain ⟨cl170, Ar170, q170, S170, M170, H170, G170⟩ := id V154_167
   have hin170 := own_in ((1 : Int32) + c1) S170 (own_b1_1 hc1)
   obtain ⟨T170, h170, X170, e170, W170, st170⟩ := stJ X168 hx hZ e168 Ar170 (j := ((1 : Int32) + c1)) hin170 (g := (mkF m 64 #[rv a0, rv a1, iv p2, iv (1 : Int32), iv ((1 : Int32) + c1)] [(.long (Kz1 + (1 : Int64))), (.int ((1 : Int32) + c1)), (.ref ca)])) rfl rfl (hb hby d8_64)
   have V170_171 : Arv Z h170 ca kc .long (2 : Int32) [(.long (pJ c0 (0 : Int32) (nc Kz0 Fz0 p2) k0)), (.long (pJ c1 (0 : Int32) (Kz1 + (1 : Int64)) k1))] (.long (0 : Int64)) := by have q := Arv.set Ar170 q170 S170 M170 H170 G170 rfl W170 (((1 : Int32) + c1)).toNatClampNeg rfl (own_k1_1 hc1); rw [own_sJ1_1 hc1] at q; exact q
   have E170_172 := E154_156.wr W170
   have F170_173 := F154_157.other W170 (Or.inl n_a0_ca)
   have E170_174 := E154_158.wr W170
   have F170_175 := F154_159.other W170 (Or.inl n_sh_ca)
   have F170_176 := F154_160.other W170 (Or.inl n_a0_ca)
   have F170_177 := F154_161.other W170 (Or.inl n_a0_ca)
   have F170_178 := F154_162.other W170 (Or.inl n_a0_ca)
   have E170_179 := E154_163.wr W170
   have V170_180 := V154_164.other W170 n_a1_ca
   have E170_181 := E154_165.wr W170
   have E170_182 := E154_166.wr W170
   have V170_183 := V154_155.other W170 n_fa_ca
   have K170 := K154.wr W170 (Or.inl (List.mem_of_getElem? (i := 1) rfl))
   have O170 := O154.wr W170 pf14
   have N170 := Fr.snoc X170 N154 pf14
   have pre184 : ∀ tg, AT p e below T170 m 126 #[rv a0, rv a1, iv p2, iv (1 : Int32), iv ((1 : Int32) + c1)] [] tg → Steps p.tables e below S0 tg := fun tg kg => pre151 tg (by
    refine XS.ifYes X149.here hx rfl (pc0 := 32) (pc' := 46) rfl (hb hby d8_32) rfl (XT.ll_eq_t hc152) (by decide) (by decide) ?_
    refine XS.aloadN X149.here hx rfl (hb hby d8_46) rfl rfl ?_
    refine st153 _ ?_
    refine XS.iload X153.here hx rfl (hb hby d8_50) rfl ?_
    refine XS.iloadN X153.here hx rfl (hb hby d8_52) rfl ?_
    refine st154 _ ?_
    refine XS.aloadN X154.here hx rfl (hb hby d8_54) rfl rfl ?_
    refine st168 _ ?_
    refine XS.iload X168.here hx rfl (hb hby d8_58) rfl ?_
    refine XT.dup2 X168.here hx rfl (hb hby d8_60) rfl rfl rfl ?_
    refine X168.laload hx (j := ((1 : Int32) + c1)) (v := (.long Kz1)) (by rw [e168]; exact Ar169.1) (State.isArrayOf_alike hZ.alike Ar169.2.1) Ar169.2.2 hin169 hat169 (g := (mkF m 61 #[rv a0, rv a1, iv p2, iv (1 : Int32), iv ((1 : Int32) + c1)] [(.int ((1 : Int32) + c1)), (.ref ca), (.int ((1 : Int32) + c1)), (.ref ca)])) rfl rfl (hb hby d8_61) _ ?_
    refine XS.lconst X168.here hx rfl (hb hby d8_62) ?_
    refine XS.ladd X168.here hx rfl (hb hby d8_63) rfl ?_
    refine st170 _ ?_
    refine XS.goto X170.here hx rfl (pc0 := 65) (pc' := 126) rfl (hb hby d8_65) (by decide) (by decide) ?_
    exact kg)
   have hj185 : (pI c1 (0 : Int32) (nf Kz1 Fz1 p2) f1) = (pI c1 (0 : Int32) p2 f1) := by simp only [nf, if_pos hc152]
   have hj186 : (pJ c1 (0 : Int32) (nc Kz1 Fz1 p2) k1) = (pJ c1 (0 : Int32) (Kz1 + (1 : Int64)) k1) := by simp only [nc, if_pos hc152]
   exact ⟨_, _, _, X170, e170, N170, K170, O170, E170_172, F170_173, E170_174, F170_175, F170_176, F170_177, F170_178, E170_179, V170_180, E170_181, E170_182, (by rw [hj185]; exact V170_183), (by rw [hj186]; exact V170_171), pre184⟩
  ·
   obtain ⟨T187, X187, e187, st187⟩ := getF X149 hx hZ hown (host := "") (Or.inl (ow hw 57 rfl)) Via.refl e149 J6_4 (g := (mkF m 36 #[rv a0, rv a1, iv p2, iv (1 : Int32), iv ((1 : Int32) + c1)] [(.ref a0)])) rfl rfl (hb hby d8_36)
   obtain ⟨cl188, Ar188, q188, S188, N188, H188, G188⟩ := id J6_11
   have hin188 := own_in ((1 : Int32) + c1) S188 (own_b1_1 hc1)
   have hat188 : cl188.slots[(((1 : Int32) + c1)).toNatClampNeg]? = some (.int Fz1) := Has.at H188 hin188 ((own_gI1_1 hc1).trans (congrArg Value.int hFz1.symm))
   have pre189 : ∀ tg, AT p e below T187 m 43 #[rv a0, rv a1, iv p2, iv (1 : Int32), iv ((1 : Int32) + c1)] [(.int p2), (.int Fz1)] tg → Steps p.tables e below S0 tg := fun tg kg => pre151 tg (by
    refine XS.ifNo X149.here hx rfl (hb hby d8_32) rfl (XT.ll_eq_f hc152) ?_
    refine XS.aloadN X149.here hx rfl (hb hby d8_35) rfl rfl ?_
    refine st187 _ ?_
    refine XS.iload X187.here hx rfl (hb hby d8_39) rfl ?_
    refine X187.iaload hx (j := ((1 : Int32) + c1)) (v := (.int Fz1)) (by rw [e187]; exact Ar188.1) (State.isArrayOf_alike hZ.alike Ar188.2.1) Ar188.2.2 hin188 hat188 (g := (mkF m 41 #[rv a0, rv a1, iv p2, iv (1 : Int32), iv ((1 : Int32) + c1)] [(.int ((1 : Int32) + c1)), (.ref fa)])) rfl rfl (hb hby d8_41) _ ?_
    refine XS.iloadN X187.here hx rfl (hb hby d8_42) rfl ?_
    exact kg)
   rcases Decidable.em (Fz1 = p2) with hc190 | hc190
   ·
    obtain ⟨T191, X191, e191, st191⟩ := getF X187 hx hZ hown (host := "") (Or.inl (ow hw 57 rfl)) Via.refl e187 J6_4 (g := (mkF m 47 #[rv a0, rv a1, iv p2, iv (1 : Int32), iv ((1 : Int32) + c1)] [(.ref a0)])) rfl rfl (hb hby d8_47)
    obtain ⟨cl192, Ar192, q192, S192, M192, H192, G192⟩ := id J6_11
    have hin192 := own_in ((1 : Int32) + c1) S192 (own_b1_1 hc1)
    obtain ⟨T192, h192, X192, e192, W192, st192⟩ := stI X191 hx hZ e191 Ar192 (j := ((1 : Int32) + c1)) hin192 (g := (mkF m 53 #[rv a0, rv a1, iv p2, iv (1 : Int32), iv ((1 : Int32) + c1)] [(.int p2), (.int ((1 : Int32) + c1)), (.ref fa)])) rfl rfl (hb hby d8_53)
    have V192_193 : Arv Z h192 fa kf .int (2 : Int32) [(.int (pI c0 (0 : Int32) (nf Kz0 Fz0 p2) f0)), (.int (pI c1 (0 : Int32) p2 f1))] (.int (0 : Int32)) := by have q := Arv.set Ar192 q192 S192 M192 H192 G192 rfl W192 (((1 : Int32) + c1)).toNatClampNeg rfl (own_k1_1 hc1); rw [own_sI1_1 hc1] at q; exact q
    have E192_194 := J6_0.wr W192
    have F192_195 := J6_1.other W192 (Or.inl n_a0_fa)
    have E192_196 := J6_2.wr W192
    have F192_197 := J6_3.other W192 (Or.inl n_sh_fa)
    have F192_198 := J6_4.other W192 (Or.inl n_a0_fa)
    have F192_199 := J6_5.other W192 (Or.inl n_a0_fa)
    have F192_200 := J6_6.other W192 (Or.inl n_a0_fa)
    have E192_201 := J6_7.wr W192
    have V192_202 := J6_8.other W192 pf15
    have E192_203 := J6_9.wr W192
    have E192_204 := J6_10.wr W192
    have V192_205 := J6_12.other W192 (Ne.symm n_fa_ca)
    have K192 := K6.wr W192 (Or.inl (List.mem_of_getElem? (i := 0) rfl))
    have O192 := O6.wr W192 pf13
    have N192 := Fr.snoc X192 N145 pf13
    obtain ⟨T206, X206, e206, st206⟩ := getF X192 hx hZ hown (host := "") (Or.inl (ow hw 60 rfl)) Via.refl e192 F192_199 (g := (mkF m 55 #[rv a0, rv a1, iv p2, iv (1 : Int32), iv ((1 : Int32) + c1)] [(.ref a0)])) rfl rfl (hb hby d8_55)
    obtain ⟨cl207, Ar207, q207, S207, N207, H207, G207⟩ := id V192_205
    have hin207 := own_in ((1 : Int32) + c1) S207 (own_b1_1 hc1)
    have hat207 : cl207.slots[(((1 : Int32) + c1)).toNatClampNeg]? = some (.long Kz1) := Has.at H207 hin207 ((own_gJ1_1 hc1).trans (congrArg Value.long hKz1.symm))
    obtain ⟨cl208, Ar208, q208, S208, M208, H208, G208⟩ := id V192_205
    have hin208 := own_in ((1 : Int32) + c1) S208 (own_b1_1 hc1)
    obtain ⟨T208, h208, X208, e208, W208, st208⟩ := stJ X206 hx hZ e206 Ar208 (j := ((1 : Int32) + c1)) hin208 (g := (mkF m 64 #[rv a0, rv a1, iv p2, iv (1 : Int32), iv ((1 : Int32) + c1)] [(.long (Kz1 + (1 : Int64))), (.int ((1 : Int32) + c1)), (.ref ca)])) rfl rfl (hb hby d8_64)
    have V208_209 : Arv Z h208 ca kc .long (2 : Int32) [(.long (pJ c0 (0 : Int32) (nc Kz0 Fz0 p2) k0)), (.long (pJ c1 (0 : Int32) (Kz1 + (1 : Int64)) k1))] (.long (0 : Int64)) := by have q := Arv.set Ar208 q208 S208 M208 H208 G208 rfl W208 (((1 : Int32) + c1)).toNatClampNeg rfl (own_k1_1 hc1); rw [own_sJ1_1 hc1] at q; exact q
    have E208_210 := E192_194.wr W208
    have F208_211 := F192_195.other W208 (Or.inl n_a0_ca)
    have E208_212 := E192_196.wr W208
    have F208_213 := F192_197.other W208 (Or.inl n_sh_ca)
    have F208_214 := F192_198.other W208 (Or.inl n_a0_ca)
    have F208_215 := F192_199.other W208 (Or.inl n_a0_ca)
    have F208_216 := F192_200.other W208 (Or.inl n_a0_ca)
    have E208_217 := E192_201.wr W208
    have V208_218 := V192_202.other W208 n_a1_ca
    have E208_219 := E192_203.wr W208
    have E208_220 := E192_204.wr W208
    have V208_221 := V192_193.other W208 n_fa_ca
    have K208 := K192.wr W208 (Or.inl (List.mem_of_getElem? (i := 1) rfl))
    have O208 := O192.wr W208 pf14
    have N208 := Fr.snoc X208 N192 pf14
    have pre222 : ∀ tg, AT p e below T208 m 126 #[rv a0, rv a1, iv p2, iv (1 : Int32), iv ((1 : Int32) + c1)] [] tg → Steps p.tables e below S0 tg := fun tg kg => pre189 tg (by
     refine XS.icmpNo X187.here hx rfl (hb hby d8_43) rfl (XT.ii_ne_f hc190) ?_
     refine XS.aloadN X187.here hx rfl (hb hby d8_46) rfl rfl ?_
     refine st191 _ ?_
     refine XS.iload X191.here hx rfl (hb hby d8_50) rfl ?_
     refine XS.iloadN X191.here hx rfl (hb hby d8_52) rfl ?_
     refine st192 _ ?_
     refine XS.aloadN X192.here hx rfl (hb hby d8_54) rfl rfl ?_
     refine st206 _ ?_
     refine XS.iload X206.here hx rfl (hb hby d8_58) rfl ?_
     refine XT.dup2 X206.here hx rfl (hb hby d8_60) rfl rfl rfl ?_
     refine X206.laload hx (j := ((1 : Int32) + c1)) (v := (.long Kz1)) (by rw [e206]; exact Ar207.1) (State.isArrayOf_alike hZ.alike Ar207.2.1) Ar207.2.2 hin207 hat207 (g := (mkF m 61 #[rv a0, rv a1, iv p2, iv (1 : Int32), iv ((1 : Int32) + c1)] [(.int ((1 : Int32) + c1)), (.ref ca), (.int ((1 : Int32) + c1)), (.ref ca)])) rfl rfl (hb hby d8_61) _ ?_
     refine XS.lconst X206.here hx rfl (hb hby d8_62) ?_
     refine XS.ladd X206.here hx rfl (hb hby d8_63) rfl ?_
     refine st208 _ ?_
     refine XS.goto X208.here hx rfl (pc0 := 65) (pc' := 126) rfl (hb hby d8_65) (by decide) (by decide) ?_
     exact kg)
    have hj223 : (pI c1 (0 : Int32) (nf Kz1 Fz1 p2) f1) = (pI c1 (0 : Int32) p2 f1) := by simp only [nf, if_neg hc152, if_pos hc190]
    have hj224 : (pJ c1 (0 : Int32) (nc Kz1 Fz1 p2) k1) = (pJ c1 (0 : Int32) (Kz1 + (1 : Int64)) k1) := by simp only [nc, if_neg hc152, if_pos hc190]
    exact ⟨_, _, _, X208, e208, N208, K208, O208, E208_210, F208_211, E208_212, F208_213, F208_214, F208_215, F208_216, E208_217, V208_218, E208_219, E208_220, (by rw [hj223]; exact V208_221), (by rw [hj224]; exact V208_209), pre222⟩
   ·
    obtain ⟨T225, X225, e225, st225⟩ := getF X187 hx hZ hown (host := "") (Or.inl (ow hw 50 rfl)) Via.refl e187 J6_6 (g := (mkF m 69 #[rv a0, rv a1, iv p2, iv (1 : Int32), iv ((1 : Int32) + c1)] [(.ref a0)])) rfl rfl (hb hby d8_69)
    obtain ⟨T226, X226, e226, st226⟩ := getF X225 hx hZ hown (host := "") (Or.inl (ow hw 60 rfl)) Via.refl e225 J6_5 (g := (mkF m 73 #[rv a0, rv a1, iv p2, iv (1 : Int32), iv ((1 : Int32) + c1)] [(.ref a0), (.ref w_lam)])) rfl rfl (hb hby d8_73)
    obtain ⟨cl227, Ar227, q227, S227, N227, H227, G227⟩ := id J6_12
    have hin227 := own_in ((1 : Int32) + c1) S227 (own_b1_1 hc1)
    have hat227 : cl227.slots[(((1 : Int32) + c1)).toNatClampNeg]? = some (.long Kz1) := Has.at H227 hin227 ((own_gJ1_1 hc1).trans (congrArg Value.long hKz1.symm))
    obtain ⟨T228, X228, e228, st228⟩ := own_test X226 hx hw hZ hown HLm O6 e226 (g := (mkF m 79 #[rv a0, rv a1, iv p2, iv (1 : Int32), iv ((1 : Int32) + c1)] [(.long Kz1), (.ref w_lam)])) rfl (by rw [hml]; rfl) rfl (hb hby d8_79) (W := 0) (by show 2 * 0 + _ ≤ _; exact Nat.le_of_eq rfl) (by decide) (by decide) (by decide) (by decide)
    obtain ⟨T229, X229, e229, st229⟩ := getF X228 hx hZ hown (host := "") (Or.inl (ow hw 60 rfl)) Via.refl e228 J6_5 (g := (mkF m 88 #[rv a0, rv a1, iv p2, iv (1 : Int32), iv ((1 : Int32) + c1)] [(.ref a0)])) rfl rfl (hb hby d8_88)
    obtain ⟨cl230, Ar230, q230, S230, N230, H230, G230⟩ := id J6_12
    have hin230 := own_in ((1 : Int32) + c1) S230 (own_b1_1 hc1)
    have hat230 : cl230.slots[(((1 : Int32) + c1)).toNatClampNeg]? = some (.long Kz1) := Has.at H230 hin230 ((own_gJ1_1 hc1).trans (congrArg Value.long hKz1.symm))
    obtain ⟨cl231, Ar231, q231, S231, M231, H231, G231⟩ := id J6_12
    have hin231 := own_in ((1 : Int32) + c1) S231 (own_b1_1 hc1)
    obtain ⟨T231, h231, X231, e231, W231, st231⟩ := stJ X229 hx hZ e229 Ar231 (j := ((1 : Int32) + c1)) hin231 (g := (mkF m 97 #[rv a0, rv a1, iv p2, iv (1 : Int32), iv ((1 : Int32) + c1)] [(.long (Kz1 - (1 : Int64))), (.int ((1 : Int32) + c1)), (.ref ca)])) rfl rfl (hb hby d8_97)
    have V231_232 : Arv Z h231 ca kc .long (2 : Int32) [(.long (pJ c0 (0 : Int32) (nc Kz0 Fz0 p2) k0)), (.long (pJ c1 (0 : Int32) (Kz1 - (1 : Int64)) k1))] (.long (0 : Int64)) := by have q := Arv.set Ar231 q231 S231 M231 H231 G231 rfl W231 (((1 : Int32) + c1)).toNatClampNeg rfl (own_k1_1 hc1); rw [own_sJ1_1 hc1] at q; exact q
    have E231_233 := J6_0.wr W231
    have F231_234 := J6_1.other W231 (Or.inl n_a0_ca)
    have E231_235 := J6_2.wr W231
    have F231_236 := J6_3.other W231 (Or.inl n_sh_ca)
    have F231_237 := J6_4.other W231 (Or.inl n_a0_ca)
    have F231_238 := J6_5.other W231 (Or.inl n_a0_ca)
    have F231_239 := J6_6.other W231 (Or.inl n_a0_ca)
    have E231_240 := J6_7.wr W231
    have V231_241 := J6_8.other W231 n_a1_ca
    have E231_242 := J6_9.wr W231
    have E231_243 := J6_10.wr W231
    have V231_244 := J6_11.other W231 n_fa_ca
    have K231 := K6.wr W231 (Or.inl (List.mem_of_getElem? (i := 1) rfl))
    have O231 := O6.wr W231 pf14
    have N231 := Fr.snoc X231 N145 pf14
    obtain ⟨T245, X245, e245, st245⟩ := getF X231 hx hZ hown (host := "") (Or.inl (ow hw 60 rfl)) Via.refl e231 F231_238 (g := (mkF m 99 #[rv a0, rv a1, iv p2, iv (1 : Int32), iv ((1 : Int32) + c1)] [(.ref a0)])) rfl rfl (hb hby d8_99)
    obtain ⟨cl246, Ar246, q246, S246, N246, H246, G246⟩ := id V231_232
    have hin246 := own_in ((1 : Int32) + c1) S246 (own_b1_1 hc1)
    have hat246 : cl246.slots[(((1 : Int32) + c1)).toNatClampNeg]? = some (.long (Kz1 - (1 : Int64))) := Has.at H246 hin246 ((own_gJ1_1 hc1).trans (congrArg Value.long (own_spJ1 hc1)))
    have pre247 : ∀ tg, AT p e below T245 m 107 #[rv a0, rv a1, iv p2, iv (1 : Int32), iv ((1 : Int32) + c1)] [(.int (XT.cmpL (Kz1 - (1 : Int64)) (0 : Int64)))] tg → Steps p.tables e below S0 tg := fun tg kg => pre189 tg (by
     refine XS.icmpYes X187.here hx rfl (pc0 := 43) (pc' := 68) rfl (hb hby d8_43) rfl (XT.ii_ne_t hc190) (by decide) (by decide) ?_
     refine XS.aloadN X187.here hx rfl (hb hby d8_68) rfl rfl ?_
     refine st225 _ ?_
     refine XS.aloadN X225.here hx rfl (hb hby d8_72) rfl rfl ?_
     refine st226 _ ?_
     refine XS.iload X226.here hx rfl (hb hby d8_76) rfl ?_
     refine X226.laload hx (j := ((1 : Int32) + c1)) (v := (.long Kz1)) (by rw [e226]; exact Ar227.1) (State.isArrayOf_alike hZ.alike Ar227.2.1) Ar227.2.2 hin227 hat227 (g := (mkF m 78 #[rv a0, rv a1, iv p2, iv (1 : Int32), iv ((1 : Int32) + c1)] [(.int ((1 : Int32) + c1)), (.ref ca), (.ref w_lam)])) rfl rfl (hb hby d8_78) _ ?_
     refine st228 _ ?_
     show AT p e below T228 m 84 #[rv a0, rv a1, iv p2, iv (1 : Int32), iv ((1 : Int32) + c1)] [(.int (1 : Int32))] _
     refine XS.ifNo X228.here hx rfl (hb hby d8_84) rfl (XT.i0_eq_f ((by decide) : ¬ ((1 : Int32) = (0 : Int32)))) ?_
     refine XS.aloadN X228.here hx rfl (hb hby d8_87) rfl rfl ?_
     refine st229 _ ?_
     refine XS.iload X229.here hx rfl (hb hby d8_91) rfl ?_
     refine XT.dup2 X229.here hx rfl (hb hby d8_93) rfl rfl rfl ?_
     refine X229.laload hx (j := ((1 : Int32) + c1)) (v := (.long Kz1)) (by rw [e229]; exact Ar230.1) (State.isArrayOf_alike hZ.alike Ar230.2.1) Ar230.2.2 hin230 hat230 (g := (mkF m 94 #[rv a0, rv a1, iv p2, iv (1 : Int32), iv ((1 : Int32) + c1)] [(.int ((1 : Int32) + c1)), (.ref ca), (.int ((1 : Int32) + c1)), (.ref ca)])) rfl rfl (hb hby d8_94) _ ?_
     refine XS.lconst X229.here hx rfl (hb hby d8_95) ?_
     refine XS.lsub X229.here hx rfl (hb hby d8_96) rfl ?_
     refine st231 _ ?_
     refine XS.aloadN X231.here hx rfl (hb hby d8_98) rfl rfl ?_
     refine st245 _ ?_
     refine XS.iload X245.here hx rfl (hb hby d8_102) rfl ?_
     refine X245.laload hx (j := ((1 : Int32) + c1)) (v := (.long (Kz1 - (1 : Int64)))) (by rw [e245]; exact Ar246.1) (State.isArrayOf_alike hZ.alike Ar246.2.1) Ar246.2.2 hin246 hat246 (g := (mkF m 104 #[rv a0, rv a1, iv p2, iv (1 : Int32), iv ((1 : Int32) + c1)] [(.int ((1 : Int32) + c1)), (.ref ca)])) rfl rfl (hb hby d8_104) _ ?_
     refine XS.lconst X245.here hx rfl (hb hby d8_105) ?_
     refine XS.lcmp X245.here hx rfl (hb hby d8_106) rfl ?_
     exact kg)
    rcases Decidable.em ((Kz1 - (1 : Int64)) = (0 : Int64)) with hc248 | hc248
    ·
     obtain ⟨T249, X249, e249, st249⟩ := getF X245 hx hZ hown (host := "") (Or.inl (ow hw 57 rfl)) Via.refl e245 F231_237 (g := (mkF m 111 #[rv a0, rv a1, iv p2, iv (1 : Int32), iv ((1 : Int32) + c1)] [(.ref a0)])) rfl rfl (hb hby d8_111)
     obtain ⟨cl250, Ar250, q250, S250, M250, H250, G250⟩ := id V231_244
     have hin250 := own_in ((1 : Int32) + c1) S250 (own_b1_1 hc1)
     obtain ⟨T250, h250, X250, e250, W250, st250⟩ := stI X249 hx hZ e249 Ar250 (j := ((1 : Int32) + c1)) hin250 (g := (mkF m 117 #[rv a0, rv a1, iv p2, iv (1 : Int32), iv ((1 : Int32) + c1)] [(.int p2), (.int ((1 : Int32) + c1)), (.ref fa)])) rfl rfl (hb hby d8_117)
     have V250_251 : Arv Z h250 fa kf .int (2 : Int32) [(.int (pI c0 (0 : Int32) (nf Kz0 Fz0 p2) f0)), (.int (pI c1 (0 : Int32) p2 f1))] (.int (0 : Int32)) := by have q := Arv.set Ar250 q250 S250 M250 H250 G250 rfl W250 (((1 : Int32) + c1)).toNatClampNeg rfl (own_k1_1 hc1); rw [own_sI1_1 hc1] at q; exact q
     have E250_252 := E231_233.wr W250
     have F250_253 := F231_234.other W250 (Or.inl n_a0_fa)
     have E250_254 := E231_235.wr W250
     have F250_255 := F231_236.other W250 (Or.inl n_sh_fa)
     have F250_256 := F231_237.other W250 (Or.inl n_a0_fa)
     have F250_257 := F231_238.other W250 (Or.inl n_a0_fa)
     have F250_258 := F231_239.other W250 (Or.inl n_a0_fa)
     have E250_259 := E231_240.wr W250
     have V250_260 := V231_241.other W250 pf15
     have E250_261 := E231_242.wr W250
     have E250_262 := E231_243.wr W250
     have V250_263 := V231_232.other W250 (Ne.symm n_fa_ca)
     have K250 := K231.wr W250 (Or.inl (List.mem_of_getElem? (i := 0) rfl))
     have O250 := O231.wr W250 pf13
     have N250 := Fr.snoc X250 N231 pf13
     obtain ⟨T264, X264, e264, st264⟩ := getF X250 hx hZ hown (host := "") (Or.inl (ow hw 60 rfl)) Via.refl e250 F250_257 (g := (mkF m 119 #[rv a0, rv a1, iv p2, iv (1 : Int32), iv ((1 : Int32) + c1)] [(.ref a0)])) rfl rfl (hb hby d8_119)
     obtain ⟨cl265, Ar265, q265, S265, M265, H265, G265⟩ := id V250_263
     have hin265 := own_in ((1 : Int32) + c1) S265 (own_b1_1 hc1)
     obtain ⟨T265, h265, X265, e265, W265, st265⟩ := stJ X264 hx hZ e264 Ar265 (j := ((1 : Int32) + c1)) hin265 (g := (mkF m 125 #[rv a0, rv a1, iv p2, iv (1 : Int32), iv ((1 : Int32) + c1)] [(.long (1 : Int64)), (.int ((1 : Int32) + c1)), (.ref ca)])) rfl rfl (hb hby d8_125)
     have V265_266 : Arv Z h265 ca kc .long (2 : Int32) [(.long (pJ c0 (0 : Int32) (nc Kz0 Fz0 p2) k0)), (.long (pJ c1 (0 : Int32) (1 : Int64) k1))] (.long (0 : Int64)) := by have q := Arv.set Ar265 q265 S265 M265 H265 G265 rfl W265 (((1 : Int32) + c1)).toNatClampNeg rfl (own_k1_1 hc1); rw [own_sJ1_1 hc1] at q; simp only [own_ppJ] at q; exact q
     have E265_267 := E250_252.wr W265
     have F265_268 := F250_253.other W265 (Or.inl n_a0_ca)
     have E265_269 := E250_254.wr W265
     have F265_270 := F250_255.other W265 (Or.inl n_sh_ca)
     have F265_271 := F250_256.other W265 (Or.inl n_a0_ca)
     have F265_272 := F250_257.other W265 (Or.inl n_a0_ca)
     have F265_273 := F250_258.other W265 (Or.inl n_a0_ca)
     have E265_274 := E250_259.wr W265
     have V265_275 := V250_260.other W265 n_a1_ca
     have E265_276 := E250_261.wr W265
     have E265_277 := E250_262.wr W265
     have V265_278 := V250_251.other W265 n_fa_ca
     have K265 := K250.wr W265 (Or.inl (List.mem_of_getElem? (i := 1) rfl))
     have O265 := O250.wr W265 pf14
     have N265 := Fr.snoc X265 N250 pf14
     have pre279 : ∀ tg, AT p e below T265 m 126 #[rv a0, rv a1, iv p2, iv (1 : Int32), iv ((1 : Int32) + c1)] [] tg → Steps p.tables e below S0 tg := fun tg kg => pre247 tg (by
      refine XS.ifNo X245.here hx rfl (hb hby d8_107) rfl (XT.ll_ne_f hc248) ?_
      refine XS.aloadN X245.here hx rfl (hb hby d8_110) rfl rfl ?_
      refine st249 _ ?_
      refine XS.iload X249.here hx rfl (hb hby d8_114) rfl ?_
      refine XS.iloadN X249.here hx rfl (hb hby d8_116) rfl ?_
      refine st250 _ ?_
      refine XS.aloadN X250.here hx rfl (hb hby d8_118) rfl rfl ?_
      refine st264 _ ?_
      refine XS.iload X264.here hx rfl (hb hby d8_122) rfl ?_
      show AT p e below T264 m 124 #[rv a0, rv a1, iv p2, iv (1 : Int32), iv ((1 : Int32) + c1)] [(.int ((1 : Int32) + c1)), (.ref ca)] _
      refine XS.lconst X264.here hx rfl (hb hby d8_124) ?_
      refine st265 _ ?_
      exact kg)
     have hj280 : (pI c1 (0 : Int32) (nf Kz1 Fz1 p2) f1) = (pI c1 (0 : Int32) p2 f1) := by simp only [nf, if_neg hc152, if_neg hc190, if_pos hc248]
     have hj281 : (pJ c1 (0 : Int32) (nc Kz1 Fz1 p2) k1) = (pJ c1 (0 : Int32) (1 : Int64) k1) := by simp only [nc, if_neg hc152, if_neg hc190, if_pos hc248]
     exact ⟨_, _, _, X265, e265, N265, K265, O265, E265_267, F265_268, E265_269, F265_270, F265_271, F265_272, F265_273, E265_274, V265_275, E265_276, E265_277, (by rw [hj280]; exact V265_278), (by rw [hj281]; exact V265_266), pre279⟩
    ·
     have pre282 : ∀ tg, AT p e below T245 m 126 #[rv a0, rv a1, iv p2, iv (1 : Int32), iv ((1 : Int32) + c1)] [] tg → Steps p.tables e below S0 tg := fun tg kg => pre247 tg (by
      refine XS.ifYes X245.here hx rfl (pc0 := 107) (pc' := 126) rfl (hb hby d8_107) rfl (XT.ll_ne_t hc248) (by decide) (by decide) ?_
      exact kg)
     have hj283 : (pI c1 (0 : Int32) (nf Kz1 Fz1 p2) f1) = f1 := by rw [nf, if_neg hc152, if_neg hc190, if_neg hc248, hFz1]; exact own_psI1_0 hc1
     have hj284 : (pJ c1 (0 : Int32) (nc Kz1 Fz1 p2) k1) = (pJ c1 (0 : Int32) (Kz1 - (1 : Int64)) k1) := by simp only [nc, if_neg hc152, if_neg hc190, if_neg hc248]
     exact ⟨_, _, _, X245, e245, N231, K231, O231, E231_233, F231_234, E231_235, F231_236, F231_237, F231_238, F231_239, E231_240, V231_241, E231_242, E231_243, (by rw [hj283]; exact V231_244), (by rw [hj284]; exact V231_232), pre282⟩
 obtain ⟨cl285, Ar285, q285, S285, N285, H285, G285⟩ := id J148_8
 obtain ⟨fs, hr, hrun, hended, hW, hsame⟩ := X148.leave (v := none) (fun _ => rfl) hlk
 subst hS0
 refine ⟨_, _, pre148 _ ?_, hrun, hended, _, _, rfl, ?_, ⟨_, rfl⟩, hW, hsame.mono (by decide) (by decide)⟩
 ·
  refine XS.iinc X148.here hx rfl (hb hby d8_126) rfl (l' := #[rv a0, rv a1, iv p2, iv (2 : Int32), iv ((1 : Int32) + c1)]) rfl ?_
  refine XS.goto X148.here hx rfl (pc0 := 129) (pc' := 2) rfl (hb hby d8_129) (by decide) (by decide) ?_
  refine XS.iloadN X148.here hx rfl (hb hby d8_2) rfl ?_
  refine XS.aloadN X148.here hx rfl (hb hby d8_3) rfl rfl ?_
  refine X148.arraylength hx (by rw [e148]; exact Ar285.1) (State.isArrayOf_alike hZ.alike Ar285.2.1) (g := (mkF m 4 #[rv a0, rv a1, iv p2, iv (2 : Int32), iv ((1 : Int32) + c1)] [(.ref a1), (.int (2 : Int32))])) rfl rfl (hb hby d8_4) _ ?_
  rw [len_of S285 N285]
  show AT p e below T148 m 5 #[rv a0, rv a1, iv p2, iv (2 : Int32), iv ((1 : Int32) + c1)] [(.int (2 : Int32)), (.int (2 : Int32))] _
  refine XS.icmpYes X148.here hx rfl (pc0 := 5) (pc' := 132) rfl (hb hby d8_5) rfl (XT.ii_ge_t ((by decide) : ¬ ((2 : Int32) < (2 : Int32)))) (by decide) (by decide) ?_
  exact X148.returnOut hx Bd.returns (hb hby d8_132) hr
 ·
  show Q8_1 Z a0 a1 p2 sh kk c0 c1 fa ca kf kc f0 f1 k0 k1 h0 n0 _ T148.heap _
  rw [e148]
  exact ⟨rfl, N148, K148, (by have q := J148_11; rw [hKz0, hFz0, hKz1, hFz1] at q; exact q), (by have q := J148_12; rw [hKz0, hFz0, hKz1, hFz1] at q; exact q)⟩

theorem d10_0 : decode prog_26_method_6_code 0 = .ok (.aload_n 0, 1) := by decide +kernel
theorem d10_1 : decode prog_26_method_6_code 1 = .ok (.getfield 46, 3) := by decide +kernel
theorem d10_4 : decode prog_26_method_6_code 4 = .ok (.iload_n 1, 1) := by decide +kernel
theorem d10_5 : decode prog_26_method_6_code 5 = .ok (.aload_n 0, 1) := by decide +kernel
theorem d10_6 : decode prog_26_method_6_code 6 = .ok (.getfield 31, 3) := by decide +kernel
theorem d10_9 : decode prog_26_method_6_code 9 = .ok (.invokevirtual 50, 3) := by decide +kernel
theorem d10_12 : decode prog_26_method_6_code 12 = .ok (.imul, 1) := by decide +kernel
theorem d10_13 : decode prog_26_method_6_code 13 = .ok (.iload_n 2, 1) := by decide +kernel
theorem d10_14 : decode prog_26_method_6_code 14 = .ok (.iadd, 1) := by decide +kernel
theorem d10_15 : decode prog_26_method_6_code 15 = .ok (.laload, 1) := by decide +kernel
theorem d10_16 : decode prog_26_method_6_code 16 = .ok (.lreturn, 1) := by decide +kernel
theorem ef_10_1_0 (m : MethodId) (a0 : Addr) (p2 : Int32) : entryFrame m #[(.ref a0), (.int (0 : Int32)), (.int p2)] 3 = mkF m 0 #[rv a0, iv (0 : Int32), iv p2] [] := by first | (simp [entryFrame, mkF, argsToLocals, Value.category]; done) | rfl
def Q10_1_0 (Z : State) (a0 : Addr) (p2 : Int32) (sh : Addr) (ca : Addr) (kc : ClassId) (k0 : Int64) (k1 : Int64) (h0 : Heap) (n0 : Nat) (v : Option Value) (h : Heap) (L : List Loc) : Prop := v = some (.long (sJ1 p2 k0)) ∧ Fr n0 L ∧ h = h0
abbrev R10_1_0 : Room := ({ frames := 1, cells := 0, slots := 0, locals := 14 } : Room)
set_option maxRecDepth 65536 in
set_option maxHeartbeats 40000000 in
theorem rm10_1_0 (l : Launch) (Z : State) (ar : Array Value) (hw : ∀ d ∈ tables_1, d.before ar Z = true) (ws : List Jvm.Cond) (a0 : Addr) (p2 : Int32) (sh : Addr) (ca : Addr) (kc : ClassId) (k0 : Int64) (k1 : Int64) (h0 : Heap) (n0 : Nat) (O0 : Old Z n0 h0) (pf0 : Exa Z h0 a0 "com/example/filters_under_siege/filtersundersiege/KeeperPairs") (pf1 : Fld Z h0 a0 "com/example/filters_under_siege/filtersundersiege/KeeperPairs" "shape" "Lcom/example/filters_under_siege/filtersundersiege/SketchShape;" (.ref sh)) (pf2 : Exa Z h0 sh "com/example/filters_under_siege/filtersundersiege/SketchShape") (pf3 : Fld Z h0 sh "com/example/filters_under_siege/filtersundersiege/SketchShape" "width" "I" (.int (1 : Int32))) (pf4 : Fld Z h0 a0 "com/example/filters_under_siege/filtersundersiege/KeeperPairs" "counts" "[J" (.ref ca)) (pf5 : Arv Z h0 ca kc .long (2 : Int32) [(.long k0), (.long k1)] (.long (0 : Int64))) (hp2 : p2 = (0 : Int32)) :
    MetFree l y10 (head1 (Jvm.Cond.code y10 prog_26_method_6_code 3 (some .long) :: ws) R10_1_0) (fun a U => a = #[(.ref a0), (.int (0 : Int32)), (.int p2)] ∧ Z.Warmed39 U.vm ∧ U.heap = h0) (fun _ _ _ _ _ => True) (fun _ U o U' => ∃ v L, o = .returned v ∧ Q10_1_0 Z a0 p2 sh ca kc k0 k1 h0 n0 v U'.heap L ∧ FrameEnd U o U' L R10_1_0.cells R10_1_0.slots) := by
 refine MetFree.of_bodySF (plainFor_of_name pn_3) hisR ?_
 intro p e s m args below meth c s₁ Bd hml0 hP hK
 obtain ⟨rfl, hZ, hh⟩ := hP
 have hx := Bd.exec
 have hby := Bd.bytes
 have hml : c.maxLocals = 3 := hml0
 have hown : s.vm.findClass "com/example/filters_under_siege/filtersundersiege/KeeperPairs" = some m.cls := findClass_of_methodNamed Bd.named
 have hnm := (name_of_methodNamed Bd.named Bd.method).1
 have hlk : meth.locks = false := by first | assumption | exact BodyLoose.notSynchronized (by assumption) | exact Body.notSynchronized (by assumption)
 have X0 : Stand p l e R10_1_0 s m #[(.ref a0), (.int (0 : Int32)), (.int p2)] below meth c s₁ [] 0 0 := Stand.of_body Bd
 have e0 : s₁.heap = h0 := by rw [← hh, Bd.state]; rfl
 have N0 := Fr.nil n0
 have Z0 : n0 ≤ h0.size := Nat.le_trans (Nat.le_of_eq O0.1.symm) O0.2.1
 obtain ⟨S0, hS0⟩ : ∃ z, z = s₁.setTop (entryFrame m #[(.ref a0), (.int (0 : Int32)), (.int p2)] 3) := ⟨_, rfl⟩
 have pre0 : ∀ tg, AT p e below s₁ m 0 #[rv a0, iv (0 : Int32), iv p2] [] tg → Steps p.tables e below S0 tg := fun tg kg => by rw [hS0]; exact castTop (ef_10_1_0 m a0 p2) kg
 obtain ⟨T1, X1, e1, st1⟩ := getF X0 hx hZ hown (host := "") (Or.inl (ow hw 60 rfl)) Via.refl e0 pf4 (g := (mkF m 1 #[rv a0, iv (0 : Int32), iv p2] [(.ref a0)])) rfl rfl (hb hby d10_1)
 obtain ⟨T2, X2, e2, st2⟩ := getF X1 hx hZ hown (host := "") (Or.inl (ow hw 48 rfl)) Via.refl e1 pf1 (g := (mkF m 6 #[rv a0, iv (0 : Int32), iv p2] [(.ref a0), (.int (0 : Int32)), (.ref ca)])) rfl rfl (hb hby d10_6)
 obtain ⟨cq3, kq3, q3a, q3b, q3c⟩ := isOf hZ e2 pf2
 obtain ⟨_, _, ⟨T3, L3, k3, n3⟩, -, X3, ⟨Lc3, hQ3, l3, y3, z3⟩, st3⟩ := X2.virtualBack hx (y := y9) (z := y9) hown (mvT hZ (ow hw 67 rfl)) (mvT hZ (ow hw 68 rfl)) (notFace_of_selects (args := #[]) (mvT hZ (ow hw 70 rfl))) (mvT hZ (ow hw 70 rfl)) (mvT hZ (ow hw 69 rfl)) (by decide) (backOf (W := 2) (rm9 l Z ar hw [] sh _ h0 n0 O0 pf3) hZ (ow hw 71 rfl) (ow hw 7 rfl) (by decide) (by decide)) q3a q3c (g := (mkF m 9 #[rv a0, iv (0 : Int32), iv p2] [(.ref sh), (.int (0 : Int32)), (.ref ca)])) rfl (by rw [hml]; rfl) (Steps.refl _) (argsL := []) (rest := [(.int (0 : Int32)), (.ref ca)]) (lenOf pd_2 rfl) rfl (by show 2 * 0 + _ ≤ _; exact Nat.le_of_eq rfl) (hb hby d10_9) (fun _ _ => ⟨rfl, e2, (by decide : 0 + 0 ≤ _), (by decide : 0 + 0 ≤ _)⟩)
 dsimp only [Pt.U, Pt.locs, Pt.cells, Pt.slots] at X3 l3 y3 z3 st3 hQ3
 subst l3 y3 z3
 obtain ⟨rfl, N3q, e3⟩ := hQ3
 have N3 := Fr.app N0 N3q
 obtain ⟨cl4, Ar4, q4, S4, N4, H4, G4⟩ := id pf5
 have hin4 := own_in ((0 : Int32) + p2) S4 (own_b1_0 hp2)
 have hat4 : cl4.slots[(((0 : Int32) + p2)).toNatClampNeg]? = some (.long (sJ1 p2 k0)) := Has.at H4 hin4 (own_gJ1_0 hp2)
 obtain ⟨fs, hr, hrun, hended, hW, hsame⟩ := X3.leave (v := some (.long (sJ1 p2 k0))) (fun h => by rw [Bd.returns] at h; cases h) hlk
 subst hS0
 refine ⟨_, _, pre0 _ ?_, hrun, hended, _, _, rfl, ?_, ⟨_, rfl⟩, hW, hsame.mono (by decide) (by decide)⟩
 ·
  refine XS.aloadN X0.here hx rfl (hb hby d10_0) rfl rfl ?_
  refine st1 _ ?_
  refine XS.iloadN X1.here hx rfl (hb hby d10_4) rfl ?_
  refine XS.aloadN X1.here hx rfl (hb hby d10_5) rfl rfl ?_
  refine st2 _ ?_
  refine st3.trans ?_
  refine XS.imul X3.here hx rfl (hb hby d10_12) rfl ?_
  refine XS.iloadN X3.here hx rfl (hb hby d10_13) rfl ?_
  refine XS.iadd X3.here hx rfl (hb hby d10_14) rfl ?_
  refine X3.laload hx (j := ((0 : Int32) + p2)) (v := (.long (sJ1 p2 k0))) (by rw [e3]; exact Ar4.1) (State.isArrayOf_alike hZ.alike Ar4.2.1) Ar4.2.2 hin4 hat4 (g := (mkF m 15 #[rv a0, iv (0 : Int32), iv p2] [(.int ((0 : Int32) + p2)), (.ref ca)])) rfl rfl (hb hby d10_15) _ ?_
  exact retOut X3 hx (t := .long) (i := .lreturn) Bd.returns rfl (Or.inr (Or.inl ⟨rfl, rfl, _, rfl⟩)) (hb hby d10_16) hr
 ·
  show Q10_1_0 Z a0 p2 sh ca kc k0 k1 h0 n0 _ T3.heap _
  rw [e3]
  exact ⟨rfl, N3, rfl⟩

theorem ef_10_1_1 (m : MethodId) (a0 : Addr) (p2 : Int32) : entryFrame m #[(.ref a0), (.int (1 : Int32)), (.int p2)] 3 = mkF m 0 #[rv a0, iv (1 : Int32), iv p2] [] := by first | (simp [entryFrame, mkF, argsToLocals, Value.category]; done) | rfl
def Q10_1_1 (Z : State) (a0 : Addr) (p2 : Int32) (sh : Addr) (ca : Addr) (kc : ClassId) (k0 : Int64) (k1 : Int64) (h0 : Heap) (n0 : Nat) (v : Option Value) (h : Heap) (L : List Loc) : Prop := v = some (.long (sJ1 p2 k1)) ∧ Fr n0 L ∧ h = h0
abbrev R10_1_1 : Room := ({ frames := 1, cells := 0, slots := 0, locals := 14 } : Room)
set_option maxRecDepth 65536 in
set_option maxHeartbeats 40000000 in
theorem rm10_1_1 (l : Launch) (Z : State) (ar : Array Value) (hw : ∀ d ∈ tables_1, d.before ar Z = true) (ws : List Jvm.Cond) (a0 : Addr) (p2 : Int32) (sh : Addr) (ca : Addr) (kc : ClassId) (k0 : Int64) (k1 : Int64) (h0 : Heap) (n0 : Nat) (O0 : Old Z n0 h0) (pf0 : Exa Z h0 a0 "com/example/filters_under_siege/filtersundersiege/KeeperPairs") (pf1 : Fld Z h0 a0 "com/example/filters_under_siege/filtersundersiege/KeeperPairs" "shape" "Lcom/example/filters_under_siege/filtersundersiege/SketchShape;" (.ref sh)) (pf2 : Exa Z h0 sh "com/example/filters_under_siege/filtersundersiege/SketchShape") (pf3 : Fld Z h0 sh "com/example/filters_under_siege/filtersundersiege/SketchShape" "width" "I" (.int (1 : Int32))) (pf4 : Fld Z h0 a0 "com/example/filters_under_siege/filtersundersiege/KeeperPairs" "counts" "[J" (.ref ca)) (pf5 : Arv Z h0 ca kc .long (2 : Int32) [(.long k0), (.long k1)] (.long (0 : Int64))) (hp2 : p2 = (0 : Int32)) :
    MetFree l y10 (head1 (Jvm.Cond.code y10 prog_26_method_6_code 3 (some .long) :: ws) R10_1_1) (fun a U => a = #[(.ref a0), (.int (1 : Int32)), (.int p2)] ∧ Z.Warmed39 U.vm ∧ U.heap = h0) (fun _ _ _ _ _ => True) (fun _ U o U' => ∃ v L, o = .returned v ∧ Q10_1_1 Z a0 p2 sh ca kc k0 k1 h0 n0 v U'.heap L ∧ FrameEnd U o U' L R10_1_1.cells R10_1_1.slots) := by
 refine MetFree.of_bodySF (plainFor_of_name pn_3) hisR ?_
 intro p e s m args below meth c s₁ Bd hml0 hP hK
 obtain ⟨rfl, hZ, hh⟩ := hP
 have hx := Bd.exec
 have hby := Bd.bytes
 have hml : c.maxLocals = 3 := hml0
 have hown : s.vm.findClass "com/example/filters_under_siege/filtersundersiege/KeeperPairs" = some m.cls := findClass_of_methodNamed Bd.named
 have hnm := (name_of_methodNamed Bd.named Bd.method).1
 have hlk : meth.locks = false := by first | assumption | exact BodyLoose.notSynchronized (by assumption) | exact Body.notSynchronized (by assumption)
 have X0 : Stand p l e R10_1_1 s m #[(.ref a0), (.int (1 : Int32)), (.int p2)] below meth c s₁ [] 0 0 := Stand.of_body Bd
 have e0 : s₁.heap = h0 := by rw [← hh, Bd.state]; rfl
 have N0 := Fr.nil n0
 have Z0 : n0 ≤ h0.size := Nat.le_trans (Nat.le_of_eq O0.1.symm) O0.2.1
 obtain ⟨S0, hS0⟩ : ∃ z, z = s₁.setTop (entryFrame m #[(.ref a0), (.int (1 : Int32)), (.int p2)] 3) := ⟨_, rfl⟩
 have pre0 : ∀ tg, AT p e below s₁ m 0 #[rv a0, iv (1 : Int32), iv p2] [] tg → Steps p.tables e below S0 tg := fun tg kg => by rw [hS0]; exact castTop (ef_10_1_1 m a0 p2) kg
 obtain ⟨T1, X1, e1, st1⟩ := getF X0 hx hZ hown (host := "") (Or.inl (ow hw 60 rfl)) Via.refl e0 pf4 (g := (mkF m 1 #[rv a0, iv (1 : Int32), iv p2] [(.ref a0)])) rfl rfl (hb hby d10_1)
 obtain ⟨T2, X2, e2, st2⟩ := getF X1 hx hZ hown (host := "") (Or.inl (ow hw 48 rfl)) Via.refl e1 pf1 (g := (mkF m 6 #[rv a0, iv (1 : Int32), iv p2] [(.ref a0), (.int (1 : Int32)), (.ref ca)])) rfl rfl (hb hby d10_6)
 obtain ⟨cq3, kq3, q3a, q3b, q3c⟩ := isOf hZ e2 pf2
 obtain ⟨_, _, ⟨T3, L3, k3, n3⟩, -, X3, ⟨Lc3, hQ3, l3, y3, z3⟩, st3⟩ := X2.virtualBack hx (y := y9) (z := y9) hown (mvT hZ (ow hw 67 rfl)) (mvT hZ (ow hw 68 rfl)) (notFace_of_selects (args := #[]) (mvT hZ (ow hw 70 rfl))) (mvT hZ (ow hw 70 rfl)) (mvT hZ (ow hw 69 rfl)) (by decide) (backOf (W := 2) (rm9 l Z ar hw [] sh _ h0 n0 O0 pf3) hZ (ow hw 71 rfl) (ow hw 7 rfl) (by decide) (by decide)) q3a q3c (g := (mkF m 9 #[rv a0, iv (1 : Int32), iv p2] [(.ref sh), (.int (1 : Int32)), (.ref ca)])) rfl (by rw [hml]; rfl) (Steps.refl _) (argsL := []) (rest := [(.int (1 : Int32)), (.ref ca)]) (lenOf pd_2 rfl) rfl (by show 2 * 0 + _ ≤ _; exact Nat.le_of_eq rfl) (hb hby d10_9) (fun _ _ => ⟨rfl, e2, (by decide : 0 + 0 ≤ _), (by decide : 0 + 0 ≤ _)⟩)
 dsimp only [Pt.U, Pt.locs, Pt.cells, Pt.slots] at X3 l3 y3 z3 st3 hQ3
 subst l3 y3 z3
 obtain ⟨rfl, N3q, e3⟩ := hQ3
 have N3 := Fr.app N0 N3q
 obtain ⟨cl4, Ar4, q4, S4, N4, H4, G4⟩ := id pf5
 have hin4 := own_in ((1 : Int32) + p2) S4 (own_b1_1 hp2)
 have hat4 : cl4.slots[(((1 : Int32) + p2)).toNatClampNeg]? = some (.long (sJ1 p2 k1)) := Has.at H4 hin4 (own_gJ1_1 hp2)
 obtain ⟨fs, hr, hrun, hended, hW, hsame⟩ := X3.leave (v := some (.long (sJ1 p2 k1))) (fun h => by rw [Bd.returns] at h; cases h) hlk
 subst hS0
 refine ⟨_, _, pre0 _ ?_, hrun, hended, _, _, rfl, ?_, ⟨_, rfl⟩, hW, hsame.mono (by decide) (by decide)⟩
 ·
  refine XS.aloadN X0.here hx rfl (hb hby d10_0) rfl rfl ?_
  refine st1 _ ?_
  refine XS.iloadN X1.here hx rfl (hb hby d10_4) rfl ?_
  refine XS.aloadN X1.here hx rfl (hb hby d10_5) rfl rfl ?_
  refine st2 _ ?_
  refine st3.trans ?_
  refine XS.imul X3.here hx rfl (hb hby d10_12) rfl ?_
  refine XS.iloadN X3.here hx rfl (hb hby d10_13) rfl ?_
  refine XS.iadd X3.here hx rfl (hb hby d10_14) rfl ?_
  refine X3.laload hx (j := ((1 : Int32) + p2)) (v := (.long (sJ1 p2 k1))) (by rw [e3]; exact Ar4.1) (State.isArrayOf_alike hZ.alike Ar4.2.1) Ar4.2.2 hin4 hat4 (g := (mkF m 15 #[rv a0, iv (1 : Int32), iv p2] [(.int ((1 : Int32) + p2)), (.ref ca)])) rfl rfl (hb hby d10_15) _ ?_
  exact retOut X3 hx (t := .long) (i := .lreturn) Bd.returns rfl (Or.inr (Or.inl ⟨rfl, rfl, _, rfl⟩)) (hb hby d10_16) hr
 ·
  show Q10_1_1 Z a0 p2 sh ca kc k0 k1 h0 n0 _ T3.heap _
  rw [e3]
  exact ⟨rfl, N3, rfl⟩

theorem ef_1_2 (m : MethodId) (a0 : Addr) : entryFrame m #[(.ref a0), (.int (2 : Int32)), (.int (2 : Int32))] 3 = mkF m 0 #[rv a0, iv (2 : Int32), iv (2 : Int32)] [] := by first | (simp [entryFrame, mkF, argsToLocals, Value.category]; done) | rfl
def Q1_2 (Z : State) (a0 : Addr) (h0 : Heap) (n0 : Nat) (v : Option Value) (h : Heap) (L : List Loc) : Prop := v = none ∧ Fr n0 L ∧ Keep h0 h [a0] ∧ Exa Z h a0 "com/example/filters_under_siege/filtersundersiege/SketchShape" ∧ Fld Z h a0 "com/example/filters_under_siege/filtersundersiege/SketchShape" "rows" "I" (.int (2 : Int32)) ∧ Fld Z h a0 "com/example/filters_under_siege/filtersundersiege/SketchShape" "width" "I" (.int (2 : Int32))
abbrev R1_2 : Room := ({ frames := 2, cells := 0, slots := 0, locals := 24 } : Room)
set_option maxRecDepth 65536 in
set_option maxHeartbeats 40000000 in
theorem rm1_2 (l : Launch) (Z : State) (ar : Array Value) (hw : ∀ d ∈ tables_1, d.before ar Z = true) (ws : List Jvm.Cond) (a0 : Addr) (h0 : Heap) (n0 : Nat) (O0 : Old Z n0 h0) (pf0 : Exa Z h0 a0 "com/example/filters_under_siege/filtersundersiege/SketchShape") (pf1 : Fld Z h0 a0 "com/example/filters_under_siege/filtersundersiege/SketchShape" "rows" "I" (.int (0 : Int32))) (pf2 : Fld Z h0 a0 "com/example/filters_under_siege/filtersundersiege/SketchShape" "width" "I" (.int (0 : Int32))) (pf3 : n0 ≤ a0) :
    MetFree l y1 (head1 (Jvm.Cond.code y1 prog_39_method_1_code 3 none :: ws) R1_2) (fun a U => a = #[(.ref a0), (.int (2 : Int32)), (.int (2 : Int32))] ∧ Z.Warmed39 U.vm ∧ U.heap = h0) (fun _ _ _ _ _ => True) (fun _ U o U' => ∃ v L, o = .returned v ∧ Q1_2 Z a0 h0 n0 v U'.heap L ∧ FrameEnd U o U' L R1_2.cells R1_2.slots) := by
 refine MetFree.of_bodySF (plainFor_of_name pn_2) hisR ?_
 intro p e s m args below meth c s₁ Bd hml0 hP hK
 obtain ⟨rfl, hZ, hh⟩ := hP
 have hx := Bd.exec
 have hby := Bd.bytes
 have hml : c.maxLocals = 3 := hml0
 have hown : s.vm.findClass "com/example/filters_under_siege/filtersundersiege/SketchShape" = some m.cls := findClass_of_methodNamed Bd.named
 have hnm := (name_of_methodNamed Bd.named Bd.method).1
 have hlk : meth.locks = false := by first | assumption | exact BodyLoose.notSynchronized (by assumption) | exact Body.notSynchronized (by assumption)
 have X0 : Stand p l e R1_2 s m #[(.ref a0), (.int (2 : Int32)), (.int (2 : Int32))] below meth c s₁ [] 0 0 := Stand.of_body Bd
 have e0 : s₁.heap = h0 := by rw [← hh, Bd.state]; rfl
 have N0 := Fr.nil n0
 have Z0 : n0 ≤ h0.size := Nat.le_trans (Nat.le_of_eq O0.1.symm) O0.2.1
 obtain ⟨S0, hS0⟩ : ∃ z, z = s₁.setTop (entryFrame m #[(.ref a0), (.int (2 : Int32)), (.int (2 : Int32))] 3) := ⟨_, rfl⟩
 have pre0 : ∀ tg, AT p e below s₁ m 0 #[rv a0, iv (2 : Int32), iv (2 : Int32)] [] tg → Steps p.tables e below S0 tg := fun tg kg => by rw [hS0]; exact castTop (ef_1_2 m a0) kg
 obtain ⟨_, _, ⟨T1, L1, k1, n1⟩, -, X1, ⟨Lc1, hQ1, l1, y1, z1⟩, st1⟩ := X0.specialBack hx (y := y2) rfl hown (mvT hZ (ow hw 11 rfl)) (mvT hZ (ow hw 12 rfl)) (mvT hZ (ow hw 15 rfl)) (by decide) (backOf (W := 0) (rm2 l Z ar hw [] a0 h0 n0 O0) hZ (ow hw 15 rfl) (ow hw 14 rfl) (by decide) (by decide)) (g := (mkF m 1 #[rv a0, iv (2 : Int32), iv (2 : Int32)] [(.ref a0)])) rfl (by rw [hml]; rfl) (Steps.refl _) (a := a0) (argsL := []) (rest := []) (lenOf pd_0 rfl) rfl (by show 2 * 0 + _ ≤ _; exact Nat.le_of_eq rfl) (hb hby d1_1) (fun _ _ => ⟨rfl, e0, (by decide : 0 + 0 ≤ _), (by decide : 0 + 0 ≤ _)⟩)
 dsimp only [Pt.U, Pt.locs, Pt.cells, Pt.slots] at X1 l1 y1 z1 st1 hQ1
 subst l1 y1 z1
 obtain ⟨rfl, N1q, e1⟩ := hQ1
 have N1 := Fr.app N0 N1q
 obtain ⟨T2, h2, X2, e2, W2, st2⟩ := putF X1 hx hZ hown (host := "") (Or.inl (ow hw 20 rfl)) Via.refl e1 pf1 pf0 (Or.inr ⟨(ow hw 21 rfl), rfl, hnm⟩) (ow hw 6 rfl) (ty := .int) (by decide) rfl rfl (g := (mkF m 71 #[rv a0, iv (2 : Int32), iv (2 : Int32)] [(.int (2 : Int32)), (.ref a0)])) rfl rfl (hb hby d1_71)
 have E2_3 := pf0.wr W2
 have F2_4 : Fld Z h2 a0 "com/example/filters_under_siege/filtersundersiege/SketchShape" "rows" "I" (.int (2 : Int32)) := pf1.same W2
 have F2_5 := pf2.other W2 (Or.inr (slot_ne (Or.inr (ow hw 23 rfl)) (Or.inr (ow hw 21 rfl)) (by decide) (t := .int) (t' := .int) (by decide) (by decide)))
 have K2 := (Keep.refl h0 [a0]).wr W2 (Or.inl (List.mem_of_getElem? (i := 0) rfl))
 have O2 := O0.wr W2 pf3
 have N2 := Fr.snoc X2 N1 pf3
 obtain ⟨T6, h6, X6, e6, W6, st6⟩ := putF X2 hx hZ hown (host := "") (Or.inl (ow hw 22 rfl)) Via.refl e2 F2_5 E2_3 (Or.inr ⟨(ow hw 23 rfl), rfl, hnm⟩) (ow hw 6 rfl) (ty := .int) (by decide) rfl rfl (g := (mkF m 76 #[rv a0, iv (2 : Int32), iv (2 : Int32)] [(.int (2 : Int32)), (.ref a0)])) rfl rfl (hb hby d1_76)
 have E6_7 := E2_3.wr W6
 have F6_8 := F2_4.other W6 (Or.inr (slot_ne (Or.inr (ow hw 21 rfl)) (Or.inr (ow hw 23 rfl)) (by decide) (t := .int) (t' := .int) (by decide) (by decide)))
 have F6_9 : Fld Z h6 a0 "com/example/filters_under_siege/filtersundersiege/SketchShape" "width" "I" (.int (2 : Int32)) := F2_5.same W6
 have K6 := K2.wr W6 (Or.inl (List.mem_of_getElem? (i := 0) rfl))
 have O6 := O2.wr W6 pf3
 have N6 := Fr.snoc X6 N2 pf3
 obtain ⟨fs, hr, hrun, hended, hW, hsame⟩ := X6.leave (v := none) (fun _ => rfl) hlk
 subst hS0
 refine ⟨_, _, pre0 _ ?_, hrun, hended, _, _, rfl, ?_, ⟨_, rfl⟩, hW, hsame.mono (by decide) (by decide)⟩
 ·
  refine XS.aloadN X0.here hx rfl (hb hby d1_0) rfl rfl ?_
  refine st1.trans ?_
  refine XS.iloadN X1.here hx rfl (hb hby d1_4) rfl ?_
  refine XS.iconst X1.here hx rfl (hb hby d1_5) ?_
  show AT p e below T1 m 6 #[rv a0, iv (2 : Int32), iv (2 : Int32)] [(.int (1 : Int32)), (.int (2 : Int32))] _
  refine XS.icmpYes X1.here hx rfl (pc0 := 6) (pc' := 23) rfl (hb hby d1_6) rfl (XT.ii_ge_t ((by decide) : ¬ ((2 : Int32) < (1 : Int32)))) (by decide) (by decide) ?_
  refine XS.iloadN X1.here hx rfl (hb hby d1_23) rfl ?_
  refine XS.iconst X1.here hx rfl (hb hby d1_24) ?_
  show AT p e below T1 m 25 #[rv a0, iv (2 : Int32), iv (2 : Int32)] [(.int (1 : Int32)), (.int (2 : Int32))] _
  refine XS.icmpYes X1.here hx rfl (pc0 := 25) (pc' := 42) rfl (hb hby d1_25) rfl (XT.ii_ge_t ((by decide) : ¬ ((2 : Int32) < (1 : Int32)))) (by decide) (by decide) ?_
  refine XS.iloadN X1.here hx rfl (hb hby d1_42) rfl ?_
  refine XS.i2l X1.here hx rfl (hb hby d1_43) rfl ?_
  refine XS.iloadN X1.here hx rfl (hb hby d1_44) rfl ?_
  refine XS.i2l X1.here hx rfl (hb hby d1_45) rfl ?_
  refine XS.lmul X1.here hx rfl (hb hby d1_46) rfl ?_
  refine X1.ldc2Long hx hown (mvT hZ (ow hw 19 rfl)) (g := (mkF m 47 #[rv a0, iv (2 : Int32), iv (2 : Int32)] [(.long (4 : Int64))])) rfl (hb hby d1_47) _ ?_
  refine XS.lcmp X1.here hx rfl (hb hby d1_50) rfl ?_
  show AT p e below T1 m 51 #[rv a0, iv (2 : Int32), iv (2 : Int32)] [(.int (XT.cmpL (4 : Int64) (1073741824 : Int64)))] _
  refine XS.ifYes X1.here hx rfl (pc0 := 51) (pc' := 69) rfl (hb hby d1_51) rfl (XT.ll_le_t ((by decide) : ¬ ((1073741824 : Int64) < (4 : Int64)))) (by decide) (by decide) ?_
  refine XS.aloadN X1.here hx rfl (hb hby d1_69) rfl rfl ?_
  refine XS.iloadN X1.here hx rfl (hb hby d1_70) rfl ?_
  refine st2 _ ?_
  refine XS.aloadN X2.here hx rfl (hb hby d1_74) rfl rfl ?_
  refine XS.iloadN X2.here hx rfl (hb hby d1_75) rfl ?_
  refine st6 _ ?_
  exact X6.returnOut hx Bd.returns (hb hby d1_79) hr
 ·
  show Q1_2 Z a0 h0 n0 _ T6.heap _
  rw [e6]
  exact ⟨rfl, N6, K6, E6_7, F6_8, F6_9⟩

theorem ef_7_2 (m : MethodId) (a0 : Addr) : entryFrame m #[(.ref a0)] 1 = mkF m 0 #[rv a0] [] := by first | (simp [entryFrame, mkF, argsToLocals, Value.category]; done) | rfl
def Q7_2 (Z : State) (a0 : Addr) (h0 : Heap) (n0 : Nat) (v : Option Value) (h : Heap) (L : List Loc) : Prop := v = some (.int (4 : Int32)) ∧ Fr n0 L ∧ h = h0
abbrev R7_2 : Room := ({ frames := 0, cells := 0, slots := 0, locals := 0 } : Room)
set_option maxRecDepth 65536 in
set_option maxHeartbeats 40000000 in
theorem rm7_2 (l : Launch) (Z : State) (ar : Array Value) (hw : ∀ d ∈ tables_1, d.before ar Z = true) (ws : List Jvm.Cond) (a0 : Addr) (h0 : Heap) (n0 : Nat) (O0 : Old Z n0 h0) (pf0 : Fld Z h0 a0 "com/example/filters_under_siege/filtersundersiege/SketchShape" "rows" "I" (.int (2 : Int32))) (pf1 : Fld Z h0 a0 "com/example/filters_under_siege/filtersundersiege/SketchShape" "width" "I" (.int (2 : Int32))) :
    MetFree l y7 (head1 (Jvm.Cond.code y7 prog_39_method_2_code 1 (some .int) :: ws) R7_2) (fun a U => a = #[(.ref a0)] ∧ Z.Warmed39 U.vm ∧ U.heap = h0) (fun _ _ _ _ _ => True) (fun _ U o U' => ∃ v L, o = .returned v ∧ Q7_2 Z a0 h0 n0 v U'.heap L ∧ FrameEnd U o U' L R7_2.cells R7_2.slots) := by
 refine MetFree.of_bodySF (plainFor_of_name pn_2) hisR ?_
 intro p e s m args below meth c s₁ Bd hml0 hP hK
 obtain ⟨rfl, hZ, hh⟩ := hP
 have hx := Bd.exec
 have hby := Bd.bytes
 have hml : c.maxLocals = 1 := hml0
 have hown : s.vm.findClass "com/example/filters_under_siege/filtersundersiege/SketchShape" = some m.cls := findClass_of_methodNamed Bd.named
 have hnm := (name_of_methodNamed Bd.named Bd.method).1
 have hlk : meth.locks = false := by first | assumption | exact BodyLoose.notSynchronized (by assumption) | exact Body.notSynchronized (by assumption)
 have X0 : Stand p l e R7_2 s m #[(.ref a0)] below meth c s₁ [] 0 0 := Stand.of_body Bd
 have e0 : s₁.heap = h0 := by rw [← hh, Bd.state]; rfl
 have N0 := Fr.nil n0
 have Z0 : n0 ≤ h0.size := Nat.le_trans (Nat.le_of_eq O0.1.symm) O0.2.1
 obtain ⟨S0, hS0⟩ : ∃ z, z = s₁.setTop (entryFrame m #[(.ref a0)] 1) := ⟨_, rfl⟩
 have pre0 : ∀ tg, AT p e below s₁ m 0 #[rv a0] [] tg → Steps p.tables e below S0 tg := fun tg kg => by rw [hS0]; exact castTop (ef_7_2 m a0) kg
 obtain ⟨T1, X1, e1, st1⟩ := getF X0 hx hZ hown (host := "") (Or.inl (ow hw 20 rfl)) Via.refl e0 pf0 (g := (mkF m 1 #[rv a0] [(.ref a0)])) rfl rfl (hb hby d7_1)
 obtain ⟨T2, X2, e2, st2⟩ := getF X1 hx hZ hown (host := "") (Or.inl (ow hw 22 rfl)) Via.refl e1 pf1 (g := (mkF m 5 #[rv a0] [(.ref a0), (.int (2 : Int32))])) rfl rfl (hb hby d7_5)
 obtain ⟨fs, hr, hrun, hended, hW, hsame⟩ := X2.leave (v := some (.int (4 : Int32))) (fun h => by rw [Bd.returns] at h; cases h) hlk
 subst hS0
 refine ⟨_, _, pre0 _ ?_, hrun, hended, _, _, rfl, ?_, ⟨_, rfl⟩, hW, hsame.mono (by decide) (by decide)⟩
 ·
  refine XS.aloadN X0.here hx rfl (hb hby d7_0) rfl rfl ?_
  refine st1 _ ?_
  refine XS.aloadN X1.here hx rfl (hb hby d7_4) rfl rfl ?_
  refine st2 _ ?_
  refine XS.imul X2.here hx rfl (hb hby d7_8) rfl ?_
  exact retOut X2 hx (t := .int) (i := .ireturn) Bd.returns rfl (Or.inl ⟨rfl, Or.inl rfl, _, rfl⟩) (hb hby d7_9) hr
 ·
  show Q7_2 Z a0 h0 n0 _ T2.heap _
  rw [e2]
  exact ⟨rfl, N0, rfl⟩

theorem ef_5_2 (m : MethodId) (a0 : Addr) (a1 : Addr) (a2 : Addr) : entryFrame m #[(.ref a0), (.ref a1), (.ref a2)] 3 = mkF m 0 #[rv a0, rv a1, rv a2] [] := by first | (simp [entryFrame, mkF, argsToLocals, Value.category]; done) | rfl
def Q5_2 (Z : State) (a0 : Addr) (a1 : Addr) (a2 : Addr) (h0 : Heap) (n0 : Nat) (v : Option Value) (h : Heap) (L : List Loc) : Prop := ∃ (fa : Addr) (ca : Addr) (kf : ClassId) (kc : ClassId), v = none ∧ Fr n0 L ∧ Keep h0 h [a0] ∧ Exa Z h a0 "com/example/filters_under_siege/filtersundersiege/KeeperPairs" ∧ Fld Z h a0 "com/example/filters_under_siege/filtersundersiege/KeeperPairs" "shape" "Lcom/example/filters_under_siege/filtersundersiege/SketchShape;" (.ref a1) ∧ Fld Z h a0 "com/example/filters_under_siege/filtersundersiege/KeeperPairs" "knocksDown" "Ljava/util/function/LongPredicate;" (.ref a2) ∧ Fld Z h a0 "com/example/filters_under_siege/filtersundersiege/KeeperPairs" "fingerprints" "[I" (.ref fa) ∧ Fld Z h a0 "com/example/filters_under_siege/filtersundersiege/KeeperPairs" "counts" "[J" (.ref ca) ∧ Arv Z h fa kf .int (4 : Int32) [(.int (0 : Int32)), (.int (0 : Int32)), (.int (0 : Int32)), (.int (0 : Int32))] (.int (0 : Int32)) ∧ Arv Z h ca kc .long (4 : Int32) [(.long (0 : Int64)), (.long (0 : Int64)), (.long (0 : Int64)), (.long (0 : Int64))] (.long (0 : Int64)) ∧ h0.size ≤ fa ∧ h0.size ≤ ca ∧ Exa Z h fa "[I" ∧ Exa Z h ca "[J"
abbrev R5_2 : Room := ({ frames := 1, cells := 4, slots := 32, locals := 14 } : Room)
set_option maxRecDepth 65536 in
set_option maxHeartbeats 40000000 in
theorem rm5_2 (l : Launch) (Z : State) (ar : Array Value) (hw : ∀ d ∈ tables_1, d.before ar Z = true) (ws : List Jvm.Cond) (a0 : Addr) (a1 : Addr) (a2 : Addr) (h0 : Heap) (n0 : Nat) (O0 : Old Z n0 h0) (hEL : EW Z ar EL0) (pf0 : Exa Z h0 a0 "com/example/filters_under_siege/filtersundersiege/KeeperPairs") (pf1 : Fld Z h0 a0 "com/example/filters_under_siege/filtersundersiege/KeeperPairs" "shape" "Lcom/example/filters_under_siege/filtersundersiege/SketchShape;" .null) (pf2 : Fld Z h0 a0 "com/example/filters_under_siege/filtersundersiege/KeeperPairs" "fingerprints" "[I" .null) (pf3 : Fld Z h0 a0 "com/example/filters_under_siege/filtersundersiege/KeeperPairs" "counts" "[J" .null) (pf4 : Fld Z h0 a0 "com/example/filters_under_siege/filtersundersiege/KeeperPairs" "knocksDown" "Ljava/util/function/LongPredicate;" .null) (pf5 : n0 ≤ a0) (pf6 : Exa Z h0 a1 "com/example/filters_under_siege/filtersundersiege/SketchShape") (pf7 : Fld Z h0 a1 "com/example/filters_under_siege/filtersundersiege/SketchShape" "rows" "I" (.int (2 : Int32))) (pf8 : Fld Z h0 a1 "com/example/filters_under_siege/filtersundersiege/SketchShape" "width" "I" (.int (2 : Int32))) (pf9 : a0 ≠ a1) :
    MetFree l y5 (head1 (Jvm.Cond.code y5 prog_26_method_3_code 3 none :: ws) R5_2) (fun a U => a = #[(.ref a0), (.ref a1), (.ref a2)] ∧ Z.Warmed39 U.vm ∧ U.heap = h0 ∧ CHv Z EL0 U.vm h0) (fun _ _ _ _ _ => True) (fun _ U o U' => ∃ v L, o = .returned v ∧ Q5_2 Z a0 a1 a2 h0 n0 v U'.heap L ∧ CHr Z EL0 U.vm U.heap U'.vm U'.heap ∧ ReturnedEndW U o U' L R5_2.cells R5_2.slots) := by
 refine MetFree.of_bodySF (plainFor_of_name pn_3) hisR ?_
 intro p e s m args below meth c s₁ Bd hml0 hP hK
 obtain ⟨rfl, hZ, hh, hCH⟩ := hP
 have hx := Bd.exec
 have hby := Bd.bytes
 have hml : c.maxLocals = 3 := hml0
 have hown : s.vm.findClass "com/example/filters_under_siege/filtersundersiege/KeeperPairs" = some m.cls := findClass_of_methodNamed Bd.named
 have hnm := (name_of_methodNamed Bd.named Bd.method).1
 have hlk : meth.locks = false := by first | assumption | exact BodyLoose.notSynchronized (by assumption) | exact Body.notSynchronized (by assumption)
 have X0 : Stand p l e R5_2 (s.setVm s.vm) m #[(.ref a0), (.ref a1), (.ref a2)] below meth c s₁ [] 0 0 := Stand.of_body Bd
 have e0 : s₁.heap = h0 := by rw [← hh, Bd.state]; rfl
 have N0 := Fr.nil n0
 have Z0 : n0 ≤ h0.size := Nat.le_trans (Nat.le_of_eq O0.1.symm) O0.2.1
 obtain ⟨S0, hS0⟩ : ∃ z, z = s₁.setTop (entryFrame m #[(.ref a0), (.ref a1), (.ref a2)] 3) := ⟨_, rfl⟩
 have pre0 : ∀ tg, AT p e below s₁ m 0 #[rv a0, rv a1, rv a2] [] tg → Steps p.tables e below S0 tg := fun tg kg => by rw [hS0]; exact castTop (ef_5_2 m a0 a1 a2) kg
 have hS : s.Since s.vm 0 := (State.WarmedH.refl s).since 0
 have hk : 0 ≤ h0.size := Nat.zero_le _
 have CR0 : CHr Z EL0 s.vm h0 s.vm h0 := CHr.refl hCH
 obtain ⟨T1, X1, e1, st1⟩ := initO X0 hx hZ hown (ow hw 33 rfl) (ow hw 17 rfl) (ow hw 18 rfl) e0 (g := (mkF m 1 #[rv a0, rv a1, rv a2] [(.ref a0)])) rfl (by rw [hml]; rfl) rfl (hb hby d5_1) (by decide) (W := 0) (by show 2 * 0 + _ ≤ _; exact Nat.le_of_eq rfl) (by decide)
 obtain ⟨al2, T2, h2, q2, X2, e2, E2, hS, hk, hZ, hown, CRq2, Li2, st2⟩ := ldcOH X1 hx hZ hown (ow hw 34 rfl) (own_sa hw) e1 hS hk hEL CR0.1 (g := (mkF m 6 #[rv a0, rv a1, rv a2] [(.ref a1), (.ref a0)])) rfl (hb hby d5_6) (n := 20) (by decide) (by decide) (by decide) (by decide)
 have E2_3 := pf0.ext E2
 have F2_4 := pf1.ext E2
 have F2_5 := pf2.ext E2
 have F2_6 := pf3.ext E2
 have F2_7 := pf4.ext E2
 have E2_8 := pf6.ext E2
 have F2_9 := pf7.ext E2
 have F2_10 := pf8.ext E2
 have K2 := (Keep.refl h0 [a0]).ext E2
 have O2 : Old Z n0 h2 := O0.ext E2
 have CR2 : CHr Z EL0 s.vm h0 T2.vm h2 := CR0.trans CRq2
 obtain ⟨_, _, ⟨T11, L11, k11, n11⟩, -, X11, ⟨Lc11, hQ11, l11, y11, z11⟩, st11⟩ := Jvm.LawKit.callS X2 hx (y := y6) hown (mvT hZ (ow hw 42 rfl)) (mvT hZ (ow hw 43 rfl)) (mvT hZ (ow hw 44 rfl)) (mvT hZ (ow hw 45 rfl)) (by decide) (backOf (W := 1) (rm6 l Z ar hw [] a1 al2 h2 n0 O2) hZ (ow hw 45 rfl) (ow hw 44 rfl) (by decide) (by decide)) (g := (mkF m 8 #[rv a0, rv a1, rv a2] [(.ref al2), (.ref a1), (.ref a0)])) rfl (by rw [hml]; rfl) (argsL := [(.ref a1), (.ref al2)]) (rest := [(.ref a0)]) (lenOf pd_1 rfl) rfl (by show 2 * 0 + _ ≤ _; exact Nat.le_of_eq rfl) (hb hby d5_8) (fun _ _ => ⟨rfl, e2, (by decide : 2 + 0 ≤ _), (by decide : 24 + 0 ≤ _)⟩)
 dsimp only [Pt.U, Pt.locs, Pt.cells, Pt.slots] at X11 l11 y11 z11 st11 hQ11
 subst l11 y11 z11
 obtain ⟨rfl, N11q, e11⟩ := hQ11
 have N11 := Fr.app N0 N11q
 obtain ⟨T12, X12, e12, st12⟩ := castY X11 hx hZ hown (ow hw 46 rfl) e11 (Ins.self E2_8) (g := (mkF m 11 #[rv a0, rv a1, rv a2] [(.ref a1), (.ref a0)])) rfl rfl (hb hby d5_11)
 obtain ⟨T13, h13, X13, e13, W13, st13⟩ := putF X12 hx hZ hown (host := "") (Or.inl (ow hw 48 rfl)) Via.refl e12 F2_4 E2_3 (Or.inr ⟨(ow hw 49 rfl), rfl, hnm⟩) (ow hw 3 rfl) (ty := (.object "com/example/filters_under_siege/filtersundersiege/SketchShape")) (by decide) rfl rfl (g := (mkF m 14 #[rv a0, rv a1, rv a2] [(.ref a1), (.ref a0)])) rfl rfl (hb hby d5_14)
 have E13_14 := E2_3.wr W13
 have F13_15 : Fld Z h13 a0 "com/example/filters_under_siege/filtersundersiege/KeeperPairs" "shape" "Lcom/example/filters_under_siege/filtersundersiege/SketchShape;" (.ref a1) := F2_4.same W13
 have F13_16 := F2_5.other W13 (Or.inr (slot_ne (Or.inr (ow hw 58 rfl)) (Or.inr (ow hw 49 rfl)) (by decide) (t := (.array .int)) (t' := (.object "com/example/filters_under_siege/filtersundersiege/SketchShape")) (by decide) (by decide)))
 have F13_17 := F2_6.other W13 (Or.inr (slot_ne (Or.inr (ow hw 61 rfl)) (Or.inr (ow hw 49 rfl)) (by decide) (t := (.array .long)) (t' := (.object "com/example/filters_under_siege/filtersundersiege/SketchShape")) (by decide) (by decide)))
 have F13_18 := F2_7.other W13 (Or.inr (slot_ne (Or.inr (ow hw 51 rfl)) (Or.inr (ow hw 49 rfl)) (by decide) (t := (.object "java/util/function/LongPredicate")) (t' := (.object "com/example/filters_under_siege/filtersundersiege/SketchShape")) (by decide) (by decide)))
 have E13_19 := E2_8.wr W13
 have F13_20 := F2_9.other W13 (Or.inl (Ne.symm pf9))
 have F13_21 := F2_10.other W13 (Or.inl (Ne.symm pf9))
 have K13 := K2.wr W13 (Or.inl (List.mem_of_getElem? (i := 0) rfl))
 have O13 := O2.wr W13 pf5
 have CR13 : CHr Z EL0 s.vm h0 T2.vm h13 := CR2.trans (CHr.wr W13 own_sf0 CR2.1)
 have hk := Nat.le_trans hk (Keep.of_wr W13).1
 have N13 := Fr.snoc X13 N11 pf5
 obtain ⟨T22, h22, X22, e22, W22, st22⟩ := putF X13 hx hZ hown (host := "") (Or.inl (ow hw 50 rfl)) Via.refl e13 F13_18 E13_14 (Or.inr ⟨(ow hw 51 rfl), rfl, hnm⟩) (ow hw 3 rfl) (ty := (.object "java/util/function/LongPredicate")) (by decide) rfl rfl (g := (mkF m 19 #[rv a0, rv a1, rv a2] [(.ref a2), (.ref a0)])) rfl rfl (hb hby d5_19)
 have E22_23 := E13_14.wr W22
 have F22_24 := F13_15.other W22 (Or.inr (slot_ne (Or.inr (ow hw 49 rfl)) (Or.inr (ow hw 51 rfl)) (by decide) (t := (.object "com/example/filters_under_siege/filtersundersiege/SketchShape")) (t' := (.object "java/util/function/LongPredicate")) (by decide) (by decide)))
 have F22_25 := F13_16.other W22 (Or.inr (slot_ne (Or.inr (ow hw 58 rfl)) (Or.inr (ow hw 51 rfl)) (by decide) (t := (.array .int)) (t' := (.object "java/util/function/LongPredicate")) (by decide) (by decide)))
 have F22_26 := F13_17.other W22 (Or.inr (slot_ne (Or.inr (ow hw 61 rfl)) (Or.inr (ow hw 51 rfl)) (by decide) (t := (.array .long)) (t' := (.object "java/util/function/LongPredicate")) (by decide) (by decide)))
 have F22_27 : Fld Z h22 a0 "com/example/filters_under_siege/filtersundersiege/KeeperPairs" "knocksDown" "Ljava/util/function/LongPredicate;" (.ref a2) := F13_18.same W22
 have E22_28 := E13_19.wr W22
 have F22_29 := F13_20.other W22 (Or.inl (Ne.symm pf9))
 have F22_30 := F13_21.other W22 (Or.inl (Ne.symm pf9))
 have K22 := K13.wr W22 (Or.inl (List.mem_of_getElem? (i := 0) rfl))
 have O22 := O13.wr W22 pf5
 have CR22 : CHr Z EL0 s.vm h0 T2.vm h22 := CR13.trans (CHr.wr W22 own_sf0 CR13.1)
 have hk := Nat.le_trans hk (Keep.of_wr W22).1
 have N22 := Fr.snoc X22 N13 pf5
 obtain ⟨cq31, kq31, q31a, q31b, q31c⟩ := isOf hZ e22 E22_28
 obtain ⟨_, _, ⟨T31, L31, k31, n31⟩, -, X31, ⟨Lc31, hQ31, l31, y31, z31⟩, st31⟩ := X22.virtualBack hx (y := y7) (z := y7) hown (mvT hZ (ow hw 52 rfl)) (mvT hZ (ow hw 53 rfl)) (notFace_of_selects (args := #[]) (mvT hZ (ow hw 55 rfl))) (mvT hZ (ow hw 55 rfl)) (mvT hZ (ow hw 54 rfl)) (by decide) (backOf (W := 1) (rm7_2 l Z ar hw [] a1 h22 n0 O22 F22_29 F22_30) hZ (ow hw 56 rfl) (ow hw 7 rfl) (by decide) (by decide)) q31a q31c (g := (mkF m 24 #[rv a0, rv a1, rv a2] [(.ref a1), (.ref a0)])) rfl (by rw [hml]; rfl) (Steps.refl _) (argsL := []) (rest := [(.ref a0)]) (lenOf pd_2 rfl) rfl (by show 2 * 0 + _ ≤ _; exact Nat.le_of_eq rfl) (hb hby d5_24) (fun _ _ => ⟨rfl, e22, (by decide : 2 + 0 ≤ _), (by decide : 24 + 0 ≤ _)⟩)
 dsimp only [Pt.U, Pt.locs, Pt.cells, Pt.slots] at X31 l31 y31 z31 st31 hQ31
 subst l31 y31 z31
 obtain ⟨rfl, N31q, e31⟩ := hQ31
 have N31 := Fr.app N22 N31q
 obtain ⟨T32, h32, k32, X32, e32, E32, A32, B32, st32⟩ := newPE X31 hx hZ (ow hw 1 rfl) e31 (g := (mkF m 27 #[rv a0, rv a1, rv a2] [(.int (4 : Int32)), (.ref a0)])) rfl (hb hby d5_27) rfl (by decide) (cap := 4) (by decide) (by decide) (by decide) (by decide) (ad := "[I") (by decide)
 obtain ⟨b32, g32⟩ : ∃ z, z = h22.size := ⟨_, rfl⟩
 rw [← g32] at A32 B32 st32
 have ne32_33 : a0 ≠ b32 := Nat.ne_of_lt (Nat.lt_of_lt_of_le (E22_23).lt (Nat.le_of_eq g32.symm))
 have ne32_34 : a1 ≠ b32 := Nat.ne_of_lt (Nat.lt_of_lt_of_le (E22_28).lt (Nat.le_of_eq g32.symm))
 have gn32 : n0 ≤ b32 := Nat.le_trans (Nat.le_trans (Nat.le_of_eq O22.1.symm) O22.2.1) (Nat.le_of_eq g32.symm)
 have sz32 : h0.size ≤ b32 := Nat.le_trans K22.1 (Nat.le_of_eq g32.symm)
 have E32_35 := E22_23.ext E32
 have F32_36 := F22_24.ext E32
 have F32_37 := F22_25.ext E32
 have F32_38 := F22_26.ext E32
 have F32_39 := F22_27.ext E32
 have E32_40 := E22_28.ext E32
 have F32_41 := F22_29.ext E32
 have F32_42 := F22_30.ext E32
 have K32 := K22.ext E32
 have O32 := O22.ext E32
 have CR32 : CHr Z EL0 s.vm h0 T2.vm h32 := CR22.trans (CHr.ext E32 CR22.1)
 have hk := Nat.le_trans hk E32.1
 have V32_43 : Arv Z h32 b32 k32 .int (4 : Int32) [(.int (0 : Int32)), (.int (0 : Int32)), (.int (0 : Int32)), (.int (0 : Int32))] (.int (0 : Int32)) := (Arv.new A32 (by decide)).pad (pad_rep [] (.int (0 : Int32)) 4)
 obtain ⟨T44, h44, X44, e44, W44, st44⟩ := putF X32 hx hZ hown (host := "") (Or.inl (ow hw 57 rfl)) Via.refl e32 F32_37 E32_35 (Or.inr ⟨(ow hw 58 rfl), rfl, hnm⟩) (ow hw 3 rfl) (ty := (.array .int)) (by decide) rfl rfl (g := (mkF m 29 #[rv a0, rv a1, rv a2] [(.ref b32), (.ref a0)])) rfl rfl (hb hby d5_29)
 have E44_45 := E32_35.wr W44
 have F44_46 := F32_36.other W44 (Or.inr (slot_ne (Or.inr (ow hw 49 rfl)) (Or.inr (ow hw 58 rfl)) (by decide) (t := (.object "com/example/filters_under_siege/filtersundersiege/SketchShape")) (t' := (.array .int)) (by decide) (by decide)))
 have F44_47 : Fld Z h44 a0 "com/example/filters_under_siege/filtersundersiege/KeeperPairs" "fingerprints" "[I" (.ref b32) := F32_37.same W44
 have F44_48 := F32_38.other W44 (Or.inr (slot_ne (Or.inr (ow hw 61 rfl)) (Or.inr (ow hw 58 rfl)) (by decide) (t := (.array .long)) (t' := (.array .int)) (by decide) (by decide)))
 have F44_49 := F32_39.other W44 (Or.inr (slot_ne (Or.inr (ow hw 51 rfl)) (Or.inr (ow hw 58 rfl)) (by decide) (t := (.object "java/util/function/LongPredicate")) (t' := (.array .int)) (by decide) (by decide)))
 have E44_50 := E32_40.wr W44
 have F44_51 := F32_41.other W44 (Or.inl (Ne.symm pf9))
 have F44_52 := F32_42.other W44 (Or.inl (Ne.symm pf9))
 have V44_53 := V32_43.other W44 (Ne.symm ne32_33)
 have E44_54 := B32.wr W44
 have K44 := K32.wr W44 (Or.inl (List.mem_of_getElem? (i := 0) rfl))
 have O44 := O32.wr W44 pf5
 have CR44 : CHr Z EL0 s.vm h0 T2.vm h44 := CR32.trans (CHr.wr W44 own_sf0 CR32.1)
 have hk := Nat.le_trans hk (Keep.of_wr W44).1
 have N44 := Fr.snoc X44 N31 pf5
 obtain ⟨cq55, kq55, q55a, q55b, q55c⟩ := isOf hZ e44 E44_50
 obtain ⟨_, _, ⟨T55, L55, k55, n55⟩, -, X55, ⟨Lc55, hQ55, l55, y55, z55⟩, st55⟩ := X44.virtualBack hx (y := y7) (z := y7) hown (mvT hZ (ow hw 52 rfl)) (mvT hZ (ow hw 53 rfl)) (notFace_of_selects (args := #[]) (mvT hZ (ow hw 55 rfl))) (mvT hZ (ow hw 55 rfl)) (mvT hZ (ow hw 54 rfl)) (by decide) (backOf (W := 1) (rm7_2 l Z ar hw [] a1 h44 n0 O44 F44_51 F44_52) hZ (ow hw 56 rfl) (ow hw 7 rfl) (by decide) (by decide)) q55a q55c (g := (mkF m 34 #[rv a0, rv a1, rv a2] [(.ref a1), (.ref a0)])) rfl (by rw [hml]; rfl) (Steps.refl _) (argsL := []) (rest := [(.ref a0)]) (lenOf pd_2 rfl) rfl (by show 2 * 0 + _ ≤ _; exact Nat.le_of_eq rfl) (hb hby d5_34) (fun _ _ => ⟨rfl, e44, (by decide : 3 + 0 ≤ _), (by decide : 28 + 0 ≤ _)⟩)
 dsimp only [Pt.U, Pt.locs, Pt.cells, Pt.slots] at X55 l55 y55 z55 st55 hQ55
 subst l55 y55 z55
 obtain ⟨rfl, N55q, e55⟩ := hQ55
 have N55 := Fr.app N44 N55q
 obtain ⟨T56, h56, k56, X56, e56, E56, A56, B56, st56⟩ := newPE X55 hx hZ (ow hw 59 rfl) e55 (g := (mkF m 37 #[rv a0, rv a1, rv a2] [(.int (4 : Int32)), (.ref a0)])) rfl (hb hby d5_37) rfl (by decide) (cap := 4) (by decide) (by decide) (by decide) (by decide) (ad := "[J") (by decide)
 obtain ⟨b56, g56⟩ : ∃ z, z = h44.size := ⟨_, rfl⟩
 rw [← g56] at A56 B56 st56
 have ne56_57 : a0 ≠ b56 := Nat.ne_of_lt (Nat.lt_of_lt_of_le (E44_45).lt (Nat.le_of_eq g56.symm))
 have ne56_58 : a1 ≠ b56 := Nat.ne_of_lt (Nat.lt_of_lt_of_le (E44_50).lt (Nat.le_of_eq g56.symm))
 have ne56_59 : b32 ≠ b56 := Nat.ne_of_lt (Nat.lt_of_lt_of_le (V44_53).lt (Nat.le_of_eq g56.symm))
 have gn56 : n0 ≤ b56 := Nat.le_trans (Nat.le_trans (Nat.le_of_eq O44.1.symm) O44.2.1) (Nat.le_of_eq g56.symm)
 have sz56 : h0.size ≤ b56 := Nat.le_trans K44.1 (Nat.le_of_eq g56.symm)
 have E56_60 := E44_45.ext E56
 have F56_61 := F44_46.ext E56
 have F56_62 := F44_47.ext E56
 have F56_63 := F44_48.ext E56
 have F56_64 := F44_49.ext E56
 have E56_65 := E44_50.ext E56
 have F56_66 := F44_51.ext E56
 have F56_67 := F44_52.ext E56
 have V56_68 := V44_53.ext E56
 have E56_69 := E44_54.ext E56
 have K56 := K44.ext E56
 have O56 := O44.ext E56
 have CR56 : CHr Z EL0 s.vm h0 T2.vm h56 := CR44.trans (CHr.ext E56 CR44.1)
 have hk := Nat.le_trans hk E56.1
 have V56_70 : Arv Z h56 b56 k56 .long (4 : Int32) [(.long (0 : Int64)), (.long (0 : Int64)), (.long (0 : Int64)), (.long (0 : Int64))] (.long (0 : Int64)) := (Arv.new A56 (by decide)).pad (pad_rep [] (.long (0 : Int64)) 4)
 obtain ⟨T71, h71, X71, e71, W71, st71⟩ := putF X56 hx hZ hown (host := "") (Or.inl (ow hw 60 rfl)) Via.refl e56 F56_63 E56_60 (Or.inr ⟨(ow hw 61 rfl), rfl, hnm⟩) (ow hw 3 rfl) (ty := (.array .long)) (by decide) rfl rfl (g := (mkF m 39 #[rv a0, rv a1, rv a2] [(.ref b56), (.ref a0)])) rfl rfl (hb hby d5_39)
 have E71_72 := E56_60.wr W71
 have F71_73 := F56_61.other W71 (Or.inr (slot_ne (Or.inr (ow hw 49 rfl)) (Or.inr (ow hw 61 rfl)) (by decide) (t := (.object "com/example/filters_under_siege/filtersundersiege/SketchShape")) (t' := (.array .long)) (by decide) (by decide)))
 have F71_74 := F56_62.other W71 (Or.inr (slot_ne (Or.inr (ow hw 58 rfl)) (Or.inr (ow hw 61 rfl)) (by decide) (t := (.array .int)) (t' := (.array .long)) (by decide) (by decide)))
 have F71_75 : Fld Z h71 a0 "com/example/filters_under_siege/filtersundersiege/KeeperPairs" "counts" "[J" (.ref b56) := F56_63.same W71
 have F71_76 := F56_64.other W71 (Or.inr (slot_ne (Or.inr (ow hw 51 rfl)) (Or.inr (ow hw 61 rfl)) (by decide) (t := (.object "java/util/function/LongPredicate")) (t' := (.array .long)) (by decide) (by decide)))
 have E71_77 := E56_65.wr W71
 have F71_78 := F56_66.other W71 (Or.inl (Ne.symm pf9))
 have F71_79 := F56_67.other W71 (Or.inl (Ne.symm pf9))
 have V71_80 := V56_68.other W71 (Ne.symm ne32_33)
 have E71_81 := E56_69.wr W71
 have V71_82 := V56_70.other W71 (Ne.symm ne56_57)
 have E71_83 := B56.wr W71
 have K71 := K56.wr W71 (Or.inl (List.mem_of_getElem? (i := 0) rfl))
 have O71 := O56.wr W71 pf5
 have CR71 : CHr Z EL0 s.vm h0 T2.vm h71 := CR56.trans (CHr.wr W71 own_sf0 CR56.1)
 have hk := Nat.le_trans hk (Keep.of_wr W71).1
 have N71 := Fr.snoc X71 N55 pf5
 obtain ⟨fs, hr, hrun, hended, hRE⟩ := X71.leaveW hS (by rw [e71]; exact hk) (v := none) (fun _ => rfl)
 have CRf : CHr Z EL0 s.vm s.heap (T71.setFrames fs).vm (T71.setFrames fs).heap := by
   show CHr Z EL0 s.vm s.heap T71.vm T71.heap
   rw [hh, e71]
   exact CR71.trans (CHv.at X71 hZ hEL CR71.1)
 subst hS0
 refine ⟨_, _, pre0 _ ?_, hrun, hended, _, _, rfl, ?_, CRf, hRE.1, hRE.2.1, hRE.2.2.1, hRE.2.2.2.mono (by decide) (by decide)⟩
 ·
  refine XS.aloadN X0.here hx rfl (hb hby d5_0) rfl rfl ?_
  refine st1 _ ?_
  refine XS.aloadN X1.here hx rfl (hb hby d5_4) rfl rfl ?_
  refine XS.aloadN X1.here hx rfl (hb hby d5_5) rfl rfl ?_
  refine st2 _ ?_
  refine st11 _ ?_
  refine st12 _ ?_
  refine st13 _ ?_
  refine XS.aloadN X13.here hx rfl (hb hby d5_17) rfl rfl ?_
  refine XS.aloadN X13.here hx rfl (hb hby d5_18) rfl rfl ?_
  refine st22 _ ?_
  refine XS.aloadN X22.here hx rfl (hb hby d5_22) rfl rfl ?_
  refine XS.aloadN X22.here hx rfl (hb hby d5_23) rfl rfl ?_
  refine st31.trans ?_
  refine st32 _ ?_
  refine st44 _ ?_
  refine XS.aloadN X44.here hx rfl (hb hby d5_32) rfl rfl ?_
  refine XS.aloadN X44.here hx rfl (hb hby d5_33) rfl rfl ?_
  refine st55.trans ?_
  refine st56 _ ?_
  refine st71 _ ?_
  exact X71.returnOut hx Bd.returns (hb hby d5_42) hr
 ·
  show Q5_2 Z a0 a1 a2 h0 n0 _ T71.heap _
  rw [e71]
  exact ⟨b32, b56, k32, k56, rfl, N71, K71, E71_72, F71_73, F71_76, F71_74, F71_75, V71_80, V71_82, sz32, sz56, E71_81, E71_83⟩

theorem ef_4_2 (m : MethodId) (a0 : Addr) (a1 : Addr) : entryFrame m #[(.ref a0), (.ref a1)] 2 = mkF m 0 #[rv a0, rv a1] [] := by first | (simp [entryFrame, mkF, argsToLocals, Value.category]; done) | rfl
def Q4_2 (Z : State) (a0 : Addr) (a1 : Addr) (w_lam : Addr) (h0 : Heap) (n0 : Nat) (v : Option Value) (h : Heap) (L : List Loc) : Prop := ∃ (fa : Addr) (ca : Addr) (kf : ClassId) (kc : ClassId), v = none ∧ Fr n0 L ∧ Keep h0 h [a0] ∧ Exa Z h a0 "com/example/filters_under_siege/filtersundersiege/KeeperPairs" ∧ Fld Z h a0 "com/example/filters_under_siege/filtersundersiege/KeeperPairs" "shape" "Lcom/example/filters_under_siege/filtersundersiege/SketchShape;" (.ref a1) ∧ Fld Z h a0 "com/example/filters_under_siege/filtersundersiege/KeeperPairs" "knocksDown" "Ljava/util/function/LongPredicate;" (.ref w_lam) ∧ Fld Z h a0 "com/example/filters_under_siege/filtersundersiege/KeeperPairs" "fingerprints" "[I" (.ref fa) ∧ Fld Z h a0 "com/example/filters_under_siege/filtersundersiege/KeeperPairs" "counts" "[J" (.ref ca) ∧ Arv Z h fa kf .int (4 : Int32) [(.int (0 : Int32)), (.int (0 : Int32)), (.int (0 : Int32)), (.int (0 : Int32))] (.int (0 : Int32)) ∧ Arv Z h ca kc .long (4 : Int32) [(.long (0 : Int64)), (.long (0 : Int64)), (.long (0 : Int64)), (.long (0 : Int64))] (.long (0 : Int64)) ∧ h0.size ≤ fa ∧ h0.size ≤ ca ∧ Exa Z h fa "[I" ∧ Exa Z h ca "[J"
abbrev R4_2 : Room := ({ frames := 2, cells := 4, slots := 32, locals := 3074 } : Room)
set_option maxRecDepth 65536 in
set_option maxHeartbeats 40000000 in
theorem rm4_2 (l : Launch) (Z : State) (ar : Array Value) (hw : ∀ d ∈ tables_1, d.before ar Z = true) (ws : List Jvm.Cond) (a0 : Addr) (a1 : Addr) (h0 : Heap) (n0 : Nat) (O0 : Old Z n0 h0) (hEL : EW Z ar EL0) (HW : Wd Z w_lam k_lam) (pf0 : Exa Z h0 a0 "com/example/filters_under_siege/filtersundersiege/KeeperPairs") (pf1 : Fld Z h0 a0 "com/example/filters_under_siege/filtersundersiege/KeeperPairs" "shape" "Lcom/example/filters_under_siege/filtersundersiege/SketchShape;" .null) (pf2 : Fld Z h0 a0 "com/example/filters_under_siege/filtersundersiege/KeeperPairs" "fingerprints" "[I" .null) (pf3 : Fld Z h0 a0 "com/example/filters_under_siege/filtersundersiege/KeeperPairs" "counts" "[J" .null) (pf4 : Fld Z h0 a0 "com/example/filters_under_siege/filtersundersiege/KeeperPairs" "knocksDown" "Ljava/util/function/LongPredicate;" .null) (pf5 : n0 ≤ a0) (pf6 : Exa Z h0 a1 "com/example/filters_under_siege/filtersundersiege/SketchShape") (pf7 : Fld Z h0 a1 "com/example/filters_under_siege/filtersundersiege/SketchShape" "rows" "I" (.int (2 : Int32))) (pf8 : Fld Z h0 a1 "com/example/filters_under_siege/filtersundersiege/SketchShape" "width" "I" (.int (2 : Int32))) (pf9 : a0 ≠ a1) :
    MetFree l y4 (head1 (Jvm.Cond.code y4 prog_26_method_1_code 2 none :: ws) R4_2) (fun a U => a = #[(.ref a0), (.ref a1)] ∧ Z.Warmed39 U.vm ∧ U.heap = h0 ∧ CHv Z EL0 U.vm h0) (fun _ _ _ _ _ => True) (fun _ U o U' => ∃ v L, o = .returned v ∧ Q4_2 Z a0 a1 w_lam h0 n0 v U'.heap L ∧ CHr Z EL0 U.vm U.heap U'.vm U'.heap ∧ ReturnedEndW U o U' L R4_2.cells R4_2.slots) := by
 refine MetFree.of_bodySF (plainFor_of_name pn_3) hisR ?_
 intro p e s m args below meth c s₁ Bd hml0 hP hK
 obtain ⟨rfl, hZ, hh, hCH⟩ := hP
 have hx := Bd.exec
 have hby := Bd.bytes
 have hml : c.maxLocals = 2 := hml0
 have hown : s.vm.findClass "com/example/filters_under_siege/filtersundersiege/KeeperPairs" = some m.cls := findClass_of_methodNamed Bd.named
 have hnm := (name_of_methodNamed Bd.named Bd.method).1
 have hlk : meth.locks = false := by first | assumption | exact BodyLoose.notSynchronized (by assumption) | exact Body.notSynchronized (by assumption)
 have X0 : Stand p l e R4_2 (s.setVm s.vm) m #[(.ref a0), (.ref a1)] below meth c s₁ [] 0 0 := Stand.of_body Bd
 have e0 : s₁.heap = h0 := by rw [← hh, Bd.state]; rfl
 have N0 := Fr.nil n0
 have Z0 : n0 ≤ h0.size := Nat.le_trans (Nat.le_of_eq O0.1.symm) O0.2.1
 obtain ⟨S0, hS0⟩ : ∃ z, z = s₁.setTop (entryFrame m #[(.ref a0), (.ref a1)] 2) := ⟨_, rfl⟩
 have pre0 : ∀ tg, AT p e below s₁ m 0 #[rv a0, rv a1] [] tg → Steps p.tables e below S0 tg := fun tg kg => by rw [hS0]; exact castTop (ef_4_2 m a0 a1) kg
 have hS : s.Since s.vm 0 := (State.WarmedH.refl s).since 0
 have hk : 0 ≤ h0.size := Nat.zero_le _
 have CR0 : CHr Z EL0 s.vm h0 s.vm h0 := CHr.refl hCH
 obtain ⟨HLm, -⟩ := id HW
 have st1 := own_site X0 hx HLm hZ Bd.named (g := (mkF m 2 #[rv a0, rv a1] [(.ref a1), (.ref a0)])) rfl rfl (by rw [hml]; rfl) (hb hby d4_2) (W := 2) (by show 2 * 0 + _ ≤ _; exact Nat.le_of_eq rfl) (by decide)
 obtain ⟨_, _, ⟨T2, L2, k2, n2⟩, -, X2, hS2, hg2, ⟨Lc2, hQ2, l2, y2, z2, CRq2⟩, st2⟩ := X0.specialBackS hx (y := y5) rfl hown (mvT hZ (ow hw 30 rfl)) (mvT hZ (ow hw 31 rfl)) (mvT hZ (ow hw 32 rfl)) (by decide) (backOfSH (W := 0) (rm5_2 l Z ar hw [] a0 a1 w_lam h0 n0 O0 hEL pf0 pf1 pf2 pf3 pf4 pf5 pf6 pf7 pf8 pf9) hZ (ow hw 32 rfl) (ow hw 4 rfl) (by decide) (by decide) hEL CR0.1) (g := (mkF m 7 #[rv a0, rv a1] [(.ref w_lam), (.ref a1), (.ref a0)])) rfl (by rw [hml]; rfl) (Steps.refl _) (a := a0) (argsL := [(.ref a1), (.ref w_lam)]) (rest := []) (lenOf pd_3 rfl) rfl (by show 2 * 0 + _ ≤ _; exact Nat.le_of_eq rfl) (hb hby d4_7) (fun _ _ => ⟨rfl, e0, (by decide : 0 + 4 ≤ _), (by decide : 0 + 32 ≤ _)⟩)
 dsimp only [Pt.U, Pt.locs, Pt.cells, Pt.slots] at X2 l2 y2 z2 st2 hQ2 hS2 hg2 CRq2
 subst l2 y2 z2
 obtain ⟨X2, hS, hZ, hown⟩ := rebS hS (by rw [e0]; exact hk) X2 hS2 hg2 hZ hown
 have CR2 : CHr Z EL0 s.vm h0 T2.vm T2.heap := CR0.trans CRq2
 obtain ⟨fa_2, ca_2, kf_2, kc_2, rfl, N2q, Kq2, u2_0, u2_1, u2_2, u2_3, u2_4, u2_5, u2_6, u2_7, u2_8, u2_9, u2_10⟩ := hQ2
 have N2 := Fr.app N0 N2q
 have E2_3 := pf0.keep Kq2
 have E2_4 := pf6.keep Kq2
 have F2_5 := pf7.keep Kq2 (ninS (Ne.symm pf9) nin0)
 have F2_6 := pf8.keep Kq2 (ninS (Ne.symm pf9) nin0)
 have K2 := (Keep.refl h0 [a0]).trans Kq2 (allS (Or.inl (List.mem_of_getElem? (i := 0) rfl)) all0)
 have O2 := O0.keep Kq2 (allS pf5 all0)
 have hk := Nat.le_trans hk Kq2.1
 have hk := Nat.le_refl (Array.size T2.heap)
 have sz7 : h0.size ≤ fa_2 := Nat.le_trans (Keep.refl h0 [a0]).1 u2_7
 have gn7 : n0 ≤ fa_2 := Nat.le_trans (Nat.le_trans (Nat.le_of_eq O0.1.symm) O0.2.1) u2_7
 have ne8 : a0 ≠ fa_2 := Nat.ne_of_lt (Nat.lt_of_lt_of_le (pf0).lt u2_7)
 have ne9 : a1 ≠ fa_2 := Nat.ne_of_lt (Nat.lt_of_lt_of_le (pf6).lt u2_7)
 have sz10 : h0.size ≤ ca_2 := Nat.le_trans (Keep.refl h0 [a0]).1 u2_8
 have gn10 : n0 ≤ ca_2 := Nat.le_trans (Nat.le_trans (Nat.le_of_eq O0.1.symm) O0.2.1) u2_8
 have ne11 : a0 ≠ ca_2 := Nat.ne_of_lt (Nat.lt_of_lt_of_le (pf0).lt u2_8)
 have ne12 : a1 ≠ ca_2 := Nat.ne_of_lt (Nat.lt_of_lt_of_le (pf6).lt u2_8)
 obtain ⟨fs, hr, hrun, hended, hRE⟩ := X2.leaveW hS hk (v := none) (fun _ => rfl)
 have CRf : CHr Z EL0 s.vm s.heap (T2.setFrames fs).vm (T2.setFrames fs).heap := by
   show CHr Z EL0 s.vm s.heap T2.vm T2.heap
   rw [hh]
   exact CR2.trans (CHv.at X2 hZ hEL CR2.1)
 subst hS0
 refine ⟨_, _, pre0 _ ?_, hrun, hended, _, _, rfl, ?_, CRf, hRE.1, hRE.2.1, hRE.2.2.1, hRE.2.2.2.mono (by decide) (by decide)⟩
 ·
  refine XS.aloadN X0.here hx rfl (hb hby d4_0) rfl rfl ?_
  refine XS.aloadN X0.here hx rfl (hb hby d4_1) rfl rfl ?_
  refine st1 _ ?_
  refine st2.trans ?_
  exact X2.returnOut hx Bd.returns (hb hby d4_10) hr
 ·
  show Q4_2 Z a0 a1 w_lam h0 n0 _ T2.heap _
  exact ⟨fa_2, ca_2, kf_2, kc_2, rfl, N2, K2, E2_3, u2_1, u2_2, u2_3, u2_4, u2_5, u2_6, sz7, sz10, u2_9, u2_10⟩

theorem ef_8_2 (m : MethodId) (a0 : Addr) (a1 : Addr) (p2 : Int32) : entryFrame m #[(.ref a0), (.ref a1), (.int p2)] 5 = mkF m 0 #[rv a0, rv a1, iv p2, un, un] [] := by first | (simp [entryFrame, mkF, argsToLocals, Value.category]; done) | rfl
def Q8_2 (Z : State) (a0 : Addr) (a1 : Addr) (p2 : Int32) (sh : Addr) (kk : ClassId) (c0 : Int32) (c1 : Int32) (fa : Addr) (ca : Addr) (kf : ClassId) (kc : ClassId) (f0 : Int32) (f1 : Int32) (f2 : Int32) (f3 : Int32) (k0 : Int64) (k1 : Int64) (k2 : Int64) (k3 : Int64) (h0 : Heap) (n0 : Nat) (v : Option Value) (h : Heap) (L : List Loc) : Prop := v = none ∧ Fr n0 L ∧ Keep h0 h [fa, ca] ∧ Arv Z h fa kf .int (4 : Int32) [(.int (pI c0 (0 : Int32) (nf (sJ2 c0 k0 k1) (sI2 c0 f0 f1) p2) f0)), (.int (pI c0 (1 : Int32) (nf (sJ2 c0 k0 k1) (sI2 c0 f0 f1) p2) f1)), (.int (pI c1 (0 : Int32) (nf (sJ2 c1 k2 k3) (sI2 c1 f2 f3) p2) f2)), (.int (pI c1 (1 : Int32) (nf (sJ2 c1 k2 k3) (sI2 c1 f2 f3) p2) f3))] (.int (0 : Int32)) ∧ Arv Z h ca kc .long (4 : Int32) [(.long (pJ c0 (0 : Int32) (nc (sJ2 c0 k0 k1) (sI2 c0 f0 f1) p2) k0)), (.long (pJ c0 (1 : Int32) (nc (sJ2 c0 k0 k1) (sI2 c0 f0 f1) p2) k1)), (.long (pJ c1 (0 : Int32) (nc (sJ2 c1 k2 k3) (sI2 c1 f2 f3) p2) k2)), (.long (pJ c1 (1 : Int32) (nc (sJ2 c1 k2 k3) (sI2 c1 f2 f3) p2) k3))] (.long (0 : Int64))
abbrev R8_2 : Room := ({ frames := 2, cells := 0, slots := 0, locals := 27 } : Room)
set_option maxRecDepth 65536 in
set_option maxHeartbeats 40000000 in
theorem rm8_2 (l : Launch) (Z : State) (ar : Array Value) (hw : ∀ d ∈ tables_1, d.before ar Z = true) (ws : List Jvm.Cond) (a0 : Addr) (a1 : Addr) (p2 : Int32) (sh : Addr) (kk : ClassId) (c0 : Int32) (c1 : Int32) (fa : Addr) (ca : Addr) (kf : ClassId) (kc : ClassId) (f0 : Int32) (f1 : Int32) (f2 : Int32) (f3 : Int32) (k0 : Int64) (k1 : Int64) (k2 : Int64) (k3 : Int64) (h0 : Heap) (n0 : Nat) (O0 : Old Z n0 h0) (HW : Wd Z w_lam k_lam) (pf0 : Exa Z h0 a0 "com/example/filters_under_siege/filtersundersiege/KeeperPairs") (pf1 : Fld Z h0 a0 "com/example/filters_under_siege/filtersundersiege/KeeperPairs" "shape" "Lcom/example/filters_under_siege/filtersundersiege/SketchShape;" (.ref sh)) (pf2 : Exa Z h0 sh "com/example/filters_under_siege/filtersundersiege/SketchShape") (pf3 : Fld Z h0 sh "com/example/filters_under_siege/filtersundersiege/SketchShape" "width" "I" (.int (2 : Int32))) (pf4 : Fld Z h0 a0 "com/example/filters_under_siege/filtersundersiege/KeeperPairs" "fingerprints" "[I" (.ref fa)) (pf5 : Fld Z h0 a0 "com/example/filters_under_siege/filtersundersiege/KeeperPairs" "counts" "[J" (.ref ca)) (pf6 : Fld Z h0 a0 "com/example/filters_under_siege/filtersundersiege/KeeperPairs" "knocksDown" "Ljava/util/function/LongPredicate;" (.ref w_lam)) (pf7 : Exa Z h0 a1 "[I") (pf8 : Arv Z h0 a1 kk .int (2 : Int32) [(.int c0), (.int c1)] (.int (0 : Int32))) (pf9 : Exa Z h0 fa "[I") (pf10 : Exa Z h0 ca "[J") (pf11 : Arv Z h0 fa kf .int (4 : Int32) [(.int f0), (.int f1), (.int f2), (.int f3)] (.int (0 : Int32))) (pf12 : Arv Z h0 ca kc .long (4 : Int32) [(.long k0), (.long k1), (.long k2), (.long k3)] (.long (0 : Int64))) (pf13 : n0 ≤ fa) (pf14 : n0 ≤ ca) (pf15 : a1 ≠ fa) (hc0 : c0 = (0 : Int32) ∨ c0 = (1 : Int32)) (hc1 : c1 = (0 : Int32) ∨ c1 = (1 : Int32)) :
    MetFree l y8 (head1 (Jvm.Cond.code y8 prog_26_method_4_code 5 none :: ws) R8_2) (fun a U => a = #[(.ref a0), (.ref a1), (.int p2)] ∧ Z.Warmed39 U.vm ∧ U.heap = h0) (fun _ _ _ _ _ => True) (fun _ U o U' => ∃ v L, o = .returned v ∧ Q8_2 Z a0 a1 p2 sh kk c0 c1 fa ca kf kc f0 f1 f2 f3 k0 k1 k2 k3 h0 n0 v U'.heap L ∧ FrameEnd U o U' L R8_2.cells R8_2.slots) := by
 refine MetFree.of_bodySF (plainFor_of_name pn_3) hisR ?_
 intro p e s m args below meth c s₁ Bd hml0 hP hK
 obtain ⟨rfl, hZ, hh⟩ := hP
 have hx := Bd.exec
 have hby := Bd.bytes
 have hml : c.maxLocals = 5 := hml0
 have hown : s.vm.findClass "com/example/filters_under_siege/filtersundersiege/KeeperPairs" = some m.cls := findClass_of_methodNamed Bd.named
 have hnm := (name_of_methodNamed Bd.named Bd.method).1
 have hlk : meth.locks = false := by first | assumption | exact BodyLoose.notSynchronized (by assumption) | exact Body.notSynchronized (by assumption)
 have X0 : Stand p l e R8_2 s m #[(.ref a0), (.ref a1), (.int p2)] below meth c s₁ [] 0 0 := Stand.of_body Bd
 have e0 : s₁.heap = h0 := by rw [← hh, Bd.state]; rfl
 have N0 := Fr.nil n0
 have Z0 : n0 ≤ h0.size := Nat.le_trans (Nat.le_of_eq O0.1.symm) O0.2.1
 obtain ⟨S0, hS0⟩ : ∃ z, z = s₁.setTop (entryFrame m #[(.ref a0), (.ref a1), (.int p2)] 5) := ⟨_, rfl⟩
 have pre0 : ∀ tg, AT p e below s₁ m 0 #[rv a0, rv a1, iv p2, un, un] [] tg → Steps p.tables e below S0 tg := fun tg kg => by rw [hS0]; exact castTop (ef_8_2 m a0 a1 p2) kg
 obtain ⟨HLm, -⟩ := id HW
 have n_a0_fa : a0 ≠ fa := (ne_exa pf0 pf9 (by decide))
 have n_a0_ca : a0 ≠ ca := (ne_exa pf0 pf10 (by decide))
 have n_sh_fa : sh ≠ fa := (ne_exa pf2 pf9 (by decide))
 have n_sh_ca : sh ≠ ca := (ne_exa pf2 pf10 (by decide))
 have n_a1_ca : a1 ≠ ca := (ne_exa pf7 pf10 (by decide))
 have n_fa_ca : fa ≠ ca := (ne_exa pf9 pf10 (by decide))
 obtain ⟨cl1, Ar1, q1, S1, N1, H1, G1⟩ := id pf8
 obtain ⟨T2, X2, e2, st2⟩ := getF X0 hx hZ hown (host := "") (Or.inl (ow hw 48 rfl)) Via.refl e0 pf1 (g := (mkF m 10 #[rv a0, rv a1, iv p2, iv (0 : Int32), un] [(.ref a0), (.int (0 : Int32))])) rfl rfl (hb hby d8_10)
 obtain ⟨cq3, kq3, q3a, q3b, q3c⟩ := isOf hZ e2 pf2
 obtain ⟨_, _, ⟨T3, L3, k3, n3⟩, -, X3, ⟨Lc3, hQ3, l3, y3, z3⟩, st3⟩ := X2.virtualBack hx (y := y9) (z := y9) hown (mvT hZ (ow hw 67 rfl)) (mvT hZ (ow hw 68 rfl)) (notFace_of_selects (args := #[]) (mvT hZ (ow hw 70 rfl))) (mvT hZ (ow hw 70 rfl)) (mvT hZ (ow hw 69 rfl)) (by decide) (backOf (W := 1) (rm9 l Z ar hw [] sh _ h0 n0 O0 pf3) hZ (ow hw 71 rfl) (ow hw 7 rfl) (by decide) (by decide)) q3a q3c (g := (mkF m 13 #[rv a0, rv a1, iv p2, iv (0 : Int32), un] [(.ref sh), (.int (0 : Int32))])) rfl (by rw [hml]; rfl) (Steps.refl _) (argsL := []) (rest := [(.int (0 : Int32))]) (lenOf pd_2 rfl) rfl (by show 2 * 0 + _ ≤ _; exact Nat.le_of_eq rfl) (hb hby d8_13) (fun _ _ => ⟨rfl, e2, (by decide : 0 + 0 ≤ _), (by decide : 0 + 0 ≤ _)⟩)
 dsimp only [Pt.U, Pt.locs, Pt.cells, Pt.slots] at X3 l3 y3 z3 st3 hQ3
 subst l3 y3 z3
 obtain ⟨rfl, N3q, e3⟩ := hQ3
 have N3 := Fr.app N0 N3q
 obtain ⟨cl4, Ar4, q4, S4, N4, H4, G4⟩ := id pf8
 have hin4 := own_in (0 : Int32) S4 ⟨by decide, by decide⟩
 have hat4 : cl4.slots[((0 : Int32)).toNatClampNeg]? = some (.int c0) := Has.at H4 hin4 rfl
 have pre5 : ∀ tg, AT p e below T3 m 23 #[rv a0, rv a1, iv p2, iv (0 : Int32), iv ((0 : Int32) + c0)] [] tg → Steps p.tables e below S0 tg := fun tg kg => pre0 tg (by
  refine XS.iconst X0.here hx rfl (hb hby d8_0) ?_
  refine XS.istoreN X0.here hx rfl (hb hby d8_1) rfl (l' := #[rv a0, rv a1, iv p2, iv (0 : Int32), un]) rfl ?_
  refine XS.iloadN X0.here hx rfl (hb hby d8_2) rfl ?_
  refine XS.aloadN X0.here hx rfl (hb hby d8_3) rfl rfl ?_
  refine X0.arraylength hx (by rw [e0]; exact Ar1.1) (State.isArrayOf_alike hZ.alike Ar1.2.1) (g := (mkF m 4 #[rv a0, rv a1, iv p2, iv (0 : Int32), un] [(.ref a1), (.int (0 : Int32))])) rfl rfl (hb hby d8_4) _ ?_
  rw [len_of S1 N1]
  show AT p e below s₁ m 5 #[rv a0, rv a1, iv p2, iv (0 : Int32), un] [(.int (2 : Int32)), (.int (0 : Int32))] _
  refine XS.icmpNo X0.here hx rfl (hb hby d8_5) rfl (XT.ii_ge_f ((by decide) : (0 : Int32) < (2 : Int32))) ?_
  refine XS.iloadN X0.here hx rfl (hb hby d8_8) rfl ?_
  refine XS.aloadN X0.here hx rfl (hb hby d8_9) rfl rfl ?_
  refine st2 _ ?_
  refine st3.trans ?_
  refine XS.imul X3.here hx rfl (hb hby d8_16) rfl ?_
  refine XS.aloadN X3.here hx rfl (hb hby d8_17) rfl rfl ?_
  refine XS.iloadN X3.here hx rfl (hb hby d8_18) rfl ?_
  refine X3.iaload hx (j := (0 : Int32)) (v := (.int c0)) (by rw [e3]; exact Ar4.1) (State.isArrayOf_alike hZ.alike Ar4.2.1) Ar4.2.2 hin4 hat4 (g := (mkF m 19 #[rv a0, rv a1, iv p2, iv (0 : Int32), un] [(.int (0 : Int32)), (.ref a1), (.int (0 : Int32))])) rfl rfl (hb hby d8_19) _ ?_
  refine XS.iadd X3.here hx rfl (hb hby d8_20) rfl ?_
  refine XS.istore X3.here hx rfl (hb hby d8_21) rfl (l' := #[rv a0, rv a1, iv p2, iv (0 : Int32), iv ((0 : Int32) + c0)]) rfl ?_
  exact kg)
 obtain ⟨Kz0, hKz0⟩ : ∃ z, z = (sJ2 c0 k0 k1) := ⟨_, rfl⟩
 obtain ⟨Fz0, hFz0⟩ : ∃ z, z = (sI2 c0 f0 f1) := ⟨_, rfl⟩
 obtain ⟨T6, h6, L6, X6, e6, N6, K6, O6, J6_0, J6_1, J6_2, J6_3, J6_4, J6_5, J6_6, J6_7, J6_8, J6_9, J6_10, J6_11, J6_12, pre6⟩ : ∃ (T6 : State) (h6 : Heap) (L6 : List Loc), Stand p l e R8_2 s m #[(.ref a0), (.ref a1), (.int p2)] below meth c T6 L6 (0 + 0) (0 + 0) ∧ T6.heap = h6 ∧ Fr n0 L6 ∧ Keep h0 h6 [fa, ca] ∧ Old Z n0 h6 ∧ Exa Z h6 a0 "com/example/filters_under_siege/filtersundersiege/KeeperPairs" ∧ Fld Z h6 a0 "com/example/filters_under_siege/filtersundersiege/KeeperPairs" "shape" "Lcom/example/filters_under_siege/filtersundersiege/SketchShape;" (.ref sh) ∧ Exa Z h6 sh "com/example/filters_under_siege/filtersundersiege/SketchShape" ∧ Fld Z h6 sh "com/example/filters_under_siege/filtersundersiege/SketchShape" "width" "I" (.int (2 : Int32)) ∧ Fld Z h6 a0 "com/example/filters_under_siege/filtersundersiege/KeeperPairs" "fingerprints" "[I" (.ref fa) ∧ Fld Z h6 a0 "com/example/filters_under_siege/filtersundersiege/KeeperPairs" "counts" "[J" (.ref ca) ∧ Fld Z h6 a0 "com/example/filters_under_siege/filtersundersiege/KeeperPairs" "knocksDown" "Ljava/util/function/LongPredicate;" (.ref w_lam) ∧ Exa Z h6 a1 "[I" ∧ Arv Z h6 a1 kk .int (2 : Int32) [(.int c0), (.int c1)] (.int (0 : Int32)) ∧ Exa Z h6 fa "[I" ∧ Exa Z h6 ca "[J" ∧ Arv Z h6 fa kf .int (4 : Int32) [(.int (pI c0 (0 : Int32) (nf Kz0 Fz0 p2) f0)), (.int (pI c0 (1 : Int32) (nf Kz0 Fz0 p2) f1)), (.int f2), (.int f3)] (.int (0 : Int32)) ∧ Arv Z h6 ca kc .long (4 : Int32) [(.long (pJ c0 (0 : Int32) (nc Kz0 Fz0 p2) k0)), (.long (pJ c0 (1 : Int32) (nc Kz0 Fz0 p2) k1)), (.long k2), (.long k3)] (.long (0 : Int64)) ∧ (∀ tg, AT p e below T6 m 126 #[rv a0, rv a1, iv p2, iv (0 : Int32), iv ((0 : Int32) + c0)] [] tg → Steps p.tables e below S0 tg) := by
  obtain ⟨T7, X7, e7, st7⟩ := getF X3 hx hZ hown (host := "") (Or.inl (ow hw 60 rfl)) Via.refl e3 pf5 (g := (mkF m 24 #[rv a0, rv a1, iv p2, iv (0 : Int32), iv ((0 : Int32) + c0)] [(.ref a0)])) rfl rfl (hb hby d8_24)
  obtain ⟨cl8, Ar8, q8, S8, N8, H8, G8⟩ := id pf12
  have hin8 := own_in ((0 : Int32) + c0) S8 (own_b2_0 hc0)
  have hat8 : cl8.slots[(((0 : Int32) + c0)).toNatClampNeg]? = some (.long Kz0) := Has.at H8 hin8 ((own_gJ2_0 hc0).trans (congrArg Value.long hKz0.symm))
  have pre9 : ∀ tg, AT p e below T7 m 32 #[rv a0, rv a1, iv p2, iv (0 : Int32), iv ((0 : Int32) + c0)] [(.int (XT.cmpL Kz0 (0 : Int64)))] tg → Steps p.tables e below S0 tg := fun tg kg => pre5 tg (by
   refine XS.aloadN X3.here hx rfl (hb hby d8_23) rfl rfl ?_
   refine st7 _ ?_
   refine XS.iload X7.here hx rfl (hb hby d8_27) rfl ?_
   refine X7.laload hx (j := ((0 : Int32) + c0)) (v := (.long Kz0)) (by rw [e7]; exact Ar8.1) (State.isArrayOf_alike hZ.alike Ar8.2.1) Ar8.2.2 hin8 hat8 (g := (mkF m 29 #[rv a0, rv a1, iv p2, iv (0 : Int32), iv ((0 : Int32) + c0)] [(.int ((0 : Int32) + c0)), (.ref ca)])) rfl rfl (hb hby d8_29) _ ?_
   refine XS.lconst X7.here hx rfl (hb hby d8_30) ?_
   refine XS.lcmp X7.here hx rfl (hb hby d8_31) rfl ?_
   exact kg)
  rcases Decidable.em (Kz0 = (0 : Int64)) with hc10 | hc10
  ·
   obtain ⟨T11, X11, e11, st11⟩ := getF X7 hx hZ hown (host := "") (Or.inl (ow hw 57 rfl)) Via.refl e7 pf4 (g := (mkF m 47 #[rv a0, rv a1, iv p2, iv (0 : Int32), iv ((0 : Int32) + c0)] [(.ref a0)])) rfl rfl (hb hby d8_47)
   obtain ⟨cl12, Ar12, q12, S12, M12, H12, G12⟩ := id pf11
   have hin12 := own_in ((0 : Int32) + c0) S12 (own_b2_0 hc0)
   obtain ⟨T12, h12, X12, e12, W12, st12⟩ := stI X11 hx hZ e11 Ar12 (j := ((0 : Int32) + c0)) hin12 (g := (mkF m 53 #[rv a0, rv a1, iv p2, iv (0 : Int32), iv ((0 : Int32) + c0)] [(.int p2), (.int ((0 : Int32) + c0)), (.ref fa)])) rfl rfl (hb hby d8_53)
   have V12_13 : Arv Z h12 fa kf .int (4 : Int32) [(.int (pI c0 (0 : Int32) p2 f0)), (.int (pI c0 (1 : Int32) p2 f1)), (.int f2), (.int f3)] (.int (0 : Int32)) := by have q := Arv.set Ar12 q12 S12 M12 H12 G12 rfl W12 (((0 : Int32) + c0)).toNatClampNeg rfl (own_k2_0 hc0); rw [own_sI2_0 hc0] at q; exact q
   have E12_14 := pf0.wr W12
   have F12_15 := pf1.other W12 (Or.inl n_a0_fa)
   have E12_16 := pf2.wr W12
   have F12_17 := pf3.other W12 (Or.inl n_sh_fa)
   have F12_18 := pf4.other W12 (Or.inl n_a0_fa)
   have F12_19 := pf5.other W12 (Or.inl n_a0_fa)
   have F12_20 := pf6.other W12 (Or.inl n_a0_fa)
   have E12_21 := pf7.wr W12
   have V12_22 := pf8.other W12 pf15
   have E12_23 := pf9.wr W12
   have E12_24 := pf10.wr W12
   have V12_25 := pf12.other W12 (Ne.symm n_fa_ca)
   have K12 := (Keep.refl h0 [fa, ca]).wr W12 (Or.inl (List.mem_of_getElem? (i := 0) rfl))
   have O12 := O0.wr W12 pf13
   have N12 := Fr.snoc X12 N3 pf13
   obtain ⟨T26, X26, e26, st26⟩ := getF X12 hx hZ hown (host := "") (Or.inl (ow hw 60 rfl)) Via.refl e12 F12_19 (g := (mkF m 55 #[rv a0, rv a1, iv p2, iv (0 : Int32), iv ((0 : Int32) + c0)] [(.ref a0)])) rfl rfl (hb hby d8_55)
   obtain ⟨cl27, Ar27, q27, S27, N27, H27, G27⟩ := id V12_25
   have hin27 := own_in ((0 : Int32) + c0) S27 (own_b2_0 hc0)
   have hat27 : cl27.slots[(((0 : Int32) + c0)).toNatClampNeg]? = some (.long Kz0) := Has.at H27 hin27 ((own_gJ2_0 hc0).trans (congrArg Value.long hKz0.symm))
   obtain ⟨cl28, Ar28, q28, S28, M28, H28, G28⟩ := id V12_25
   have hin28 := own_in ((0 : Int32) + c0) S28 (own_b2_0 hc0)
   obtain ⟨T28, h28, X28, e28, W28, st28⟩ := stJ X26 hx hZ e26 Ar28 (j := ((0 : Int32) + c0)) hin28 (g := (mkF m 64 #[rv a0, rv a1, iv p2, iv (0 : Int32), iv ((0 : Int32) + c0)] [(.long (Kz0 + (1 : Int64))), (.int ((0 : Int32) + c0)), (.ref ca)])) rfl rfl (hb hby d8_64)
   have V28_29 : Arv Z h28 ca kc .long (4 : Int32) [(.long (pJ c0 (0 : Int32) (Kz0 + (1 : Int64)) k0)), (.long (pJ c0 (1 : Int32) (Kz0 + (1 : Int64)) k1)), (.long k2), (.long k3)] (.long (0 : Int64)) := by have q := Arv.set Ar28 q28 S28 M28 H28 G28 rfl W28 (((0 : Int32) + c0)).toNatClampNeg rfl (own_k2_0 hc0); rw [own_sJ2_0 hc0] at q; exact q
   have E28_30 := E12_14.wr W28
   have F28_31 := F12_15.other W28 (Or.inl n_a0_ca)
   have E28_32 := E12_16.wr W28
   have F28_33 := F12_17.other W28 (Or.inl n_sh_ca)
   have F28_34 := F12_18.other W28 (Or.inl n_a0_ca)
   have F28_35 := F12_19.other W28 (Or.inl n_a0_ca)
   have F28_36 := F12_20.other W28 (Or.inl n_a0_ca)
   have E28_37 := E12_21.wr W28
   have V28_38 := V12_22.other W28 n_a1_ca
   have E28_39 := E12_23.wr W28
   have E28_40 := E12_24.wr W28
   have V28_41 := V12_13.other W28 n_fa_ca
   have K28 := K12.wr W28 (Or.inl (List.mem_of_getElem? (i := 1) rfl))
   have O28 := O12.wr W28 pf14
   have N28 := Fr.snoc X28 N12 pf14
   have pre42 : ∀ tg, AT p e below T28 m 126 #[rv a0, rv a1, iv p2, iv (0 : Int32), iv ((0 : Int32) + c0)] [] tg → Steps p.tables e below S0 tg := fun tg kg => pre9 tg (by
    refine XS.ifYes X7.here hx rfl (pc0 := 32) (pc' := 46) rfl (hb hby d8_32) rfl (XT.ll_eq_t hc10) (by decide) (by decide) ?_
    refine XS.aloadN X7.here hx rfl (hb hby d8_46) rfl rfl ?_
    refine st11 _ ?_
    refine XS.iload X11.here hx rfl (hb hby d8_50) rfl ?_
    refine XS.iloadN X11.here hx rfl (hb hby d8_52) rfl ?_
    refine st12 _ ?_
    refine XS.aloadN X12.here hx rfl (hb hby d8_54) rfl rfl ?_
    refine st26 _ ?_
    refine XS.iload X26.here hx rfl (hb hby d8_58) rfl ?_
    refine XT.dup2 X26.here hx rfl (hb hby d8_60) rfl rfl rfl ?_
    refine X26.laload hx (j := ((0 : Int32) + c0)) (v := (.long Kz0)) (by rw [e26]; exact Ar27.1) (State.isArrayOf_alike hZ.alike Ar27.2.1) Ar27.2.2 hin27 hat27 (g := (mkF m 61 #[rv a0, rv a1, iv p2, iv (0 : Int32), iv ((0 : Int32) + c0)] [(.int ((0 : Int32) + c0)), (.ref ca), (.int ((0 : Int32) + c0)), (.ref ca)])) rfl rfl (hb hby d8_61) _ ?_
    refine XS.lconst X26.here hx rfl (hb hby d8_62) ?_
    refine XS.ladd X26.here hx rfl (hb hby d8_63) rfl ?_
    refine st28 _ ?_
    refine XS.goto X28.here hx rfl (pc0 := 65) (pc' := 126) rfl (hb hby d8_65) (by decide) (by decide) ?_
    exact kg)
   have hj43 : (pI c0 (0 : Int32) (nf Kz0 Fz0 p2) f0) = (pI c0 (0 : Int32) p2 f0) := by simp only [nf, if_pos hc10]
   have hj44 : (pI c0 (1 : Int32) (nf Kz0 Fz0 p2) f1) = (pI c0 (1 : Int32) p2 f1) := by simp only [nf, if_pos hc10]
   have hj45 : (pJ c0 (0 : Int32) (nc Kz0 Fz0 p2) k0) = (pJ c0 (0 : Int32) (Kz0 + (1 : Int64)) k0) := by simp only [nc, if_pos hc10]
   have hj46 : (pJ c0 (1 : Int32) (nc Kz0 Fz0 p2) k1) = (pJ c0 (1 : Int32) (Kz0 + (1 : Int64)) k1) := by simp only [nc, if_pos hc10]
   exact ⟨_, _, _, X28, e28, N28, K28, O28, E28_30, F28_31, E28_32, F28_33, F28_34, F28_35, F28_36, E28_37, V28_38, E28_39, E28_40, (by rw [hj43, hj44]; exact V28_41), (by rw [hj45, hj46]; exact V28_29), pre42⟩
  ·
   obtain ⟨T47, X47, e47, st47⟩ := getF X7 hx hZ hown (host := "") (Or.inl (ow hw 57 rfl)) Via.refl e7 pf4 (g := (mkF m 36 #[rv a0, rv a1, iv p2, iv (0 : Int32), iv ((0 : Int32) + c0)] [(.ref a0)])) rfl rfl (hb hby d8_36)
   obtain ⟨cl48, Ar48, q48, S48, N48, H48, G48⟩ := id pf11
   have hin48 := own_in ((0 : Int32) + c0) S48 (own_b2_0 hc0)
   have hat48 : cl48.slots[(((0 : Int32) + c0)).toNatClampNeg]? = some (.int Fz0) := Has.at H48 hin48 ((own_gI2_0 hc0).trans (congrArg Value.int hFz0.symm))
   have pre49 : ∀ tg, AT p e below T47 m 43 #[rv a0, rv a1, iv p2, iv (0 : Int32), iv ((0 : Int32) + c0)] [(.int p2), (.int Fz0)] tg → Steps p.tables e below S0 tg := fun tg kg => pre9 tg (by
    refine XS.ifNo X7.here hx rfl (hb hby d8_32) rfl (XT.ll_eq_f hc10) ?_
    refine XS.aloadN X7.here hx rfl (hb hby d8_35) rfl rfl ?_
    refine st47 _ ?_
    refine XS.iload X47.here hx rfl (hb hby d8_39) rfl ?_
    refine X47.iaload hx (j := ((0 : Int32) + c0)) (v := (.int Fz0)) (by rw [e47]; exact Ar48.1) (State.isArrayOf_alike hZ.alike Ar48.2.1) Ar48.2.2 hin48 hat48 (g := (mkF m 41 #[rv a0, rv a1, iv p2, iv (0 : Int32), iv ((0 : Int32) + c0)] [(.int ((0 : Int32) + c0)), (.ref fa)])) rfl rfl (hb hby d8_41) _ ?_
    refine XS.iloadN X47.here hx rfl (hb hby d8_42) rfl ?_
    exact kg)
   rcases Decidable.em (Fz0 = p2) with hc50 | hc50
   ·
    obtain ⟨T51, X51, e51, st51⟩ := getF X47 hx hZ hown (host := "") (Or.inl (ow hw 57 rfl)) Via.refl e47 pf4 (g := (mkF m 47 #[rv a0, rv a1, iv p2, iv (0 : Int32), iv ((0 : Int32) + c0)] [(.ref a0)])) rfl rfl (hb hby d8_47)
    obtain ⟨cl52, Ar52, q52, S52, M52, H52, G52⟩ := id pf11
    have hin52 := own_in ((0 : Int32) + c0) S52 (own_b2_0 hc0)
    obtain ⟨T52, h52, X52, e52, W52, st52⟩ := stI X51 hx hZ e51 Ar52 (j := ((0 : Int32) + c0)) hin52 (g := (mkF m 53 #[rv a0, rv a1, iv p2, iv (0 : Int32), iv ((0 : Int32) + c0)] [(.int p2), (.int ((0 : Int32) + c0)), (.ref fa)])) rfl rfl (hb hby d8_53)
    have V52_53 : Arv Z h52 fa kf .int (4 : Int32) [(.int (pI c0 (0 : Int32) p2 f0)), (.int (pI c0 (1 : Int32) p2 f1)), (.int f2), (.int f3)] (.int (0 : Int32)) := by have q := Arv.set Ar52 q52 S52 M52 H52 G52 rfl W52 (((0 : Int32) + c0)).toNatClampNeg rfl (own_k2_0 hc0); rw [own_sI2_0 hc0] at q; exact q
    have E52_54 := pf0.wr W52
    have F52_55 := pf1.other W52 (Or.inl n_a0_fa)
    have E52_56 := pf2.wr W52
    have F52_57 := pf3.other W52 (Or.inl n_sh_fa)
    have F52_58 := pf4.other W52 (Or.inl n_a0_fa)
    have F52_59 := pf5.other W52 (Or.inl n_a0_fa)
    have F52_60 := pf6.other W52 (Or.inl n_a0_fa)
    have E52_61 := pf7.wr W52
    have V52_62 := pf8.other W52 pf15
    have E52_63 := pf9.wr W52
    have E52_64 := pf10.wr W52
    have V52_65 := pf12.other W52 (Ne.symm n_fa_ca)
    have K52 := (Keep.refl h0 [fa, ca]).wr W52 (Or.inl (List.mem_of_getElem? (i := 0) rfl))
    have O52 := O0.wr W52 pf13
    have N52 := Fr.snoc X52 N3 pf13
    obtain ⟨T66, X66, e66, st66⟩ := getF X52 hx hZ hown (host := "") (Or.inl (ow hw 60 rfl)) Via.refl e52 F52_59 (g := (mkF m 55 #[rv a0, rv a1, iv p2, iv (0 : Int32), iv ((0 : Int32) + c0)] [(.ref a0)])) rfl rfl (hb hby d8_55)
    obtain ⟨cl67, Ar67, q67, S67, N67, H67, G67⟩ := id V52_65
    have hin67 := own_in ((0 : Int32) + c0) S67 (own_b2_0 hc0)
    have hat67 : cl67.slots[(((0 : Int32) + c0)).toNatClampNeg]? = some (.long Kz0) := Has.at H67 hin67 ((own_gJ2_0 hc0).trans (congrArg Value.long hKz0.symm))
    obtain ⟨cl68, Ar68, q68, S68, M68, H68, G68⟩ := id V52_65
    have hin68 := own_in ((0 : Int32) + c0) S68 (own_b2_0 hc0)
    obtain ⟨T68, h68, X68, e68, W68, st68⟩ := stJ X66 hx hZ e66 Ar68 (j := ((0 : Int32) + c0)) hin68 (g := (mkF m 64 #[rv a0, rv a1, iv p2, iv (0 : Int32), iv ((0 : Int32) + c0)] [(.long (Kz0 + (1 : Int64))), (.int ((0 : Int32) + c0)), (.ref ca)])) rfl rfl (hb hby d8_64)
    have V68_69 : Arv Z h68 ca kc .long (4 : Int32) [(.long (pJ c0 (0 : Int32) (Kz0 + (1 : Int64)) k0)), (.long (pJ c0 (1 : Int32) (Kz0 + (1 : Int64)) k1)), (.long k2), (.long k3)] (.long (0 : Int64)) := by have q := Arv.set Ar68 q68 S68 M68 H68 G68 rfl W68 (((0 : Int32) + c0)).toNatClampNeg rfl (own_k2_0 hc0); rw [own_sJ2_0 hc0] at q; exact q
    have E68_70 := E52_54.wr W68
    have F68_71 := F52_55.other W68 (Or.inl n_a0_ca)
    have E68_72 := E52_56.wr W68
    have F68_73 := F52_57.other W68 (Or.inl n_sh_ca)
    have F68_74 := F52_58.other W68 (Or.inl n_a0_ca)
    have F68_75 := F52_59.other W68 (Or.inl n_a0_ca)
    have F68_76 := F52_60.other W68 (Or.inl n_a0_ca)
    have E68_77 := E52_61.wr W68
    have V68_78 := V52_62.other W68 n_a1_ca
    have E68_79 := E52_63.wr W68
    have E68_80 := E52_64.wr W68
    have V68_81 := V52_53.other W68 n_fa_ca
    have K68 := K52.wr W68 (Or.inl (List.mem_of_getElem? (i := 1) rfl))
    have O68 := O52.wr W68 pf14
    have N68 := Fr.snoc X68 N52 pf14
    have pre82 : ∀ tg, AT p e below T68 m 126 #[rv a0, rv a1, iv p2, iv (0 : Int32), iv ((0 : Int32) + c0)] [] tg → Steps p.tables e below S0 tg := fun tg kg => pre49 tg (by
     refine XS.icmpNo X47.here hx rfl (hb hby d8_43) rfl (XT.ii_ne_f hc50) ?_
     refine XS.aloadN X47.here hx rfl (hb hby d8_46) rfl rfl ?_
     refine st51 _ ?_
     refine XS.iload X51.here hx rfl (hb hby d8_50) rfl ?_
     refine XS.iloadN X51.here hx rfl (hb hby d8_52) rfl ?_
     refine st52 _ ?_
     refine XS.aloadN X52.here hx rfl (hb hby d8_54) rfl rfl ?_
     refine st66 _ ?_
     refine XS.iload X66.here hx rfl (hb hby d8_58) rfl ?_
     refine XT.dup2 X66.here hx rfl (hb hby d8_60) rfl rfl rfl ?_
     refine X66.laload hx (j := ((0 : Int32) + c0)) (v := (.long Kz0)) (by rw [e66]; exact Ar67.1) (State.isArrayOf_alike hZ.alike Ar67.2.1) Ar67.2.2 hin67 hat67 (g := (mkF m 61 #[rv a0, rv a1, iv p2, iv (0 : Int32), iv ((0 : Int32) + c0)] [(.int ((0 : Int32) + c0)), (.ref ca), (.int ((0 : Int32) + c0)), (.ref ca)])) rfl rfl (hb hby d8_61) _ ?_
     refine XS.lconst X66.here hx rfl (hb hby d8_62) ?_
     refine XS.ladd X66.here hx rfl (hb hby d8_63) rfl ?_
     refine st68 _ ?_
     refine XS.goto X68.here hx rfl (pc0 := 65) (pc' := 126) rfl (hb hby d8_65) (by decide) (by decide) ?_
     exact kg)
    have hj83 : (pI c0 (0 : Int32) (nf Kz0 Fz0 p2) f0) = (pI c0 (0 : Int32) p2 f0) := by simp only [nf, if_neg hc10, if_pos hc50]
    have hj84 : (pI c0 (1 : Int32) (nf Kz0 Fz0 p2) f1) = (pI c0 (1 : Int32) p2 f1) := by simp only [nf, if_neg hc10, if_pos hc50]
    have hj85 : (pJ c0 (0 : Int32) (nc Kz0 Fz0 p2) k0) = (pJ c0 (0 : Int32) (Kz0 + (1 : Int64)) k0) := by simp only [nc, if_neg hc10, if_pos hc50]
    have hj86 : (pJ c0 (1 : Int32) (nc Kz0 Fz0 p2) k1) = (pJ c0 (1 : Int32) (Kz0 + (1 : Int64)) k1) := by simp only [nc, if_neg hc10, if_pos hc50]
    exact ⟨_, _, _, X68, e68, N68, K68, O68, E68_70, F68_71, E68_72, F68_73, F68_74, F68_75, F68_76, E68_77, V68_78, E68_79, E68_80, (by rw [hj83, hj84]; exact V68_81), (by rw [hj85, hj86]; exact V68_69), pre82⟩
   ·
    obtain ⟨T87, X87, e87, st87⟩ := getF X47 hx hZ hown (host := "") (Or.inl (ow hw 50 rfl)) Via.refl e47 pf6 (g := (mkF m 69 #[rv a0, rv a1, iv p2, iv (0 : Int32), iv ((0 : Int32) + c0)] [(.ref a0)])) rfl rfl (hb hby d8_69)
    obtain ⟨T88, X88, e88, st88⟩ := getF X87 hx hZ hown (host := "") (Or.inl (ow hw 60 rfl)) Via.refl e87 pf5 (g := (mkF m 73 #[rv a0, rv a1, iv p2, iv (0 : Int32), iv ((0 : Int32) + c0)] [(.ref a0), (.ref w_lam)])) rfl rfl (hb hby d8_73)
    obtain ⟨cl89, Ar89, q89, S89, N89, H89, G89⟩ := id pf12
    have hin89 := own_in ((0 : Int32) + c0) S89 (own_b2_0 hc0)
    have hat89 : cl89.slots[(((0 : Int32) + c0)).toNatClampNeg]? = some (.long Kz0) := Has.at H89 hin89 ((own_gJ2_0 hc0).trans (congrArg Value.long hKz0.symm))
    obtain ⟨T90, X90, e90, st90⟩ := own_test X88 hx hw hZ hown HLm O0 e88 (g := (mkF m 79 #[rv a0, rv a1, iv p2, iv (0 : Int32), iv ((0 : Int32) + c0)] [(.long Kz0), (.ref w_lam)])) rfl (by rw [hml]; rfl) rfl (hb hby d8_79) (W := 0) (by show 2 * 0 + _ ≤ _; exact Nat.le_of_eq rfl) (by decide) (by decide) (by decide) (by decide)
    obtain ⟨T91, X91, e91, st91⟩ := getF X90 hx hZ hown (host := "") (Or.inl (ow hw 60 rfl)) Via.refl e90 pf5 (g := (mkF m 88 #[rv a0, rv a1, iv p2, iv (0 : Int32), iv ((0 : Int32) + c0)] [(.ref a0)])) rfl rfl (hb hby d8_88)
    obtain ⟨cl92, Ar92, q92, S92, N92, H92, G92⟩ := id pf12
    have hin92 := own_in ((0 : Int32) + c0) S92 (own_b2_0 hc0)
    have hat92 : cl92.slots[(((0 : Int32) + c0)).toNatClampNeg]? = some (.long Kz0) := Has.at H92 hin92 ((own_gJ2_0 hc0).trans (congrArg Value.long hKz0.symm))
    obtain ⟨cl93, Ar93, q93, S93, M93, H93, G93⟩ := id pf12
    have hin93 := own_in ((0 : Int32) + c0) S93 (own_b2_0 hc0)
    obtain ⟨T93, h93, X93, e93, W93, st93⟩ := stJ X91 hx hZ e91 Ar93 (j := ((0 : Int32) + c0)) hin93 (g := (mkF m 97 #[rv a0, rv a1, iv p2, iv (0 : Int32), iv ((0 : Int32) + c0)] [(.long (Kz0 - (1 : Int64))), (.int ((0 : Int32) + c0)), (.ref ca)])) rfl rfl (hb hby d8_97)
    have V93_94 : Arv Z h93 ca kc .long (4 : Int32) [(.long (pJ c0 (0 : Int32) (Kz0 - (1 : Int64)) k0)), (.long (pJ c0 (1 : Int32) (Kz0 - (1 : Int64)) k1)), (.long k2), (.long k3)] (.long (0 : Int64)) := by have q := Arv.set Ar93 q93 S93 M93 H93 G93 rfl W93 (((0 : Int32) + c0)).toNatClampNeg rfl (own_k2_0 hc0); rw [own_sJ2_0 hc0] at q; exact q
    have E93_95 := pf0.wr W93
    have F93_96 := pf1.other W93 (Or.inl n_a0_ca)
    have E93_97 := pf2.wr W93
    have F93_98 := pf3.other W93 (Or.inl n_sh_ca)
    have F93_99 := pf4.other W93 (Or.inl n_a0_ca)
    have F93_100 := pf5.other W93 (Or.inl n_a0_ca)
    have F93_101 := pf6.other W93 (Or.inl n_a0_ca)
    have E93_102 := pf7.wr W93
    have V93_103 := pf8.other W93 n_a1_ca
    have E93_104 := pf9.wr W93
    have E93_105 := pf10.wr W93
    have V93_106 := pf11.other W93 n_fa_ca
    have K93 := (Keep.refl h0 [fa, ca]).wr W93 (Or.inl (List.mem_of_getElem? (i := 1) rfl))
    have O93 := O0.wr W93 pf14
    have N93 := Fr.snoc X93 N3 pf14
    obtain ⟨T107, X107, e107, st107⟩ := getF X93 hx hZ hown (host := "") (Or.inl (ow hw 60 rfl)) Via.refl e93 F93_100 (g := (mkF m 99 #[rv a0, rv a1, iv p2, iv (0 : Int32), iv ((0 : Int32) + c0)] [(.ref a0)])) rfl rfl (hb hby d8_99)
    obtain ⟨cl108, Ar108, q108, S108, N108, H108, G108⟩ := id V93_94
    have hin108 := own_in ((0 : Int32) + c0) S108 (own_b2_0 hc0)
    have hat108 : cl108.slots[(((0 : Int32) + c0)).toNatClampNeg]? = some (.long (Kz0 - (1 : Int64))) := Has.at H108 hin108 ((own_gJ2_0 hc0).trans (congrArg Value.long (own_spJ2 hc0)))
    have pre109 : ∀ tg, AT p e below T107 m 107 #[rv a0, rv a1, iv p2, iv (0 : Int32), iv ((0 : Int32) + c0)] [(.int (XT.cmpL (Kz0 - (1 : Int64)) (0 : Int64)))] tg → Steps p.tables e below S0 tg := fun tg kg => pre49 tg (by
     refine XS.icmpYes X47.here hx rfl (pc0 := 43) (pc' := 68) rfl (hb hby d8_43) rfl (XT.ii_ne_t hc50) (by decide) (by decide) ?_
     refine XS.aloadN X47.here hx rfl (hb hby d8_68) rfl rfl ?_
     refine st87 _ ?_
     refine XS.aloadN X87.here hx rfl (hb hby d8_72) rfl rfl ?_
     refine st88 _ ?_
     refine XS.iload X88.here hx rfl (hb hby d8_76) rfl ?_
     refine X88.laload hx (j := ((0 : Int32) + c0)) (v := (.long Kz0)) (by rw [e88]; exact Ar89.1) (State.isArrayOf_alike hZ.alike Ar89.2.1) Ar89.2.2 hin89 hat89 (g := (mkF m 78 #[rv a0, rv a1, iv p2, iv (0 : Int32), iv ((0 : Int32) + c0)] [(.int ((0 : Int32) + c0)), (.ref ca), (.ref w_lam)])) rfl rfl (hb hby d8_78) _ ?_
     refine st90 _ ?_
     show AT p e below T90 m 84 #[rv a0, rv a1, iv p2, iv (0 : Int32), iv ((0 : Int32) + c0)] [(.int (1 : Int32))] _
     refine XS.ifNo X90.here hx rfl (hb hby d8_84) rfl (XT.i0_eq_f ((by decide) : ¬ ((1 : Int32) = (0 : Int32)))) ?_
     refine XS.aloadN X90.here hx rfl (hb hby d8_87) rfl rfl ?_
     refine st91 _ ?_
     refine XS.iload X91.here hx rfl (hb hby d8_91) rfl ?_
     refine XT.dup2 X91.here hx rfl (hb hby d8_93) rfl rfl rfl ?_
     refine X91.laload hx (j := ((0 : Int32) + c0)) (v := (.long Kz0)) (by rw [e91]; exact Ar92.1) (State.isArrayOf_alike hZ.alike Ar92.2.1) Ar92.2.2 hin92 hat92 (g := (mkF m 94 #[rv a0, rv a1, iv p2, iv (0 : Int32), iv ((0 : Int32) + c0)] [(.int ((0 : Int32) + c0)), (.ref ca), (.int ((0 : Int32) + c0)), (.ref ca)])) rfl rfl (hb hby d8_94) _ ?_
     refine XS.lconst X91.here hx rfl (hb hby d8_95) ?_
     refine XS.lsub X91.here hx rfl (hb hby d8_96) rfl ?_
     refine st93 _ ?_
     refine XS.aloadN X93.here hx rfl (hb hby d8_98) rfl rfl ?_
     refine st107 _ ?_
     refine XS.iload X107.here hx rfl (hb hby d8_102) rfl ?_
     refine X107.laload hx (j := ((0 : Int32) + c0)) (v := (.long (Kz0 - (1 : Int64)))) (by rw [e107]; exact Ar108.1) (State.isArrayOf_alike hZ.alike Ar108.2.1) Ar108.2.2 hin108 hat108 (g := (mkF m 104 #[rv a0, rv a1, iv p2, iv (0 : Int32), iv ((0 : Int32) + c0)] [(.int ((0 : Int32) + c0)), (.ref ca)])) rfl rfl (hb hby d8_104) _ ?_
     refine XS.lconst X107.here hx rfl (hb hby d8_105) ?_
     refine XS.lcmp X107.here hx rfl (hb hby d8_106) rfl ?_
     exact kg)
    rcases Decidable.em ((Kz0 - (1 : Int64)) = (0 : Int64)) with hc110 | hc110
    ·
     obtain ⟨T111, X111, e111, st111⟩ := getF X107 hx hZ hown (host := "") (Or.inl (ow hw 57 rfl)) Via.refl e107 F93_99 (g := (mkF m 111 #[rv a0, rv a1, iv p2, iv (0 : Int32), iv ((0 : Int32) + c0)] [(.ref a0)])) rfl rfl (hb hby d8_111)
     obtain ⟨cl112, Ar112, q112, S112, M112, H112, G112⟩ := id V93_106
     have hin112 := own_in ((0 : Int32) + c0) S112 (own_b2_0 hc0)
     obtain ⟨T112, h112, X112, e112, W112, st112⟩ := stI X111 hx hZ e111 Ar112 (j := ((0 : Int32) + c0)) hin112 (g := (mkF m 117 #[rv a0, rv a1, iv p2, iv (0 : Int32), iv ((0 : Int32) + c0)] [(.int p2), (.int ((0 : Int32) + c0)), (.ref fa)])) rfl rfl (hb hby d8_117)
     have V112_113 : Arv Z h112 fa kf .int (4 : Int32) [(.int (pI c0 (0 : Int32) p2 f0)), (.int (pI c0 (1 : Int32) p2 f1)), (.int f2), (.int f3)] (.int (0 : Int32)) := by have q := Arv.set Ar112 q112 S112 M112 H112 G112 rfl W112 (((0 : Int32) + c0)).toNatClampNeg rfl (own_k2_0 hc0); rw [own_sI2_0 hc0] at q; exact q
     have E112_114 := E93_95.wr W112
     have F112_115 := F93_96.other W112 (Or.inl n_a0_fa)
     have E112_116 := E93_97.wr W112
     have F112_117 := F93_98.other W112 (Or.inl n_sh_fa)
     have F112_118 := F93_99.other W112 (Or.inl n_a0_fa)
     have F112_119 := F93_100.other W112 (Or.inl n_a0_fa)
     have F112_120 := F93_101.other W112 (Or.inl n_a0_fa)
     have E112_121 := E93_102.wr W112
     have V112_122 := V93_103.other W112 pf15
     have E112_123 := E93_104.wr W112
     have E112_124 := E93_105.wr W112
     have V112_125 := V93_94.other W112 (Ne.symm n_fa_ca)
     have K112 := K93.wr W112 (Or.inl (List.mem_of_getElem? (i := 0) rfl))
     have O112 := O93.wr W112 pf13
     have N112 := Fr.snoc X112 N93 pf13
     obtain ⟨T126, X126, e126, st126⟩ := getF X112 hx hZ hown (host := "") (Or.inl (ow hw 60 rfl)) Via.refl e112 F112_119 (g := (mkF m 119 #[rv a0, rv a1, iv p2, iv (0 : Int32), iv ((0 : Int32) + c0)] [(.ref a0)])) rfl rfl (hb hby d8_119)
     obtain ⟨cl127, Ar127, q127, S127, M127, H127, G127⟩ := id V112_125
     have hin127 := own_in ((0 : Int32) + c0) S127 (own_b2_0 hc0)
     obtain ⟨T127, h127, X127, e127, W127, st127⟩ := stJ X126 hx hZ e126 Ar127 (j := ((0 : Int32) + c0)) hin127 (g := (mkF m 125 #[rv a0, rv a1, iv p2, iv (0 : Int32), iv ((0 : Int32) + c0)] [(.long (1 : Int64)), (.int ((0 : Int32) + c0)), (.ref ca)])) rfl rfl (hb hby d8_125)
     have V127_128 : Arv Z h127 ca kc .long (4 : Int32) [(.long (pJ c0 (0 : Int32) (1 : Int64) k0)), (.long (pJ c0 (1 : Int32) (1 : Int64) k1)), (.long k2), (.long k3)] (.long (0 : Int64)) := by have q := Arv.set Ar127 q127 S127 M127 H127 G127 rfl W127 (((0 : Int32) + c0)).toNatClampNeg rfl (own_k2_0 hc0); rw [own_sJ2_0 hc0] at q; simp only [own_ppJ] at q; exact q
     have E127_129 := E112_114.wr W127
     have F127_130 := F112_115.other W127 (Or.inl n_a0_ca)
     have E127_131 := E112_116.wr W127
     have F127_132 := F112_117.other W127 (Or.inl n_sh_ca)
     have F127_133 := F112_118.other W127 (Or.inl n_a0_ca)
     have F127_134 := F112_119.other W127 (Or.inl n_a0_ca)
     have F127_135 := F112_120.other W127 (Or.inl n_a0_ca)
     have E127_136 := E112_121.wr W127
     have V127_137 := V112_122.other W127 n_a1_ca
     have E127_138 := E112_123.wr W127
     have E127_139 := E112_124.wr W127
     have V127_140 := V112_113.other W127 n_fa_ca
     have K127 := K112.wr W127 (Or.inl (List.mem_of_getElem? (i := 1) rfl))
     have O127 := O112.wr W127 pf14
     have N127 := Fr.snoc X127 N112 pf14
     have pre141 : ∀ tg, AT p e below T127 m 126 #[rv a0, rv a1, iv p2, iv (0 : Int32), iv ((0 : Int32) + c0)] [] tg → Steps p.tables e below S0 tg := fun tg kg => pre109 tg (by
      refine XS.ifNo X107.here hx rfl (hb hby d8_107) rfl (XT.ll_ne_f hc110) ?_
      refine XS.aloadN X107.here hx rfl (hb hby d8_110) rfl rfl ?_
      refine st111 _ ?_
      refine XS.iload X111.here hx rfl (hb hby d8_114) rfl ?_
      refine XS.iloadN X111.here hx rfl (hb hby d8_116) rfl ?_
      refine st112 _ ?_
      refine XS.aloadN X112.here hx rfl (hb hby d8_118) rfl rfl ?_
      refine st126 _ ?_
      refine XS.iload X126.here hx rfl (hb hby d8_122) rfl ?_
      show AT p e below T126 m 124 #[rv a0, rv a1, iv p2, iv (0 : Int32), iv ((0 : Int32) + c0)] [(.int ((0 : Int32) + c0)), (.ref ca)] _
      refine XS.lconst X126.here hx rfl (hb hby d8_124) ?_
      refine st127 _ ?_
      exact kg)
     have hj142 : (pI c0 (0 : Int32) (nf Kz0 Fz0 p2) f0) = (pI c0 (0 : Int32) p2 f0) := by simp only [nf, if_neg hc10, if_neg hc50, if_pos hc110]
     have hj143 : (pI c0 (1 : Int32) (nf Kz0 Fz0 p2) f1) = (pI c0 (1 : Int32) p2 f1) := by simp only [nf, if_neg hc10, if_neg hc50, if_pos hc110]
     have hj144 : (pJ c0 (0 : Int32) (nc Kz0 Fz0 p2) k0) = (pJ c0 (0 : Int32) (1 : Int64) k0) := by simp only [nc, if_neg hc10, if_neg hc50, if_pos hc110]
     have hj145 : (pJ c0 (1 : Int32) (nc Kz0 Fz0 p2) k1) = (pJ c0 (1 : Int32) (1 : Int64) k1) := by simp only [nc, if_neg hc10, if_neg hc50, if_pos hc110]
     exact ⟨_, _, _, X127, e127, N127, K127, O127, E127_129, F127_130, E127_131, F127_132, F127_133, F127_134, F127_135, E127_136, V127_137, E127_138, E127_139, (by rw [hj142, hj143]; exact V127_140), (by rw [hj144, hj145]; exact V127_128), pre141⟩
    ·
     have pre146 : ∀ tg, AT p e below T107 m 126 #[rv a0, rv a1, iv p2, iv (0 : Int32), iv ((0 : Int32) + c0)] [] tg → Steps p.tables e below S0 tg := fun tg kg => pre109 tg (by
      refine XS.ifYes X107.here hx rfl (pc0 := 107) (pc' := 126) rfl (hb hby d8_107) rfl (XT.ll_ne_t hc110) (by decide) (by decide) ?_
      exact kg)
     have hj147 : (pI c0 (0 : Int32) (nf Kz0 Fz0 p2) f0) = f0 := by rw [nf, if_neg hc10, if_neg hc50, if_neg hc110, hFz0]; exact own_psI2_0 hc0
     have hj148 : (pI c0 (1 : Int32) (nf Kz0 Fz0 p2) f1) = f1 := by rw [nf, if_neg hc10, if_neg hc50, if_neg hc110, hFz0]; exact own_psI2_1 hc0
     have hj149 : (pJ c0 (0 : Int32) (nc Kz0 Fz0 p2) k0) = (pJ c0 (0 : Int32) (Kz0 - (1 : Int64)) k0) := by simp only [nc, if_neg hc10, if_neg hc50, if_neg hc110]
     have hj150 : (pJ c0 (1 : Int32) (nc Kz0 Fz0 p2) k1) = (pJ c0 (1 : Int32) (Kz0 - (1 : Int64)) k1) := by simp only [nc, if_neg hc10, if_neg hc50, if_neg hc110]
     exact ⟨_, _, _, X107, e107, N93, K93, O93, E93_95, F93_96, E93_97, F93_98, F93_99, F93_100, F93_101, E93_102, V93_103, E93_104, E93_105, (by rw [hj147, hj148]; exact V93_106), (by rw [hj149, hj150]; exact V93_94), pre146⟩
 obtain ⟨cl151, Ar151, q151, S151, N151, H151, G151⟩ := id J6_8
 obtain ⟨T152, X152, e152, st152⟩ := getF X6 hx hZ hown (host := "") (Or.inl (ow hw 48 rfl)) Via.refl e6 J6_1 (g := (mkF m 10 #[rv a0, rv a1, iv p2, iv (1 : Int32), iv ((0 : Int32) + c0)] [(.ref a0), (.int (1 : Int32))])) rfl rfl (hb hby d8_10)
 obtain ⟨cq153, kq153, q153a, q153b, q153c⟩ := isOf hZ e152 J6_2
 obtain ⟨_, _, ⟨T153, L153, k153, n153⟩, -, X153, ⟨Lc153, hQ153, l153, y153, z153⟩, st153⟩ := X152.virtualBack hx (y := y9) (z := y9) hown (mvT hZ (ow hw 67 rfl)) (mvT hZ (ow hw 68 rfl)) (notFace_of_selects (args := #[]) (mvT hZ (ow hw 70 rfl))) (mvT hZ (ow hw 70 rfl)) (mvT hZ (ow hw 69 rfl)) (by decide) (backOf (W := 1) (rm9 l Z ar hw [] sh _ h6 n0 O6 J6_3) hZ (ow hw 71 rfl) (ow hw 7 rfl) (by decide) (by decide)) q153a q153c (g := (mkF m 13 #[rv a0, rv a1, iv p2, iv (1 : Int32), iv ((0 : Int32) + c0)] [(.ref sh), (.int (1 : Int32))])) rfl (by rw [hml]; rfl) (Steps.refl _) (argsL := []) (rest := [(.int (1 : Int32))]) (lenOf pd_2 rfl) rfl (by show 2 * 0 + _ ≤ _; exact Nat.le_of_eq rfl) (hb hby d8_13) (fun _ _ => ⟨rfl, e152, (by decide : 0 + 0 ≤ _), (by decide : 0 + 0 ≤ _)⟩)
 dsimp only [Pt.U, Pt.locs, Pt.cells, Pt.slots] at X153 l153 y153 z153 st153 hQ153
 subst l153 y153 z153
 obtain ⟨rfl, N153q, e153⟩ := hQ153
 have N153 := Fr.app N6 N153q
 obtain ⟨cl154, Ar154, q154, S154, N154, H154, G154⟩ := id J6_8
 have hin154 := own_in (1 : Int32) S154 ⟨by decide, by decide⟩
 have hat154 : cl154.slots[((1 : Int32)).toNatClampNeg]? = some (.int c1) := Has.at H154 hin154 rfl
 have pre155 : ∀ tg, AT p e below T153 m 23 #[rv a0, rv a1, iv p2, iv (1 : Int32), iv ((2 : Int32) + c1)] [] tg → Steps p.tables e below S0 tg := fun tg kg => pre6 tg (by
  refine XS.iinc X6.here hx rfl (hb hby d8_126) rfl (l' := #[rv a0, rv a1, iv p2, iv (1 : Int32), iv ((0 : Int32) + c0)]) rfl ?_
  refine XS.goto X6.here hx rfl (pc0 := 129) (pc' := 2) rfl (hb hby d8_129) (by decide) (by decide) ?_
  refine XS.iloadN X6.here hx rfl (hb hby d8_2) rfl ?_
  refine XS.aloadN X6.here hx rfl (hb hby d8_3) rfl rfl ?_
  refine X6.arraylength hx (by rw [e6]; exact Ar151.1) (State.isArrayOf_alike hZ.alike Ar151.2.1) (g := (mkF m 4 #[rv a0, rv a1, iv p2, iv (1 : Int32), iv ((0 : Int32) + c0)] [(.ref a1), (.int (1 : Int32))])) rfl rfl (hb hby d8_4) _ ?_
  rw [len_of S151 N151]
  show AT p e below T6 m 5 #[rv a0, rv a1, iv p2, iv (1 : Int32), iv ((0 : Int32) + c0)] [(.int (2 : Int32)), (.int (1 : Int32))] _
  refine XS.icmpNo X6.here hx rfl (hb hby d8_5) rfl (XT.ii_ge_f ((by decide) : (1 : Int32) < (2 : Int32))) ?_
  refine XS.iloadN X6.here hx rfl (hb hby d8_8) rfl ?_
  refine XS.aloadN X6.here hx rfl (hb hby d8_9) rfl rfl ?_
  refine st152 _ ?_
  refine st153.trans ?_
  refine XS.imul X153.here hx rfl (hb hby d8_16) rfl ?_
  refine XS.aloadN X153.here hx rfl (hb hby d8_17) rfl rfl ?_
  refine XS.iloadN X153.here hx rfl (hb hby d8_18) rfl ?_
  refine X153.iaload hx (j := (1 : Int32)) (v := (.int c1)) (by rw [e153]; exact Ar154.1) (State.isArrayOf_alike hZ.alike Ar154.2.1) Ar154.2.2 hin154 hat154 (g := (mkF m 19 #[rv a0, rv a1, iv p2, iv (1 : Int32), iv ((0 : Int32) + c0)] [(.int (1 : Int32)), (.ref a1), (.int (2 : Int32))])) rfl rfl (hb hby d8_19) _ ?_
  refine XS.iadd X153.here hx rfl (hb hby d8_20) rfl ?_
  refine XS.istore X153.here hx rfl (hb hby d8_21) rfl (l' := #[rv a0, rv a1, iv p2, iv (1 : Int32), iv ((2 : Int32) + c1)]) rfl ?_
  exact kg)
 obtain ⟨Kz1, hKz1⟩ : ∃ z, z = (sJ2 c1 k2 k3) := ⟨_, rfl⟩
 obtain ⟨Fz1, hFz1⟩ : ∃ z, z = (sI2 c1 f2 f3) := ⟨_, rfl⟩
 obtain ⟨T156, h156, L156, X156, e156, N156, K156, O156, J156_0, J156_1, J156_2, J156_3, J156_4, J156_5, J156_6, J156_7, J156_8, J156_9, J156_10, J156_11, J156_12, pre156⟩ : ∃ (T156 : State) (h156 : Heap) (L156 : List Loc), Stand p l e R8_2 s m #[(.ref a0), (.ref a1), (.int p2)] below meth c T156 L156 ((0 + 0) + 0) ((0 + 0) + 0) ∧ T156.heap = h156 ∧ Fr n0 L156 ∧ Keep h0 h156 [fa, ca] ∧ Old Z n0 h156 ∧ Exa Z h156 a0 "com/example/filters_under_siege/filtersundersiege/KeeperPairs" ∧ Fld Z h156 a0 "com/example/filters_under_siege/filtersundersiege/KeeperPairs" "shape" "Lcom/example/filters_under_siege/filtersundersiege/SketchShape;" (.ref sh) ∧ Exa Z h156 sh "com/example/filters_under_siege/filtersundersiege/SketchShape" ∧ Fld Z h156 sh "com/example/filters_under_siege/filtersundersiege/SketchShape" "width" "I" (.int (2 : Int32)) ∧ Fld Z h156 a0 "com/example/filters_under_siege/filtersundersiege/KeeperPairs" "fingerprints" "[I" (.ref fa) ∧ Fld Z h156 a0 "com/example/filters_under_siege/filtersundersiege/KeeperPairs" "counts" "[J" (.ref ca) ∧ Fld Z h156 a0 "com/example/filters_under_siege/filtersundersiege/KeeperPairs" "knocksDown" "Ljava/util/function/LongPredicate;" (.ref w_lam) ∧ Exa Z h156 a1 "[I" ∧ Arv Z h156 a1 kk .int (2 : Int32) [(.int c0), (.int c1)] (.int (0 : Int32)) ∧ Exa Z h156 fa "[I" ∧ Exa Z h156 ca "[J" ∧ Arv Z h156 fa kf .int (4 : Int32) [(.int (pI c0 (0 : Int32) (nf Kz0 Fz0 p2) f0)), (.int (pI c0 (1 : Int32) (nf Kz0 Fz0 p2) f1)), (.int (pI c1 (0 : Int32) (nf Kz1 Fz1 p2) f2)), (.int (pI c1 (1 : Int32) (nf Kz1 Fz1 p2) f3))] (.int (0 : Int32)) ∧ Arv Z h156 ca kc .long (4 : Int32) [(.long (pJ c0 (0 : Int32) (nc Kz0 Fz0 p2) k0)), (.long (pJ c0 (1 : Int32) (nc Kz0 Fz0 p2) k1)), (.long (pJ c1 (0 : Int32) (nc Kz1 Fz1 p2) k2)), (.long (pJ c1 (1 : Int32) (nc Kz1 Fz1 p2) k3))] (.long (0 : Int64)) ∧ (∀ tg, AT p e below T156 m 126 #[rv a0, rv a1, iv p2, iv (1 : Int32), iv ((2 : Int32) + c1)] [] tg → Steps p.tables e below S0 tg) := by
  obtain ⟨T157, X157, e157, st157⟩ := getF X153 hx hZ hown (host := "") (Or.inl (ow hw 60 rfl)) Via.refl e153 J6_5 (g := (mkF m 24 #[rv a0, rv a1, iv p2, iv (1 : Int32), iv ((2 : Int32) + c1)] [(.ref a0)])) rfl rfl (hb hby d8_24)
  obtain ⟨cl158, Ar158, q158, S158, N158, H158, G158⟩ := id J6_12
  have hin158 := own_in ((2 : Int32) + c1) S158 (own_b2_2 hc1)
  have hat158 : cl158.slots[(((2 : Int32) + c1)).toNatClampNeg]? = some (.long Kz1) := Has.at H158 hin158 ((own_gJ2_2 hc1).trans (congrArg Value.long hKz1.symm))
  have pre159 : ∀ tg, AT p e below T157 m 32 #[rv a0, rv a1, iv p2, iv (1 : Int32), iv ((2 : Int32) + c1)] [(.int (XT.cmpL Kz1 (0 : Int64)))] tg → Steps p.tables e below S0 tg := fun tg kg => pre155 tg (by
   refine XS.aloadN X153.here hx rfl (hb hby d8_23) rfl rfl ?_
   refine st157 _ ?_
   refine XS.iload X157.here hx rfl (hb hby d8_27) rfl ?_
   refine X157.laload hx (j := ((2 : Int32) + c1)) (v := (.long Kz1)) (by rw [e157]; exact Ar158.1) (State.isArrayOf_alike hZ.alike Ar158.2.1) Ar158.2.2 hin158 hat158 (g := (mkF m 29 #[rv a0, rv a1, iv p2, iv (1 : Int32), iv ((2 : Int32) + c1)] [(.int ((2 : Int32) + c1)), (.ref ca)])) rfl rfl (hb hby d8_29) _ ?_
   refine XS.lconst X157.here hx rfl (hb hby d8_30) ?_
   refine XS.lcmp X157.here hx rfl (hb hby d8_31) rfl ?_
   exact kg)
  rcases Decidable.em (Kz1 = (0 : Int64)) with hc160 | hc160
  ·
   obtain ⟨T161, X161, e161, st161⟩ := getF X157 hx hZ hown (host := "") (Or.inl (ow hw 57 rfl)) Via.refl e157 J6_4 (g := (mkF m 47 #[rv a0, rv a1, iv p2, iv (1 : Int32), iv ((2 : Int32) + c1)] [(.ref a0)])) rfl rfl (hb hby d8_47)
   obtain ⟨cl162, Ar162, q162, S162, M162, H162, G162⟩ := id J6_11
   have hin162 := own_in ((2 : Int32) + c1) S162 (own_b2_2 hc1)
   obtain ⟨T162, h162, X162, e162, W162, st162⟩ := stI X161 hx hZ e161 Ar162 (j := ((2 : Int32) + c1)) hin162 (g := (mkF m 53 #[rv a0, rv a1, iv p2, iv (1 : Int32), iv ((2 : Int32) + c1)] [(.int p2), (.int ((2 : Int32) + c1)), (.ref fa)])) rfl rfl (hb hby d8_53)
   have V162_163 : Arv Z h162 fa kf .int (4 : Int32) [(.int (pI c0 (0 : Int32) (nf Kz0 Fz0 p2) f0)), (.int (pI c0 (1 : Int32) (nf Kz0 Fz0 p2) f1)), (.int (pI c1 (0 : Int32) p2 f2)), (.int (pI c1 (1 : Int32) p2 f3))] (.int (0 : Int32)) := by have q := Arv.set Ar162 q162 S162 M162 H162 G162 rfl W162 (((2 : Int32) + c1)).toNatClampNeg rfl (own_k2_2 hc1); rw [own_sI2_2 hc1] at q; exact q
   have E162_164 := J6_0.wr W162
   have F162_165 := J6_1.other W162 (Or.inl n_a0_fa)
   have E162_166 := J6_2.wr W162
   have F162_167 := J6_3.other W162 (Or.inl n_sh_fa)
   have F162_168 := J6_4.other W162 (Or.inl n_a0_fa)
   have F162_169 := J6_5.other W162 (Or.inl n_a0_fa)
   have F162_170 := J6_6.other W162 (Or.inl n_a0_fa)
   have E162_171 := J6_7.wr W162
   have V162_172 := J6_8.other W162 pf15
   have E162_173 := J6_9.wr W162
   have E162_174 := J6_10.wr W162
   have V162_175 := J6_12.other W162 (Ne.symm n_fa_ca)
   have K162 := K6.wr W162 (Or.inl (List.mem_of_getElem? (i := 0) rfl))
   have O162 := O6.wr W162 pf13
   have N162 := Fr.snoc X162 N153 pf13
   obtain ⟨T176, X176, e176, st176⟩ := getF X162 hx hZ hown (host := "") (Or.inl (ow hw 60 rfl)) Via.refl e162 F162_169 (g := (mkF m 55 #[rv a0, rv a1, iv p2, iv (1 : Int32), iv ((2 : Int32) + c1)] [(.ref a0)])) rfl rfl (hb hby d8_55)
   obtain ⟨cl177, Ar177, q177, S177, N177, H177, G177⟩ := id V162_175
   have hin177 := own_in ((2 : Int32) + c1) S177 (own_b2_2 hc1)
   have hat177 : cl177.slots[(((2 : Int32) + c1)).toNatClampNeg]? = some (.long Kz1) := Has.at H177 hin177 ((own_gJ2_2 hc1).trans (congrArg Value.long hKz1.symm))
   obtain ⟨cl178, Ar178, q178, S178, M178, H178, G178⟩ := id V162_175
   have hin178 := own_in ((2 : Int32) + c1) S178 (own_b2_2 hc1)
   obtain ⟨T178, h178, X178, e178, W178, st178⟩ := stJ X176 hx hZ e176 Ar178 (j := ((2 : Int32) + c1)) hin178 (g := (mkF m 64 #[rv a0, rv a1, iv p2, iv (1 : Int32), iv ((2 : Int32) + c1)] [(.long (Kz1 + (1 : Int64))), (.int ((2 : Int32) + c1)), (.ref ca)])) rfl rfl (hb hby d8_64)
   have V178_179 : Arv Z h178 ca kc .long (4 : Int32) [(.long (pJ c0 (0 : Int32) (nc Kz0 Fz0 p2) k0)), (.long (pJ c0 (1 : Int32) (nc Kz0 Fz0 p2) k1)), (.long (pJ c1 (0 : Int32) (Kz1 + (1 : Int64)) k2)), (.long (pJ c1 (1 : Int32) (Kz1 + (1 : Int64)) k3))] (.long (0 : Int64)) := by have q := Arv.set Ar178 q178 S178 M178 H178 G178 rfl W178 (((2 : Int32) + c1)).toNatClampNeg rfl (own_k2_2 hc1); rw [own_sJ2_2 hc1] at q; exact q
   have E178_180 := E162_164.wr W178
   have F178_181 := F162_165.other W178 (Or.inl n_a0_ca)
   have E178_182 := E162_166.wr W178
   have F178_183 := F162_167.other W178 (Or.inl n_sh_ca)
   have F178_184 := F162_168.other W178 (Or.inl n_a0_ca)
   have F178_185 := F162_169.other W178 (Or.inl n_a0_ca)
   have F178_186 := F162_170.other W178 (Or.inl n_a0_ca)
   have E178_187 := E162_171.wr W178
   have V178_188 := V162_172.other W178 n_a1_ca
   have E178_189 := E162_173.wr W178
   have E178_190 := E162_174.wr W178
   have V178_191 := V162_163.other W178 n_fa_ca
   have K178 := K162.wr W178 (Or.inl (List.mem_of_getElem? (i := 1) rfl))
   have O178 := O162.wr W178 pf14
   have N178 := Fr.snoc X178 N162 pf14
   have pre192 : ∀ tg, AT p e below T178 m 126 #[rv a0, rv a1, iv p2, iv (1 : Int32), iv ((2 : Int32) + c1)] [] tg → Steps p.tables e below S0 tg := fun tg kg => pre159 tg (by
    refine XS.ifYes X157.here hx rfl (pc0 := 32) (pc' := 46) rfl (hb hby d8_32) rfl (XT.ll_eq_t hc160) (by decide) (by decide) ?_
    refine XS.aloadN X157.here hx rfl (hb hby d8_46) rfl rfl ?_
    refine st161 _ ?_
    refine XS.iload X161.here hx rfl (hb hby d8_50) rfl ?_
    refine XS.iloadN X161.here hx rfl (hb hby d8_52) rfl ?_
    refine st162 _ ?_
    refine XS.aloadN X162.here hx rfl (hb hby d8_54) rfl rfl ?_
    refine st176 _ ?_
    refine XS.iload X176.here hx rfl (hb hby d8_58) rfl ?_
    refine XT.dup2 X176.here hx rfl (hb hby d8_60) rfl rfl rfl ?_
    refine X176.laload hx (j := ((2 : Int32) + c1)) (v := (.long Kz1)) (by rw [e176]; exact Ar177.1) (State.isArrayOf_alike hZ.alike Ar177.2.1) Ar177.2.2 hin177 hat177 (g := (mkF m 61 #[rv a0, rv a1, iv p2, iv (1 : Int32), iv ((2 : Int32) + c1)] [(.int ((2 : Int32) + c1)), (.ref ca), (.int ((2 : Int32) + c1)), (.ref ca)])) rfl rfl (hb hby d8_61) _ ?_
    refine XS.lconst X176.here hx rfl (hb hby d8_62) ?_
    refine XS.ladd X176.here hx rfl (hb hby d8_63) rfl ?_
    refine st178 _ ?_
    refine XS.goto X178.here hx rfl (pc0 := 65) (pc' := 126) rfl (hb hby d8_65) (by decide) (by decide) ?_
    exact kg)
   have hj193 : (pI c1 (0 : Int32) (nf Kz1 Fz1 p2) f2) = (pI c1 (0 : Int32) p2 f2) := by simp only [nf, if_pos hc160]
   have hj194 : (pI c1 (1 : Int32) (nf Kz1 Fz1 p2) f3) = (pI c1 (1 : Int32) p2 f3) := by simp only [nf, if_pos hc160]
   have hj195 : (pJ c1 (0 : Int32) (nc Kz1 Fz1 p2) k2) = (pJ c1 (0 : Int32) (Kz1 + (1 : Int64)) k2) := by simp only [nc, if_pos hc160]
   have hj196 : (pJ c1 (1 : Int32) (nc Kz1 Fz1 p2) k3) = (pJ c1 (1 : Int32) (Kz1 + (1 : Int64)) k3) := by simp only [nc, if_pos hc160]
   exact ⟨_, _, _, X178, e178, N178, K178, O178, E178_180, F178_181, E178_182, F178_183, F178_184, F178_185, F178_186, E178_187, V178_188, E178_189, E178_190, (by rw [hj193, hj194]; exact V178_191), (by rw [hj195, hj196]; exact V178_179), pre192⟩
  ·
   obtain ⟨T197, X197, e197, st197⟩ := getF X157 hx hZ hown (host := "") (Or.inl (ow hw 57 rfl)) Via.refl e157 J6_4 (g := (mkF m 36 #[rv a0, rv a1, iv p2, iv (1 : Int32), iv ((2 : Int32) + c1)] [(.ref a0)])) rfl rfl (hb hby d8_36)
   obtain ⟨cl198, Ar198, q198, S198, N198, H198, G198⟩ := id J6_11
   have hin198 := own_in ((2 : Int32) + c1) S198 (own_b2_2 hc1)
   have hat198 : cl198.slots[(((2 : Int32) + c1)).toNatClampNeg]? = some (.int Fz1) := Has.at H198 hin198 ((own_gI2_2 hc1).trans (congrArg Value.int hFz1.symm))
   have pre199 : ∀ tg, AT p e below T197 m 43 #[rv a0, rv a1, iv p2, iv (1 : Int32), iv ((2 : Int32) + c1)] [(.int p2), (.int Fz1)] tg → Steps p.tables e below S0 tg := fun tg kg => pre159 tg (by
    refine XS.ifNo X157.here hx rfl (hb hby d8_32) rfl (XT.ll_eq_f hc160) ?_
    refine XS.aloadN X157.here hx rfl (hb hby d8_35) rfl rfl ?_
    refine st197 _ ?_
    refine XS.iload X197.here hx rfl (hb hby d8_39) rfl ?_
    refine X197.iaload hx (j := ((2 : Int32) + c1)) (v := (.int Fz1)) (by rw [e197]; exact Ar198.1) (State.isArrayOf_alike hZ.alike Ar198.2.1) Ar198.2.2 hin198 hat198 (g := (mkF m 41 #[rv a0, rv a1, iv p2, iv (1 : Int32), iv ((2 : Int32) + c1)] [(.int ((2 : Int32) + c1)), (.ref fa)])) rfl rfl (hb hby d8_41) _ ?_
    refine XS.iloadN X197.here hx rfl (hb hby d8_42) rfl ?_
    exact kg)
   rcases Decidable.em (Fz1 = p2) with hc200 | hc200
   ·
    obtain ⟨T201, X201, e201, st201⟩ := getF X197 hx hZ hown (host := "") (Or.inl (ow hw 57 rfl)) Via.refl e197 J6_4 (g := (mkF m 47 #[rv a0, rv a1, iv p2, iv (1 : Int32), iv ((2 : Int32) + c1)] [(.ref a0)])) rfl rfl (hb hby d8_47)
    obtain ⟨cl202, Ar202, q202, S202, M202, H202, G202⟩ := id J6_11
    have hin202 := own_in ((2 : Int32) + c1) S202 (own_b2_2 hc1)
    obtain ⟨T202, h202, X202, e202, W202, st202⟩ := stI X201 hx hZ e201 Ar202 (j := ((2 : Int32) + c1)) hin202 (g := (mkF m 53 #[rv a0, rv a1, iv p2, iv (1 : Int32), iv ((2 : Int32) + c1)] [(.int p2), (.int ((2 : Int32) + c1)), (.ref fa)])) rfl rfl (hb hby d8_53)
    have V202_203 : Arv Z h202 fa kf .int (4 : Int32) [(.int (pI c0 (0 : Int32) (nf Kz0 Fz0 p2) f0)), (.int (pI c0 (1 : Int32) (nf Kz0 Fz0 p2) f1)), (.int (pI c1 (0 : Int32) p2 f2)), (.int (pI c1 (1 : Int32) p2 f3))] (.int (0 : Int32)) := by have q := Arv.set Ar202 q202 S202 M202 H202 G202 rfl W202 (((2 : Int32) + c1)).toNatClampNeg rfl (own_k2_2 hc1); rw [own_sI2_2 hc1] at q; exact q
    have E202_204 := J6_0.wr W202
    have F202_205 := J6_1.other W202 (Or.inl n_a0_fa)
    have E202_206 := J6_2.wr W202
    have F202_207 := J6_3.other W202 (Or.inl n_sh_fa)
    have F202_208 := J6_4.other W202 (Or.inl n_a0_fa)
    have F202_209 := J6_5.other W202 (Or.inl n_a0_fa)
    have F202_210 := J6_6.other W202 (Or.inl n_a0_fa)
    have E202_211 := J6_7.wr W202
    have V202_212 := J6_8.other W202 pf15
    have E202_213 := J6_9.wr W202
    have E202_214 := J6_10.wr W202
    have V202_215 := J6_12.other W202 (Ne.symm n_fa_ca)
    have K202 := K6.wr W202 (Or.inl (List.mem_of_getElem? (i := 0) rfl))
    have O202 := O6.wr W202 pf13
    have N202 := Fr.snoc X202 N153 pf13
    obtain ⟨T216, X216, e216, st216⟩ := getF X202 hx hZ hown (host := "") (Or.inl (ow hw 60 rfl)) Via.refl e202 F202_209 (g := (mkF m 55 #[rv a0, rv a1, iv p2, iv (1 : Int32), iv ((2 : Int32) + c1)] [(.ref a0)])) rfl rfl (hb hby d8_55)
    obtain ⟨cl217, Ar217, q217, S217, N217, H217, G217⟩ := id V202_215
    have hin217 := own_in ((2 : Int32) + c1) S217 (own_b2_2 hc1)
    have hat217 : cl217.slots[(((2 : Int32) + c1)).toNatClampNeg]? = some (.long Kz1) := Has.at H217 hin217 ((own_gJ2_2 hc1).trans (congrArg Value.long hKz1.symm))
    obtain ⟨cl218, Ar218, q218, S218, M218, H218, G218⟩ := id V202_215
    have hin218 := own_in ((2 : Int32) + c1) S218 (own_b2_2 hc1)
    obtain ⟨T218, h218, X218, e218, W218, st218⟩ := stJ X216 hx hZ e216 Ar218 (j := ((2 : Int32) + c1)) hin218 (g := (mkF m 64 #[rv a0, rv a1, iv p2, iv (1 : Int32), iv ((2 : Int32) + c1)] [(.long (Kz1 + (1 : Int64))), (.int ((2 : Int32) + c1)), (.ref ca)])) rfl rfl (hb hby d8_64)
    have V218_219 : Arv Z h218 ca kc .long (4 : Int32) [(.long (pJ c0 (0 : Int32) (nc Kz0 Fz0 p2) k0)), (.long (pJ c0 (1 : Int32) (nc Kz0 Fz0 p2) k1)), (.long (pJ c1 (0 : Int32) (Kz1 + (1 : Int64)) k2)), (.long (pJ c1 (1 : Int32) (Kz1 + (1 : Int64)) k3))] (.long (0 : Int64)) := by have q := Arv.set Ar218 q218 S218 M218 H218 G218 rfl W218 (((2 : Int32) + c1)).toNatClampNeg rfl (own_k2_2 hc1); rw [own_sJ2_2 hc1] at q; exact q
    have E218_220 := E202_204.wr W218
    have F218_221 := F202_205.other W218 (Or.inl n_a0_ca)
    have E218_222 := E202_206.wr W218
    have F218_223 := F202_207.other W218 (Or.inl n_sh_ca)
    have F218_224 := F202_208.other W218 (Or.inl n_a0_ca)
    have F218_225 := F202_209.other W218 (Or.inl n_a0_ca)
    have F218_226 := F202_210.other W218 (Or.inl n_a0_ca)
    have E218_227 := E202_211.wr W218
    have V218_228 := V202_212.other W218 n_a1_ca
    have E218_229 := E202_213.wr W218
    have E218_230 := E202_214.wr W218
    have V218_231 := V202_203.other W218 n_fa_ca
    have K218 := K202.wr W218 (Or.inl (List.mem_of_getElem? (i := 1) rfl))
    have O218 := O202.wr W218 pf14
    have N218 := Fr.snoc X218 N202 pf14
    have pre232 : ∀ tg, AT p e below T218 m 126 #[rv a0, rv a1, iv p2, iv (1 : Int32), iv ((2 : Int32) + c1)] [] tg → Steps p.tables e below S0 tg := fun tg kg => pre199 tg (by
     refine XS.icmpNo X197.here hx rfl (hb hby d8_43) rfl (XT.ii_ne_f hc200) ?_
     refine XS.aloadN X197.here hx rfl (hb hby d8_46) rfl rfl ?_
     refine st201 _ ?_
     refine XS.iload X201.here hx rfl (hb hby d8_50) rfl ?_
     refine XS.iloadN X201.here hx rfl (hb hby d8_52) rfl ?_
     refine st202 _ ?_
     refine XS.aloadN X202.here hx rfl (hb hby d8_54) rfl rfl ?_
     refine st216 _ ?_
     refine XS.iload X216.here hx rfl (hb hby d8_58) rfl ?_
     refine XT.dup2 X216.here hx rfl (hb hby d8_60) rfl rfl rfl ?_
     refine X216.laload hx (j := ((2 : Int32) + c1)) (v := (.long Kz1)) (by rw [e216]; exact Ar217.1) (State.isArrayOf_alike hZ.alike Ar217.2.1) Ar217.2.2 hin217 hat217 (g := (mkF m 61 #[rv a0, rv a1, iv p2, iv (1 : Int32), iv ((2 : Int32) + c1)] [(.int ((2 : Int32) + c1)), (.ref ca), (.int ((2 : Int32) + c1)), (.ref ca)])) rfl rfl (hb hby d8_61) _ ?_
     refine XS.lconst X216.here hx rfl (hb hby d8_62) ?_
     refine XS.ladd X216.here hx rfl (hb hby d8_63) rfl ?_
     refine st218 _ ?_
     refine XS.goto X218.here hx rfl (pc0 := 65) (pc' := 126) rfl (hb hby d8_65) (by decide) (by decide) ?_
     exact kg)
    have hj233 : (pI c1 (0 : Int32) (nf Kz1 Fz1 p2) f2) = (pI c1 (0 : Int32) p2 f2) := by simp only [nf, if_neg hc160, if_pos hc200]
    have hj234 : (pI c1 (1 : Int32) (nf Kz1 Fz1 p2) f3) = (pI c1 (1 : Int32) p2 f3) := by simp only [nf, if_neg hc160, if_pos hc200]
    have hj235 : (pJ c1 (0 : Int32) (nc Kz1 Fz1 p2) k2) = (pJ c1 (0 : Int32) (Kz1 + (1 : Int64)) k2) := by simp only [nc, if_neg hc160, if_pos hc200]
    have hj236 : (pJ c1 (1 : Int32) (nc Kz1 Fz1 p2) k3) = (pJ c1 (1 : Int32) (Kz1 + (1 : Int64)) k3) := by simp only [nc, if_neg hc160, if_pos hc200]
    exact ⟨_, _, _, X218, e218, N218, K218, O218, E218_220, F218_221, E218_222, F218_223, F218_224, F218_225, F218_226, E218_227, V218_228, E218_229, E218_230, (by rw [hj233, hj234]; exact V218_231), (by rw [hj235, hj236]; exact V218_219), pre232⟩
   ·
    obtain ⟨T237, X237, e237, st237⟩ := getF X197 hx hZ hown (host := "") (Or.inl (ow hw 50 rfl)) Via.refl e197 J6_6 (g := (mkF m 69 #[rv a0, rv a1, iv p2, iv (1 : Int32), iv ((2 : Int32) + c1)] [(.ref a0)])) rfl rfl (hb hby d8_69)
    obtain ⟨T238, X238, e238, st238⟩ := getF X237 hx hZ hown (host := "") (Or.inl (ow hw 60 rfl)) Via.refl e237 J6_5 (g := (mkF m 73 #[rv a0, rv a1, iv p2, iv (1 : Int32), iv ((2 : Int32) + c1)] [(.ref a0), (.ref w_lam)])) rfl rfl (hb hby d8_73)
    obtain ⟨cl239, Ar239, q239, S239, N239, H239, G239⟩ := id J6_12
    have hin239 := own_in ((2 : Int32) + c1) S239 (own_b2_2 hc1)
    have hat239 : cl239.slots[(((2 : Int32) + c1)).toNatClampNeg]? = some (.long Kz1) := Has.at H239 hin239 ((own_gJ2_2 hc1).trans (congrArg Value.long hKz1.symm))
    obtain ⟨T240, X240, e240, st240⟩ := own_test X238 hx hw hZ hown HLm O6 e238 (g := (mkF m 79 #[rv a0, rv a1, iv p2, iv (1 : Int32), iv ((2 : Int32) + c1)] [(.long Kz1), (.ref w_lam)])) rfl (by rw [hml]; rfl) rfl (hb hby d8_79) (W := 0) (by show 2 * 0 + _ ≤ _; exact Nat.le_of_eq rfl) (by decide) (by decide) (by decide) (by decide)
    obtain ⟨T241, X241, e241, st241⟩ := getF X240 hx hZ hown (host := "") (Or.inl (ow hw 60 rfl)) Via.refl e240 J6_5 (g := (mkF m 88 #[rv a0, rv a1, iv p2, iv (1 : Int32), iv ((2 : Int32) + c1)] [(.ref a0)])) rfl rfl (hb hby d8_88)
    obtain ⟨cl242, Ar242, q242, S242, N242, H242, G242⟩ := id J6_12
    have hin242 := own_in ((2 : Int32) + c1) S242 (own_b2_2 hc1)
    have hat242 : cl242.slots[(((2 : Int32) + c1)).toNatClampNeg]? = some (.long Kz1) := Has.at H242 hin242 ((own_gJ2_2 hc1).trans (congrArg Value.long hKz1.symm))
    obtain ⟨cl243, Ar243, q243, S243, M243, H243, G243⟩ := id J6_12
    have hin243 := own_in ((2 : Int32) + c1) S243 (own_b2_2 hc1)
    obtain ⟨T243, h243, X243, e243, W243, st243⟩ := stJ X241 hx hZ e241 Ar243 (j := ((2 : Int32) + c1)) hin243 (g := (mkF m 97 #[rv a0, rv a1, iv p2, iv (1 : Int32), iv ((2 : Int32) + c1)] [(.long (Kz1 - (1 : Int64))), (.int ((2 : Int32) + c1)), (.ref ca)])) rfl rfl (hb hby d8_97)
    have V243_244 : Arv Z h243 ca kc .long (4 : Int32) [(.long (pJ c0 (0 : Int32) (nc Kz0 Fz0 p2) k0)), (.long (pJ c0 (1 : Int32) (nc Kz0 Fz0 p2) k1)), (.long (pJ c1 (0 : Int32) (Kz1 - (1 : Int64)) k2)), (.long (pJ c1 (1 : Int32) (Kz1 - (1 : Int64)) k3))] (.long (0 : Int64)) := by have q := Arv.set Ar243 q243 S243 M243 H243 G243 rfl W243 (((2 : Int32) + c1)).toNatClampNeg rfl (own_k2_2 hc1); rw [own_sJ2_2 hc1] at q; exact q
    have E243_245 := J6_0.wr W243
    have F243_246 := J6_1.other W243 (Or.inl n_a0_ca)
    have E243_247 := J6_2.wr W243
    have F243_248 := J6_3.other W243 (Or.inl n_sh_ca)
    have F243_249 := J6_4.other W243 (Or.inl n_a0_ca)
    have F243_250 := J6_5.other W243 (Or.inl n_a0_ca)
    have F243_251 := J6_6.other W243 (Or.inl n_a0_ca)
    have E243_252 := J6_7.wr W243
    have V243_253 := J6_8.other W243 n_a1_ca
    have E243_254 := J6_9.wr W243
    have E243_255 := J6_10.wr W243
    have V243_256 := J6_11.other W243 n_fa_ca
    have K243 := K6.wr W243 (Or.inl (List.mem_of_getElem? (i := 1) rfl))
    have O243 := O6.wr W243 pf14
    have N243 := Fr.snoc X243 N153 pf14
    obtain ⟨T257, X257, e257, st257⟩ := getF X243 hx hZ hown (host := "") (Or.inl (ow hw 60 rfl)) Via.refl e243 F243_250 (g := (mkF m 99 #[rv a0, rv a1, iv p2, iv (1 : Int32), iv ((2 : Int32) + c1)] [(.ref a0)])) rfl rfl (hb hby d8_99)
    obtain ⟨cl258, Ar258, q258, S258, N258, H258, G258⟩ := id V243_244
    have hin258 := own_in ((2 : Int32) + c1) S258 (own_b2_2 hc1)
    have hat258 : cl258.slots[(((2 : Int32) + c1)).toNatClampNeg]? = some (.long (Kz1 - (1 : Int64))) := Has.at H258 hin258 ((own_gJ2_2 hc1).trans (congrArg Value.long (own_spJ2 hc1)))
    have pre259 : ∀ tg, AT p e below T257 m 107 #[rv a0, rv a1, iv p2, iv (1 : Int32), iv ((2 : Int32) + c1)] [(.int (XT.cmpL (Kz1 - (1 : Int64)) (0 : Int64)))] tg → Steps p.tables e below S0 tg := fun tg kg => pre199 tg (by
     refine XS.icmpYes X197.here hx rfl (pc0 := 43) (pc' := 68) rfl (hb hby d8_43) rfl (XT.ii_ne_t hc200) (by decide) (by decide) ?_
     refine XS.aloadN X197.here hx rfl (hb hby d8_68) rfl rfl ?_
     refine st237 _ ?_
     refine XS.aloadN X237.here hx rfl (hb hby d8_72) rfl rfl ?_
     refine st238 _ ?_
     refine XS.iload X238.here hx rfl (hb hby d8_76) rfl ?_
     refine X238.laload hx (j := ((2 : Int32) + c1)) (v := (.long Kz1)) (by rw [e238]; exact Ar239.1) (State.isArrayOf_alike hZ.alike Ar239.2.1) Ar239.2.2 hin239 hat239 (g := (mkF m 78 #[rv a0, rv a1, iv p2, iv (1 : Int32), iv ((2 : Int32) + c1)] [(.int ((2 : Int32) + c1)), (.ref ca), (.ref w_lam)])) rfl rfl (hb hby d8_78) _ ?_
     refine st240 _ ?_
     show AT p e below T240 m 84 #[rv a0, rv a1, iv p2, iv (1 : Int32), iv ((2 : Int32) + c1)] [(.int (1 : Int32))] _
     refine XS.ifNo X240.here hx rfl (hb hby d8_84) rfl (XT.i0_eq_f ((by decide) : ¬ ((1 : Int32) = (0 : Int32)))) ?_
     refine XS.aloadN X240.here hx rfl (hb hby d8_87) rfl rfl ?_
     refine st241 _ ?_
     refine XS.iload X241.here hx rfl (hb hby d8_91) rfl ?_
     refine XT.dup2 X241.here hx rfl (hb hby d8_93) rfl rfl rfl ?_
     refine X241.laload hx (j := ((2 : Int32) + c1)) (v := (.long Kz1)) (by rw [e241]; exact Ar242.1) (State.isArrayOf_alike hZ.alike Ar242.2.1) Ar242.2.2 hin242 hat242 (g := (mkF m 94 #[rv a0, rv a1, iv p2, iv (1 : Int32), iv ((2 : Int32) + c1)] [(.int ((2 : Int32) + c1)), (.ref ca), (.int ((2 : Int32) + c1)), (.ref ca)])) rfl rfl (hb hby d8_94) _ ?_
     refine XS.lconst X241.here hx rfl (hb hby d8_95) ?_
     refine XS.lsub X241.here hx rfl (hb hby d8_96) rfl ?_
     refine st243 _ ?_
     refine XS.aloadN X243.here hx rfl (hb hby d8_98) rfl rfl ?_
     refine st257 _ ?_
     refine XS.iload X257.here hx rfl (hb hby d8_102) rfl ?_
     refine X257.laload hx (j := ((2 : Int32) + c1)) (v := (.long (Kz1 - (1 : Int64)))) (by rw [e257]; exact Ar258.1) (State.isArrayOf_alike hZ.alike Ar258.2.1) Ar258.2.2 hin258 hat258 (g := (mkF m 104 #[rv a0, rv a1, iv p2, iv (1 : Int32), iv ((2 : Int32) + c1)] [(.int ((2 : Int32) + c1)), (.ref ca)])) rfl rfl (hb hby d8_104) _ ?_
     refine XS.lconst X257.here hx rfl (hb hby d8_105) ?_
     refine XS.lcmp X257.here hx rfl (hb hby d8_106) rfl ?_
     exact kg)
    rcases Decidable.em ((Kz1 - (1 : Int64)) = (0 : Int64)) with hc260 | hc260
    ·
     obtain ⟨T261, X261, e261, st261⟩ := getF X257 hx hZ hown (host := "") (Or.inl (ow hw 57 rfl)) Via.refl e257 F243_249 (g := (mkF m 111 #[rv a0, rv a1, iv p2, iv (1 : Int32), iv ((2 : Int32) + c1)] [(.ref a0)])) rfl rfl (hb hby d8_111)
     obtain ⟨cl262, Ar262, q262, S262, M262, H262, G262⟩ := id V243_256
     have hin262 := own_in ((2 : Int32) + c1) S262 (own_b2_2 hc1)
     obtain ⟨T262, h262, X262, e262, W262, st262⟩ := stI X261 hx hZ e261 Ar262 (j := ((2 : Int32) + c1)) hin262 (g := (mkF m 117 #[rv a0, rv a1, iv p2, iv (1 : Int32), iv ((2 : Int32) + c1)] [(.int p2), (.int ((2 : Int32) + c1)), (.ref fa)])) rfl rfl (hb hby d8_117)
     have V262_263 : Arv Z h262 fa kf .int (4 : Int32) [(.int (pI c0 (0 : Int32) (nf Kz0 Fz0 p2) f0)), (.int (pI c0 (1 : Int32) (nf Kz0 Fz0 p2) f1)), (.int (pI c1 (0 : Int32) p2 f2)), (.int (pI c1 (1 : Int32) p2 f3))] (.int (0 : Int32)) := by have q := Arv.set Ar262 q262 S262 M262 H262 G262 rfl W262 (((2 : Int32) + c1)).toNatClampNeg rfl (own_k2_2 hc1); rw [own_sI2_2 hc1] at q; exact q
     have E262_264 := E243_245.wr W262
     have F262_265 := F243_246.other W262 (Or.inl n_a0_fa)
     have E262_266 := E243_247.wr W262
     have F262_267 := F243_248.other W262 (Or.inl n_sh_fa)
     have F262_268 := F243_249.other W262 (Or.inl n_a0_fa)
     have F262_269 := F243_250.other W262 (Or.inl n_a0_fa)
     have F262_270 := F243_251.other W262 (Or.inl n_a0_fa)
     have E262_271 := E243_252.wr W262
     have V262_272 := V243_253.other W262 pf15
     have E262_273 := E243_254.wr W262
     have E262_274 := E243_255.wr W262
     have V262_275 := V243_244.other W262 (Ne.symm n_fa_ca)
     have K262 := K243.wr W262 (Or.inl (List.mem_of_getElem? (i := 0) rfl))
     have O262 := O243.wr W262 pf13
     have N262 := Fr.snoc X262 N243 pf13
     obtain ⟨T276, X276, e276, st276⟩ := getF X262 hx hZ hown (host := "") (Or.inl (ow hw 60 rfl)) Via.refl e262 F262_269 (g := (mkF m 119 #[rv a0, rv a1, iv p2, iv (1 : Int32), iv ((2 : Int32) + c1)] [(.ref a0)])) rfl rfl (hb hby d8_119)
     obtain ⟨cl277, Ar277, q277, S277, M277, H277, G277⟩ := id V262_275
     have hin277 := own_in ((2 : Int32) + c1) S277 (own_b2_2 hc1)
     obtain ⟨T277, h277, X277, e277, W277, st277⟩ := stJ X276 hx hZ e276 Ar277 (j := ((2 : Int32) + c1)) hin277 (g := (mkF m 125 #[rv a0, rv a1, iv p2, iv (1 : Int32), iv ((2 : Int32) + c1)] [(.long (1 : Int64)), (.int ((2 : Int32) + c1)), (.ref ca)])) rfl rfl (hb hby d8_125)
     have V277_278 : Arv Z h277 ca kc .long (4 : Int32) [(.long (pJ c0 (0 : Int32) (nc Kz0 Fz0 p2) k0)), (.long (pJ c0 (1 : Int32) (nc Kz0 Fz0 p2) k1)), (.long (pJ c1 (0 : Int32) (1 : Int64) k2)), (.long (pJ c1 (1 : Int32) (1 : Int64) k3))] (.long (0 : Int64)) := by have q := Arv.set Ar277 q277 S277 M277 H277 G277 rfl W277 (((2 : Int32) + c1)).toNatClampNeg rfl (own_k2_2 hc1); rw [own_sJ2_2 hc1] at q; simp only [own_ppJ] at q; exact q
     have E277_279 := E262_264.wr W277
     have F277_280 := F262_265.other W277 (Or.inl n_a0_ca)
     have E277_281 := E262_266.wr W277
     have F277_282 := F262_267.other W277 (Or.inl n_sh_ca)
     have F277_283 := F262_268.other W277 (Or.inl n_a0_ca)
     have F277_284 := F262_269.other W277 (Or.inl n_a0_ca)
     have F277_285 := F262_270.other W277 (Or.inl n_a0_ca)
     have E277_286 := E262_271.wr W277
     have V277_287 := V262_272.other W277 n_a1_ca
     have E277_288 := E262_273.wr W277
     have E277_289 := E262_274.wr W277
     have V277_290 := V262_263.other W277 n_fa_ca
     have K277 := K262.wr W277 (Or.inl (List.mem_of_getElem? (i := 1) rfl))
     have O277 := O262.wr W277 pf14
     have N277 := Fr.snoc X277 N262 pf14
     have pre291 : ∀ tg, AT p e below T277 m 126 #[rv a0, rv a1, iv p2, iv (1 : Int32), iv ((2 : Int32) + c1)] [] tg → Steps p.tables e below S0 tg := fun tg kg => pre259 tg (by
      refine XS.ifNo X257.here hx rfl (hb hby d8_107) rfl (XT.ll_ne_f hc260) ?_
      refine XS.aloadN X257.here hx rfl (hb hby d8_110) rfl rfl ?_
      refine st261 _ ?_
      refine XS.iload X261.here hx rfl (hb hby d8_114) rfl ?_
      refine XS.iloadN X261.here hx rfl (hb hby d8_116) rfl ?_
      refine st262 _ ?_
      refine XS.aloadN X262.here hx rfl (hb hby d8_118) rfl rfl ?_
      refine st276 _ ?_
      refine XS.iload X276.here hx rfl (hb hby d8_122) rfl ?_
      show AT p e below T276 m 124 #[rv a0, rv a1, iv p2, iv (1 : Int32), iv ((2 : Int32) + c1)] [(.int ((2 : Int32) + c1)), (.ref ca)] _
      refine XS.lconst X276.here hx rfl (hb hby d8_124) ?_
      refine st277 _ ?_
      exact kg)
     have hj292 : (pI c1 (0 : Int32) (nf Kz1 Fz1 p2) f2) = (pI c1 (0 : Int32) p2 f2) := by simp only [nf, if_neg hc160, if_neg hc200, if_pos hc260]
     have hj293 : (pI c1 (1 : Int32) (nf Kz1 Fz1 p2) f3) = (pI c1 (1 : Int32) p2 f3) := by simp only [nf, if_neg hc160, if_neg hc200, if_pos hc260]
     have hj294 : (pJ c1 (0 : Int32) (nc Kz1 Fz1 p2) k2) = (pJ c1 (0 : Int32) (1 : Int64) k2) := by simp only [nc, if_neg hc160, if_neg hc200, if_pos hc260]
     have hj295 : (pJ c1 (1 : Int32) (nc Kz1 Fz1 p2) k3) = (pJ c1 (1 : Int32) (1 : Int64) k3) := by simp only [nc, if_neg hc160, if_neg hc200, if_pos hc260]
     exact ⟨_, _, _, X277, e277, N277, K277, O277, E277_279, F277_280, E277_281, F277_282, F277_283, F277_284, F277_285, E277_286, V277_287, E277_288, E277_289, (by rw [hj292, hj293]; exact V277_290), (by rw [hj294, hj295]; exact V277_278), pre291⟩
    ·
     have pre296 : ∀ tg, AT p e below T257 m 126 #[rv a0, rv a1, iv p2, iv (1 : Int32), iv ((2 : Int32) + c1)] [] tg → Steps p.tables e below S0 tg := fun tg kg => pre259 tg (by
      refine XS.ifYes X257.here hx rfl (pc0 := 107) (pc' := 126) rfl (hb hby d8_107) rfl (XT.ll_ne_t hc260) (by decide) (by decide) ?_
      exact kg)
     have hj297 : (pI c1 (0 : Int32) (nf Kz1 Fz1 p2) f2) = f2 := by rw [nf, if_neg hc160, if_neg hc200, if_neg hc260, hFz1]; exact own_psI2_0 hc1
     have hj298 : (pI c1 (1 : Int32) (nf Kz1 Fz1 p2) f3) = f3 := by rw [nf, if_neg hc160, if_neg hc200, if_neg hc260, hFz1]; exact own_psI2_1 hc1
     have hj299 : (pJ c1 (0 : Int32) (nc Kz1 Fz1 p2) k2) = (pJ c1 (0 : Int32) (Kz1 - (1 : Int64)) k2) := by simp only [nc, if_neg hc160, if_neg hc200, if_neg hc260]
     have hj300 : (pJ c1 (1 : Int32) (nc Kz1 Fz1 p2) k3) = (pJ c1 (1 : Int32) (Kz1 - (1 : Int64)) k3) := by simp only [nc, if_neg hc160, if_neg hc200, if_neg hc260]
     exact ⟨_, _, _, X257, e257, N243, K243, O243, E243_245, F243_246, E243_247, F243_248, F243_249, F243_250, F243_251, E243_252, V243_253, E243_254, E243_255, (by rw [hj297, hj298]; exact V243_256), (by rw [hj299, hj300]; exact V243_244), pre296⟩
 obtain ⟨cl301, Ar301, q301, S301, N301, H301, G301⟩ := id J156_8
 obtain ⟨fs, hr, hrun, hended, hW, hsame⟩ := X156.leave (v := none) (fun _ => rfl) hlk
 subst hS0
 refine ⟨_, _, pre156 _ ?_, hrun, hended, _, _, rfl, ?_, ⟨_, rfl⟩, hW, hsame.mono (by decide) (by decide)⟩
 ·
  refine XS.iinc X156.here hx rfl (hb hby d8_126) rfl (l' := #[rv a0, rv a1, iv p2, iv (2 : Int32), iv ((2 : Int32) + c1)]) rfl ?_
  refine XS.goto X156.here hx rfl (pc0 := 129) (pc' := 2) rfl (hb hby d8_129) (by decide) (by decide) ?_
  refine XS.iloadN X156.here hx rfl (hb hby d8_2) rfl ?_
  refine XS.aloadN X156.here hx rfl (hb hby d8_3) rfl rfl ?_
  refine X156.arraylength hx (by rw [e156]; exact Ar301.1) (State.isArrayOf_alike hZ.alike Ar301.2.1) (g := (mkF m 4 #[rv a0, rv a1, iv p2, iv (2 : Int32), iv ((2 : Int32) + c1)] [(.ref a1), (.int (2 : Int32))])) rfl rfl (hb hby d8_4) _ ?_
  rw [len_of S301 N301]
  show AT p e below T156 m 5 #[rv a0, rv a1, iv p2, iv (2 : Int32), iv ((2 : Int32) + c1)] [(.int (2 : Int32)), (.int (2 : Int32))] _
  refine XS.icmpYes X156.here hx rfl (pc0 := 5) (pc' := 132) rfl (hb hby d8_5) rfl (XT.ii_ge_t ((by decide) : ¬ ((2 : Int32) < (2 : Int32)))) (by decide) (by decide) ?_
  exact X156.returnOut hx Bd.returns (hb hby d8_132) hr
 ·
  show Q8_2 Z a0 a1 p2 sh kk c0 c1 fa ca kf kc f0 f1 f2 f3 k0 k1 k2 k3 h0 n0 _ T156.heap _
  rw [e156]
  exact ⟨rfl, N156, K156, (by have q := J156_11; rw [hKz0, hFz0, hKz1, hFz1] at q; exact q), (by have q := J156_12; rw [hKz0, hFz0, hKz1, hFz1] at q; exact q)⟩

theorem ef_10_2_0 (m : MethodId) (a0 : Addr) (p2 : Int32) : entryFrame m #[(.ref a0), (.int (0 : Int32)), (.int p2)] 3 = mkF m 0 #[rv a0, iv (0 : Int32), iv p2] [] := by first | (simp [entryFrame, mkF, argsToLocals, Value.category]; done) | rfl
def Q10_2_0 (Z : State) (a0 : Addr) (p2 : Int32) (sh : Addr) (ca : Addr) (kc : ClassId) (k0 : Int64) (k1 : Int64) (k2 : Int64) (k3 : Int64) (h0 : Heap) (n0 : Nat) (v : Option Value) (h : Heap) (L : List Loc) : Prop := v = some (.long (sJ2 p2 k0 k1)) ∧ Fr n0 L ∧ h = h0
abbrev R10_2_0 : Room := ({ frames := 1, cells := 0, slots := 0, locals := 14 } : Room)
set_option maxRecDepth 65536 in
set_option maxHeartbeats 40000000 in
theorem rm10_2_0 (l : Launch) (Z : State) (ar : Array Value) (hw : ∀ d ∈ tables_1, d.before ar Z = true) (ws : List Jvm.Cond) (a0 : Addr) (p2 : Int32) (sh : Addr) (ca : Addr) (kc : ClassId) (k0 : Int64) (k1 : Int64) (k2 : Int64) (k3 : Int64) (h0 : Heap) (n0 : Nat) (O0 : Old Z n0 h0) (pf0 : Exa Z h0 a0 "com/example/filters_under_siege/filtersundersiege/KeeperPairs") (pf1 : Fld Z h0 a0 "com/example/filters_under_siege/filtersundersiege/KeeperPairs" "shape" "Lcom/example/filters_under_siege/filtersundersiege/SketchShape;" (.ref sh)) (pf2 : Exa Z h0 sh "com/example/filters_under_siege/filtersundersiege/SketchShape") (pf3 : Fld Z h0 sh "com/example/filters_under_siege/filtersundersiege/SketchShape" "width" "I" (.int (2 : Int32))) (pf4 : Fld Z h0 a0 "com/example/filters_under_siege/filtersundersiege/KeeperPairs" "counts" "[J" (.ref ca)) (pf5 : Arv Z h0 ca kc .long (4 : Int32) [(.long k0), (.long k1), (.long k2), (.long k3)] (.long (0 : Int64))) (hp2 : p2 = (0 : Int32) ∨ p2 = (1 : Int32)) :
    MetFree l y10 (head1 (Jvm.Cond.code y10 prog_26_method_6_code 3 (some .long) :: ws) R10_2_0) (fun a U => a = #[(.ref a0), (.int (0 : Int32)), (.int p2)] ∧ Z.Warmed39 U.vm ∧ U.heap = h0) (fun _ _ _ _ _ => True) (fun _ U o U' => ∃ v L, o = .returned v ∧ Q10_2_0 Z a0 p2 sh ca kc k0 k1 k2 k3 h0 n0 v U'.heap L ∧ FrameEnd U o U' L R10_2_0.cells R10_2_0.slots) := by
 refine MetFree.of_bodySF (plainFor_of_name pn_3) hisR ?_
 intro p e s m args below meth c s₁ Bd hml0 hP hK
 obtain ⟨rfl, hZ, hh⟩ := hP
 have hx := Bd.exec
 have hby := Bd.bytes
 have hml : c.maxLocals = 3 := hml0
 have hown : s.vm.findClass "com/example/filters_under_siege/filtersundersiege/KeeperPairs" = some m.cls := findClass_of_methodNamed Bd.named
 have hnm := (name_of_methodNamed Bd.named Bd.method).1
 have hlk : meth.locks = false := by first | assumption | exact BodyLoose.notSynchronized (by assumption) | exact Body.notSynchronized (by assumption)
 have X0 : Stand p l e R10_2_0 s m #[(.ref a0), (.int (0 : Int32)), (.int p2)] below meth c s₁ [] 0 0 := Stand.of_body Bd
 have e0 : s₁.heap = h0 := by rw [← hh, Bd.state]; rfl
 have N0 := Fr.nil n0
 have Z0 : n0 ≤ h0.size := Nat.le_trans (Nat.le_of_eq O0.1.symm) O0.2.1
 obtain ⟨S0, hS0⟩ : ∃ z, z = s₁.setTop (entryFrame m #[(.ref a0), (.int (0 : Int32)), (.int p2)] 3) := ⟨_, rfl⟩
 have pre0 : ∀ tg, AT p e below s₁ m 0 #[rv a0, iv (0 : Int32), iv p2] [] tg → Steps p.tables e below S0 tg := fun tg kg => by rw [hS0]; exact castTop (ef_10_2_0 m a0 p2) kg
 obtain ⟨T1, X1, e1, st1⟩ := getF X0 hx hZ hown (host := "") (Or.inl (ow hw 60 rfl)) Via.refl e0 pf4 (g := (mkF m 1 #[rv a0, iv (0 : Int32), iv p2] [(.ref a0)])) rfl rfl (hb hby d10_1)
 obtain ⟨T2, X2, e2, st2⟩ := getF X1 hx hZ hown (host := "") (Or.inl (ow hw 48 rfl)) Via.refl e1 pf1 (g := (mkF m 6 #[rv a0, iv (0 : Int32), iv p2] [(.ref a0), (.int (0 : Int32)), (.ref ca)])) rfl rfl (hb hby d10_6)
 obtain ⟨cq3, kq3, q3a, q3b, q3c⟩ := isOf hZ e2 pf2
 obtain ⟨_, _, ⟨T3, L3, k3, n3⟩, -, X3, ⟨Lc3, hQ3, l3, y3, z3⟩, st3⟩ := X2.virtualBack hx (y := y9) (z := y9) hown (mvT hZ (ow hw 67 rfl)) (mvT hZ (ow hw 68 rfl)) (notFace_of_selects (args := #[]) (mvT hZ (ow hw 70 rfl))) (mvT hZ (ow hw 70 rfl)) (mvT hZ (ow hw 69 rfl)) (by decide) (backOf (W := 2) (rm9 l Z ar hw [] sh _ h0 n0 O0 pf3) hZ (ow hw 71 rfl) (ow hw 7 rfl) (by decide) (by decide)) q3a q3c (g := (mkF m 9 #[rv a0, iv (0 : Int32), iv p2] [(.ref sh), (.int (0 : Int32)), (.ref ca)])) rfl (by rw [hml]; rfl) (Steps.refl _) (argsL := []) (rest := [(.int (0 : Int32)), (.ref ca)]) (lenOf pd_2 rfl) rfl (by show 2 * 0 + _ ≤ _; exact Nat.le_of_eq rfl) (hb hby d10_9) (fun _ _ => ⟨rfl, e2, (by decide : 0 + 0 ≤ _), (by decide : 0 + 0 ≤ _)⟩)
 dsimp only [Pt.U, Pt.locs, Pt.cells, Pt.slots] at X3 l3 y3 z3 st3 hQ3
 subst l3 y3 z3
 obtain ⟨rfl, N3q, e3⟩ := hQ3
 have N3 := Fr.app N0 N3q
 obtain ⟨cl4, Ar4, q4, S4, N4, H4, G4⟩ := id pf5
 have hin4 := own_in ((0 : Int32) + p2) S4 (own_b2_0 hp2)
 have hat4 : cl4.slots[(((0 : Int32) + p2)).toNatClampNeg]? = some (.long (sJ2 p2 k0 k1)) := Has.at H4 hin4 (own_gJ2_0 hp2)
 obtain ⟨fs, hr, hrun, hended, hW, hsame⟩ := X3.leave (v := some (.long (sJ2 p2 k0 k1))) (fun h => by rw [Bd.returns] at h; cases h) hlk
 subst hS0
 refine ⟨_, _, pre0 _ ?_, hrun, hended, _, _, rfl, ?_, ⟨_, rfl⟩, hW, hsame.mono (by decide) (by decide)⟩
 ·
  refine XS.aloadN X0.here hx rfl (hb hby d10_0) rfl rfl ?_
  refine st1 _ ?_
  refine XS.iloadN X1.here hx rfl (hb hby d10_4) rfl ?_
  refine XS.aloadN X1.here hx rfl (hb hby d10_5) rfl rfl ?_
  refine st2 _ ?_
  refine st3.trans ?_
  refine XS.imul X3.here hx rfl (hb hby d10_12) rfl ?_
  refine XS.iloadN X3.here hx rfl (hb hby d10_13) rfl ?_
  refine XS.iadd X3.here hx rfl (hb hby d10_14) rfl ?_
  refine X3.laload hx (j := ((0 : Int32) + p2)) (v := (.long (sJ2 p2 k0 k1))) (by rw [e3]; exact Ar4.1) (State.isArrayOf_alike hZ.alike Ar4.2.1) Ar4.2.2 hin4 hat4 (g := (mkF m 15 #[rv a0, iv (0 : Int32), iv p2] [(.int ((0 : Int32) + p2)), (.ref ca)])) rfl rfl (hb hby d10_15) _ ?_
  exact retOut X3 hx (t := .long) (i := .lreturn) Bd.returns rfl (Or.inr (Or.inl ⟨rfl, rfl, _, rfl⟩)) (hb hby d10_16) hr
 ·
  show Q10_2_0 Z a0 p2 sh ca kc k0 k1 k2 k3 h0 n0 _ T3.heap _
  rw [e3]
  exact ⟨rfl, N3, rfl⟩

theorem ef_10_2_1 (m : MethodId) (a0 : Addr) (p2 : Int32) : entryFrame m #[(.ref a0), (.int (1 : Int32)), (.int p2)] 3 = mkF m 0 #[rv a0, iv (1 : Int32), iv p2] [] := by first | (simp [entryFrame, mkF, argsToLocals, Value.category]; done) | rfl
def Q10_2_1 (Z : State) (a0 : Addr) (p2 : Int32) (sh : Addr) (ca : Addr) (kc : ClassId) (k0 : Int64) (k1 : Int64) (k2 : Int64) (k3 : Int64) (h0 : Heap) (n0 : Nat) (v : Option Value) (h : Heap) (L : List Loc) : Prop := v = some (.long (sJ2 p2 k2 k3)) ∧ Fr n0 L ∧ h = h0
abbrev R10_2_1 : Room := ({ frames := 1, cells := 0, slots := 0, locals := 14 } : Room)
set_option maxRecDepth 65536 in
set_option maxHeartbeats 40000000 in
theorem rm10_2_1 (l : Launch) (Z : State) (ar : Array Value) (hw : ∀ d ∈ tables_1, d.before ar Z = true) (ws : List Jvm.Cond) (a0 : Addr) (p2 : Int32) (sh : Addr) (ca : Addr) (kc : ClassId) (k0 : Int64) (k1 : Int64) (k2 : Int64) (k3 : Int64) (h0 : Heap) (n0 : Nat) (O0 : Old Z n0 h0) (pf0 : Exa Z h0 a0 "com/example/filters_under_siege/filtersundersiege/KeeperPairs") (pf1 : Fld Z h0 a0 "com/example/filters_under_siege/filtersundersiege/KeeperPairs" "shape" "Lcom/example/filters_under_siege/filtersundersiege/SketchShape;" (.ref sh)) (pf2 : Exa Z h0 sh "com/example/filters_under_siege/filtersundersiege/SketchShape") (pf3 : Fld Z h0 sh "com/example/filters_under_siege/filtersundersiege/SketchShape" "width" "I" (.int (2 : Int32))) (pf4 : Fld Z h0 a0 "com/example/filters_under_siege/filtersundersiege/KeeperPairs" "counts" "[J" (.ref ca)) (pf5 : Arv Z h0 ca kc .long (4 : Int32) [(.long k0), (.long k1), (.long k2), (.long k3)] (.long (0 : Int64))) (hp2 : p2 = (0 : Int32) ∨ p2 = (1 : Int32)) :
    MetFree l y10 (head1 (Jvm.Cond.code y10 prog_26_method_6_code 3 (some .long) :: ws) R10_2_1) (fun a U => a = #[(.ref a0), (.int (1 : Int32)), (.int p2)] ∧ Z.Warmed39 U.vm ∧ U.heap = h0) (fun _ _ _ _ _ => True) (fun _ U o U' => ∃ v L, o = .returned v ∧ Q10_2_1 Z a0 p2 sh ca kc k0 k1 k2 k3 h0 n0 v U'.heap L ∧ FrameEnd U o U' L R10_2_1.cells R10_2_1.slots) := by
 refine MetFree.of_bodySF (plainFor_of_name pn_3) hisR ?_
 intro p e s m args below meth c s₁ Bd hml0 hP hK
 obtain ⟨rfl, hZ, hh⟩ := hP
 have hx := Bd.exec
 have hby := Bd.bytes
 have hml : c.maxLocals = 3 := hml0
 have hown : s.vm.findClass "com/example/filters_under_siege/filtersundersiege/KeeperPairs" = some m.cls := findClass_of_methodNamed Bd.named
 have hnm := (name_of_methodNamed Bd.named Bd.method).1
 have hlk : meth.locks = false := by first | assumption | exact BodyLoose.notSynchronized (by assumption) | exact Body.notSynchronized (by assumption)
 have X0 : Stand p l e R10_2_1 s m #[(.ref a0), (.int (1 : Int32)), (.int p2)] below meth c s₁ [] 0 0 := Stand.of_body Bd
 have e0 : s₁.heap = h0 := by rw [← hh, Bd.state]; rfl
 have N0 := Fr.nil n0
 have Z0 : n0 ≤ h0.size := Nat.le_trans (Nat.le_of_eq O0.1.symm) O0.2.1
 obtain ⟨S0, hS0⟩ : ∃ z, z = s₁.setTop (entryFrame m #[(.ref a0), (.int (1 : Int32)), (.int p2)] 3) := ⟨_, rfl⟩
 have pre0 : ∀ tg, AT p e below s₁ m 0 #[rv a0, iv (1 : Int32), iv p2] [] tg → Steps p.tables e below S0 tg := fun tg kg => by rw [hS0]; exact castTop (ef_10_2_1 m a0 p2) kg
 obtain ⟨T1, X1, e1, st1⟩ := getF X0 hx hZ hown (host := "") (Or.inl (ow hw 60 rfl)) Via.refl e0 pf4 (g := (mkF m 1 #[rv a0, iv (1 : Int32), iv p2] [(.ref a0)])) rfl rfl (hb hby d10_1)
 obtain ⟨T2, X2, e2, st2⟩ := getF X1 hx hZ hown (host := "") (Or.inl (ow hw 48 rfl)) Via.refl e1 pf1 (g := (mkF m 6 #[rv a0, iv (1 : Int32), iv p2] [(.ref a0), (.int (1 : Int32)), (.ref ca)])) rfl rfl (hb hby d10_6)
 obtain ⟨cq3, kq3, q3a, q3b, q3c⟩ := isOf hZ e2 pf2
 obtain ⟨_, _, ⟨T3, L3, k3, n3⟩, -, X3, ⟨Lc3, hQ3, l3, y3, z3⟩, st3⟩ := X2.virtualBack hx (y := y9) (z := y9) hown (mvT hZ (ow hw 67 rfl)) (mvT hZ (ow hw 68 rfl)) (notFace_of_selects (args := #[]) (mvT hZ (ow hw 70 rfl))) (mvT hZ (ow hw 70 rfl)) (mvT hZ (ow hw 69 rfl)) (by decide) (backOf (W := 2) (rm9 l Z ar hw [] sh _ h0 n0 O0 pf3) hZ (ow hw 71 rfl) (ow hw 7 rfl) (by decide) (by decide)) q3a q3c (g := (mkF m 9 #[rv a0, iv (1 : Int32), iv p2] [(.ref sh), (.int (1 : Int32)), (.ref ca)])) rfl (by rw [hml]; rfl) (Steps.refl _) (argsL := []) (rest := [(.int (1 : Int32)), (.ref ca)]) (lenOf pd_2 rfl) rfl (by show 2 * 0 + _ ≤ _; exact Nat.le_of_eq rfl) (hb hby d10_9) (fun _ _ => ⟨rfl, e2, (by decide : 0 + 0 ≤ _), (by decide : 0 + 0 ≤ _)⟩)
 dsimp only [Pt.U, Pt.locs, Pt.cells, Pt.slots] at X3 l3 y3 z3 st3 hQ3
 subst l3 y3 z3
 obtain ⟨rfl, N3q, e3⟩ := hQ3
 have N3 := Fr.app N0 N3q
 obtain ⟨cl4, Ar4, q4, S4, N4, H4, G4⟩ := id pf5
 have hin4 := own_in ((2 : Int32) + p2) S4 (own_b2_2 hp2)
 have hat4 : cl4.slots[(((2 : Int32) + p2)).toNatClampNeg]? = some (.long (sJ2 p2 k2 k3)) := Has.at H4 hin4 (own_gJ2_2 hp2)
 obtain ⟨fs, hr, hrun, hended, hW, hsame⟩ := X3.leave (v := some (.long (sJ2 p2 k2 k3))) (fun h => by rw [Bd.returns] at h; cases h) hlk
 subst hS0
 refine ⟨_, _, pre0 _ ?_, hrun, hended, _, _, rfl, ?_, ⟨_, rfl⟩, hW, hsame.mono (by decide) (by decide)⟩
 ·
  refine XS.aloadN X0.here hx rfl (hb hby d10_0) rfl rfl ?_
  refine st1 _ ?_
  refine XS.iloadN X1.here hx rfl (hb hby d10_4) rfl ?_
  refine XS.aloadN X1.here hx rfl (hb hby d10_5) rfl rfl ?_
  refine st2 _ ?_
  refine st3.trans ?_
  refine XS.imul X3.here hx rfl (hb hby d10_12) rfl ?_
  refine XS.iloadN X3.here hx rfl (hb hby d10_13) rfl ?_
  refine XS.iadd X3.here hx rfl (hb hby d10_14) rfl ?_
  refine X3.laload hx (j := ((2 : Int32) + p2)) (v := (.long (sJ2 p2 k2 k3))) (by rw [e3]; exact Ar4.1) (State.isArrayOf_alike hZ.alike Ar4.2.1) Ar4.2.2 hin4 hat4 (g := (mkF m 15 #[rv a0, iv (1 : Int32), iv p2] [(.int ((2 : Int32) + p2)), (.ref ca)])) rfl rfl (hb hby d10_15) _ ?_
  exact retOut X3 hx (t := .long) (i := .lreturn) Bd.returns rfl (Or.inr (Or.inl ⟨rfl, rfl, _, rfl⟩)) (hb hby d10_16) hr
 ·
  show Q10_2_1 Z a0 p2 sh ca kc k0 k1 k2 k3 h0 n0 _ T3.heap _
  rw [e3]
  exact ⟨rfl, N3, rfl⟩

theorem ef_1_3 (m : MethodId) (a0 : Addr) : entryFrame m #[(.ref a0), (.int (2 : Int32)), (.int (3 : Int32))] 3 = mkF m 0 #[rv a0, iv (2 : Int32), iv (3 : Int32)] [] := by first | (simp [entryFrame, mkF, argsToLocals, Value.category]; done) | rfl
def Q1_3 (Z : State) (a0 : Addr) (h0 : Heap) (n0 : Nat) (v : Option Value) (h : Heap) (L : List Loc) : Prop := v = none ∧ Fr n0 L ∧ Keep h0 h [a0] ∧ Exa Z h a0 "com/example/filters_under_siege/filtersundersiege/SketchShape" ∧ Fld Z h a0 "com/example/filters_under_siege/filtersundersiege/SketchShape" "rows" "I" (.int (2 : Int32)) ∧ Fld Z h a0 "com/example/filters_under_siege/filtersundersiege/SketchShape" "width" "I" (.int (3 : Int32))
abbrev R1_3 : Room := ({ frames := 2, cells := 0, slots := 0, locals := 24 } : Room)
set_option maxRecDepth 65536 in
set_option maxHeartbeats 40000000 in
theorem rm1_3 (l : Launch) (Z : State) (ar : Array Value) (hw : ∀ d ∈ tables_1, d.before ar Z = true) (ws : List Jvm.Cond) (a0 : Addr) (h0 : Heap) (n0 : Nat) (O0 : Old Z n0 h0) (pf0 : Exa Z h0 a0 "com/example/filters_under_siege/filtersundersiege/SketchShape") (pf1 : Fld Z h0 a0 "com/example/filters_under_siege/filtersundersiege/SketchShape" "rows" "I" (.int (0 : Int32))) (pf2 : Fld Z h0 a0 "com/example/filters_under_siege/filtersundersiege/SketchShape" "width" "I" (.int (0 : Int32))) (pf3 : n0 ≤ a0) :
    MetFree l y1 (head1 (Jvm.Cond.code y1 prog_39_method_1_code 3 none :: ws) R1_3) (fun a U => a = #[(.ref a0), (.int (2 : Int32)), (.int (3 : Int32))] ∧ Z.Warmed39 U.vm ∧ U.heap = h0) (fun _ _ _ _ _ => True) (fun _ U o U' => ∃ v L, o = .returned v ∧ Q1_3 Z a0 h0 n0 v U'.heap L ∧ FrameEnd U o U' L R1_3.cells R1_3.slots) := by
 refine MetFree.of_bodySF (plainFor_of_name pn_2) hisR ?_
 intro p e s m args below meth c s₁ Bd hml0 hP hK
 obtain ⟨rfl, hZ, hh⟩ := hP
 have hx := Bd.exec
 have hby := Bd.bytes
 have hml : c.maxLocals = 3 := hml0
 have hown : s.vm.findClass "com/example/filters_under_siege/filtersundersiege/SketchShape" = some m.cls := findClass_of_methodNamed Bd.named
 have hnm := (name_of_methodNamed Bd.named Bd.method).1
 have hlk : meth.locks = false := by first | assumption | exact BodyLoose.notSynchronized (by assumption) | exact Body.notSynchronized (by assumption)
 have X0 : Stand p l e R1_3 s m #[(.ref a0), (.int (2 : Int32)), (.int (3 : Int32))] below meth c s₁ [] 0 0 := Stand.of_body Bd
 have e0 : s₁.heap = h0 := by rw [← hh, Bd.state]; rfl
 have N0 := Fr.nil n0
 have Z0 : n0 ≤ h0.size := Nat.le_trans (Nat.le_of_eq O0.1.symm) O0.2.1
 obtain ⟨S0, hS0⟩ : ∃ z, z = s₁.setTop (entryFrame m #[(.ref a0), (.int (2 : Int32)), (.int (3 : Int32))] 3) := ⟨_, rfl⟩
 have pre0 : ∀ tg, AT p e below s₁ m 0 #[rv a0, iv (2 : Int32), iv (3 : Int32)] [] tg → Steps p.tables e below S0 tg := fun tg kg => by rw [hS0]; exact castTop (ef_1_3 m a0) kg
 obtain ⟨_, _, ⟨T1, L1, k1, n1⟩, -, X1, ⟨Lc1, hQ1, l1, y1, z1⟩, st1⟩ := X0.specialBack hx (y := y2) rfl hown (mvT hZ (ow hw 11 rfl)) (mvT hZ (ow hw 12 rfl)) (mvT hZ (ow hw 15 rfl)) (by decide) (backOf (W := 0) (rm2 l Z ar hw [] a0 h0 n0 O0) hZ (ow hw 15 rfl) (ow hw 14 rfl) (by decide) (by decide)) (g := (mkF m 1 #[rv a0, iv (2 : Int32), iv (3 : Int32)] [(.ref a0)])) rfl (by rw [hml]; rfl) (Steps.refl _) (a := a0) (argsL := []) (rest := []) (lenOf pd_0 rfl) rfl (by show 2 * 0 + _ ≤ _; exact Nat.le_of_eq rfl) (hb hby d1_1) (fun _ _ => ⟨rfl, e0, (by decide : 0 + 0 ≤ _), (by decide : 0 + 0 ≤ _)⟩)
 dsimp only [Pt.U, Pt.locs, Pt.cells, Pt.slots] at X1 l1 y1 z1 st1 hQ1
 subst l1 y1 z1
 obtain ⟨rfl, N1q, e1⟩ := hQ1
 have N1 := Fr.app N0 N1q
 obtain ⟨T2, h2, X2, e2, W2, st2⟩ := putF X1 hx hZ hown (host := "") (Or.inl (ow hw 20 rfl)) Via.refl e1 pf1 pf0 (Or.inr ⟨(ow hw 21 rfl), rfl, hnm⟩) (ow hw 6 rfl) (ty := .int) (by decide) rfl rfl (g := (mkF m 71 #[rv a0, iv (2 : Int32), iv (3 : Int32)] [(.int (2 : Int32)), (.ref a0)])) rfl rfl (hb hby d1_71)
 have E2_3 := pf0.wr W2
 have F2_4 : Fld Z h2 a0 "com/example/filters_under_siege/filtersundersiege/SketchShape" "rows" "I" (.int (2 : Int32)) := pf1.same W2
 have F2_5 := pf2.other W2 (Or.inr (slot_ne (Or.inr (ow hw 23 rfl)) (Or.inr (ow hw 21 rfl)) (by decide) (t := .int) (t' := .int) (by decide) (by decide)))
 have K2 := (Keep.refl h0 [a0]).wr W2 (Or.inl (List.mem_of_getElem? (i := 0) rfl))
 have O2 := O0.wr W2 pf3
 have N2 := Fr.snoc X2 N1 pf3
 obtain ⟨T6, h6, X6, e6, W6, st6⟩ := putF X2 hx hZ hown (host := "") (Or.inl (ow hw 22 rfl)) Via.refl e2 F2_5 E2_3 (Or.inr ⟨(ow hw 23 rfl), rfl, hnm⟩) (ow hw 6 rfl) (ty := .int) (by decide) rfl rfl (g := (mkF m 76 #[rv a0, iv (2 : Int32), iv (3 : Int32)] [(.int (3 : Int32)), (.ref a0)])) rfl rfl (hb hby d1_76)
 have E6_7 := E2_3.wr W6
 have F6_8 := F2_4.other W6 (Or.inr (slot_ne (Or.inr (ow hw 21 rfl)) (Or.inr (ow hw 23 rfl)) (by decide) (t := .int) (t' := .int) (by decide) (by decide)))
 have F6_9 : Fld Z h6 a0 "com/example/filters_under_siege/filtersundersiege/SketchShape" "width" "I" (.int (3 : Int32)) := F2_5.same W6
 have K6 := K2.wr W6 (Or.inl (List.mem_of_getElem? (i := 0) rfl))
 have O6 := O2.wr W6 pf3
 have N6 := Fr.snoc X6 N2 pf3
 obtain ⟨fs, hr, hrun, hended, hW, hsame⟩ := X6.leave (v := none) (fun _ => rfl) hlk
 subst hS0
 refine ⟨_, _, pre0 _ ?_, hrun, hended, _, _, rfl, ?_, ⟨_, rfl⟩, hW, hsame.mono (by decide) (by decide)⟩
 ·
  refine XS.aloadN X0.here hx rfl (hb hby d1_0) rfl rfl ?_
  refine st1.trans ?_
  refine XS.iloadN X1.here hx rfl (hb hby d1_4) rfl ?_
  refine XS.iconst X1.here hx rfl (hb hby d1_5) ?_
  show AT p e below T1 m 6 #[rv a0, iv (2 : Int32), iv (3 : Int32)] [(.int (1 : Int32)), (.int (2 : Int32))] _
  refine XS.icmpYes X1.here hx rfl (pc0 := 6) (pc' := 23) rfl (hb hby d1_6) rfl (XT.ii_ge_t ((by decide) : ¬ ((2 : Int32) < (1 : Int32)))) (by decide) (by decide) ?_
  refine XS.iloadN X1.here hx rfl (hb hby d1_23) rfl ?_
  refine XS.iconst X1.here hx rfl (hb hby d1_24) ?_
  show AT p e below T1 m 25 #[rv a0, iv (2 : Int32), iv (3 : Int32)] [(.int (1 : Int32)), (.int (3 : Int32))] _
  refine XS.icmpYes X1.here hx rfl (pc0 := 25) (pc' := 42) rfl (hb hby d1_25) rfl (XT.ii_ge_t ((by decide) : ¬ ((3 : Int32) < (1 : Int32)))) (by decide) (by decide) ?_
  refine XS.iloadN X1.here hx rfl (hb hby d1_42) rfl ?_
  refine XS.i2l X1.here hx rfl (hb hby d1_43) rfl ?_
  refine XS.iloadN X1.here hx rfl (hb hby d1_44) rfl ?_
  refine XS.i2l X1.here hx rfl (hb hby d1_45) rfl ?_
  refine XS.lmul X1.here hx rfl (hb hby d1_46) rfl ?_
  refine X1.ldc2Long hx hown (mvT hZ (ow hw 19 rfl)) (g := (mkF m 47 #[rv a0, iv (2 : Int32), iv (3 : Int32)] [(.long (6 : Int64))])) rfl (hb hby d1_47) _ ?_
  refine XS.lcmp X1.here hx rfl (hb hby d1_50) rfl ?_
  show AT p e below T1 m 51 #[rv a0, iv (2 : Int32), iv (3 : Int32)] [(.int (XT.cmpL (6 : Int64) (1073741824 : Int64)))] _
  refine XS.ifYes X1.here hx rfl (pc0 := 51) (pc' := 69) rfl (hb hby d1_51) rfl (XT.ll_le_t ((by decide) : ¬ ((1073741824 : Int64) < (6 : Int64)))) (by decide) (by decide) ?_
  refine XS.aloadN X1.here hx rfl (hb hby d1_69) rfl rfl ?_
  refine XS.iloadN X1.here hx rfl (hb hby d1_70) rfl ?_
  refine st2 _ ?_
  refine XS.aloadN X2.here hx rfl (hb hby d1_74) rfl rfl ?_
  refine XS.iloadN X2.here hx rfl (hb hby d1_75) rfl ?_
  refine st6 _ ?_
  exact X6.returnOut hx Bd.returns (hb hby d1_79) hr
 ·
  show Q1_3 Z a0 h0 n0 _ T6.heap _
  rw [e6]
  exact ⟨rfl, N6, K6, E6_7, F6_8, F6_9⟩

theorem ef_7_3 (m : MethodId) (a0 : Addr) : entryFrame m #[(.ref a0)] 1 = mkF m 0 #[rv a0] [] := by first | (simp [entryFrame, mkF, argsToLocals, Value.category]; done) | rfl
def Q7_3 (Z : State) (a0 : Addr) (h0 : Heap) (n0 : Nat) (v : Option Value) (h : Heap) (L : List Loc) : Prop := v = some (.int (6 : Int32)) ∧ Fr n0 L ∧ h = h0
abbrev R7_3 : Room := ({ frames := 0, cells := 0, slots := 0, locals := 0 } : Room)
set_option maxRecDepth 65536 in
set_option maxHeartbeats 40000000 in
theorem rm7_3 (l : Launch) (Z : State) (ar : Array Value) (hw : ∀ d ∈ tables_1, d.before ar Z = true) (ws : List Jvm.Cond) (a0 : Addr) (h0 : Heap) (n0 : Nat) (O0 : Old Z n0 h0) (pf0 : Fld Z h0 a0 "com/example/filters_under_siege/filtersundersiege/SketchShape" "rows" "I" (.int (2 : Int32))) (pf1 : Fld Z h0 a0 "com/example/filters_under_siege/filtersundersiege/SketchShape" "width" "I" (.int (3 : Int32))) :
    MetFree l y7 (head1 (Jvm.Cond.code y7 prog_39_method_2_code 1 (some .int) :: ws) R7_3) (fun a U => a = #[(.ref a0)] ∧ Z.Warmed39 U.vm ∧ U.heap = h0) (fun _ _ _ _ _ => True) (fun _ U o U' => ∃ v L, o = .returned v ∧ Q7_3 Z a0 h0 n0 v U'.heap L ∧ FrameEnd U o U' L R7_3.cells R7_3.slots) := by
 refine MetFree.of_bodySF (plainFor_of_name pn_2) hisR ?_
 intro p e s m args below meth c s₁ Bd hml0 hP hK
 obtain ⟨rfl, hZ, hh⟩ := hP
 have hx := Bd.exec
 have hby := Bd.bytes
 have hml : c.maxLocals = 1 := hml0
 have hown : s.vm.findClass "com/example/filters_under_siege/filtersundersiege/SketchShape" = some m.cls := findClass_of_methodNamed Bd.named
 have hnm := (name_of_methodNamed Bd.named Bd.method).1
 have hlk : meth.locks = false := by first | assumption | exact BodyLoose.notSynchronized (by assumption) | exact Body.notSynchronized (by assumption)
 have X0 : Stand p l e R7_3 s m #[(.ref a0)] below meth c s₁ [] 0 0 := Stand.of_body Bd
 have e0 : s₁.heap = h0 := by rw [← hh, Bd.state]; rfl
 have N0 := Fr.nil n0
 have Z0 : n0 ≤ h0.size := Nat.le_trans (Nat.le_of_eq O0.1.symm) O0.2.1
 obtain ⟨S0, hS0⟩ : ∃ z, z = s₁.setTop (entryFrame m #[(.ref a0)] 1) := ⟨_, rfl⟩
 have pre0 : ∀ tg, AT p e below s₁ m 0 #[rv a0] [] tg → Steps p.tables e below S0 tg := fun tg kg => by rw [hS0]; exact castTop (ef_7_3 m a0) kg
 obtain ⟨T1, X1, e1, st1⟩ := getF X0 hx hZ hown (host := "") (Or.inl (ow hw 20 rfl)) Via.refl e0 pf0 (g := (mkF m 1 #[rv a0] [(.ref a0)])) rfl rfl (hb hby d7_1)
 obtain ⟨T2, X2, e2, st2⟩ := getF X1 hx hZ hown (host := "") (Or.inl (ow hw 22 rfl)) Via.refl e1 pf1 (g := (mkF m 5 #[rv a0] [(.ref a0), (.int (2 : Int32))])) rfl rfl (hb hby d7_5)
 obtain ⟨fs, hr, hrun, hended, hW, hsame⟩ := X2.leave (v := some (.int (6 : Int32))) (fun h => by rw [Bd.returns] at h; cases h) hlk
 subst hS0
 refine ⟨_, _, pre0 _ ?_, hrun, hended, _, _, rfl, ?_, ⟨_, rfl⟩, hW, hsame.mono (by decide) (by decide)⟩
 ·
  refine XS.aloadN X0.here hx rfl (hb hby d7_0) rfl rfl ?_
  refine st1 _ ?_
  refine XS.aloadN X1.here hx rfl (hb hby d7_4) rfl rfl ?_
  refine st2 _ ?_
  refine XS.imul X2.here hx rfl (hb hby d7_8) rfl ?_
  exact retOut X2 hx (t := .int) (i := .ireturn) Bd.returns rfl (Or.inl ⟨rfl, Or.inl rfl, _, rfl⟩) (hb hby d7_9) hr
 ·
  show Q7_3 Z a0 h0 n0 _ T2.heap _
  rw [e2]
  exact ⟨rfl, N0, rfl⟩

theorem ef_5_3 (m : MethodId) (a0 : Addr) (a1 : Addr) (a2 : Addr) : entryFrame m #[(.ref a0), (.ref a1), (.ref a2)] 3 = mkF m 0 #[rv a0, rv a1, rv a2] [] := by first | (simp [entryFrame, mkF, argsToLocals, Value.category]; done) | rfl
def Q5_3 (Z : State) (a0 : Addr) (a1 : Addr) (a2 : Addr) (h0 : Heap) (n0 : Nat) (v : Option Value) (h : Heap) (L : List Loc) : Prop := ∃ (fa : Addr) (ca : Addr) (kf : ClassId) (kc : ClassId), v = none ∧ Fr n0 L ∧ Keep h0 h [a0] ∧ Exa Z h a0 "com/example/filters_under_siege/filtersundersiege/KeeperPairs" ∧ Fld Z h a0 "com/example/filters_under_siege/filtersundersiege/KeeperPairs" "shape" "Lcom/example/filters_under_siege/filtersundersiege/SketchShape;" (.ref a1) ∧ Fld Z h a0 "com/example/filters_under_siege/filtersundersiege/KeeperPairs" "knocksDown" "Ljava/util/function/LongPredicate;" (.ref a2) ∧ Fld Z h a0 "com/example/filters_under_siege/filtersundersiege/KeeperPairs" "fingerprints" "[I" (.ref fa) ∧ Fld Z h a0 "com/example/filters_under_siege/filtersundersiege/KeeperPairs" "counts" "[J" (.ref ca) ∧ Arv Z h fa kf .int (6 : Int32) [(.int (0 : Int32)), (.int (0 : Int32)), (.int (0 : Int32)), (.int (0 : Int32)), (.int (0 : Int32)), (.int (0 : Int32))] (.int (0 : Int32)) ∧ Arv Z h ca kc .long (6 : Int32) [(.long (0 : Int64)), (.long (0 : Int64)), (.long (0 : Int64)), (.long (0 : Int64)), (.long (0 : Int64)), (.long (0 : Int64))] (.long (0 : Int64)) ∧ h0.size ≤ fa ∧ h0.size ≤ ca ∧ Exa Z h fa "[I" ∧ Exa Z h ca "[J"
abbrev R5_3 : Room := ({ frames := 1, cells := 4, slots := 36, locals := 14 } : Room)
set_option maxRecDepth 65536 in
set_option maxHeartbeats 40000000 in
theorem rm5_3 (l : Launch) (Z : State) (ar : Array Value) (hw : ∀ d ∈ tables_1, d.before ar Z = true) (ws : List Jvm.Cond) (a0 : Addr) (a1 : Addr) (a2 : Addr) (h0 : Heap) (n0 : Nat) (O0 : Old Z n0 h0) (hEL : EW Z ar EL0) (pf0 : Exa Z h0 a0 "com/example/filters_under_siege/filtersundersiege/KeeperPairs") (pf1 : Fld Z h0 a0 "com/example/filters_under_siege/filtersundersiege/KeeperPairs" "shape" "Lcom/example/filters_under_siege/filtersundersiege/SketchShape;" .null) (pf2 : Fld Z h0 a0 "com/example/filters_under_siege/filtersundersiege/KeeperPairs" "fingerprints" "[I" .null) (pf3 : Fld Z h0 a0 "com/example/filters_under_siege/filtersundersiege/KeeperPairs" "counts" "[J" .null) (pf4 : Fld Z h0 a0 "com/example/filters_under_siege/filtersundersiege/KeeperPairs" "knocksDown" "Ljava/util/function/LongPredicate;" .null) (pf5 : n0 ≤ a0) (pf6 : Exa Z h0 a1 "com/example/filters_under_siege/filtersundersiege/SketchShape") (pf7 : Fld Z h0 a1 "com/example/filters_under_siege/filtersundersiege/SketchShape" "rows" "I" (.int (2 : Int32))) (pf8 : Fld Z h0 a1 "com/example/filters_under_siege/filtersundersiege/SketchShape" "width" "I" (.int (3 : Int32))) (pf9 : a0 ≠ a1) :
    MetFree l y5 (head1 (Jvm.Cond.code y5 prog_26_method_3_code 3 none :: ws) R5_3) (fun a U => a = #[(.ref a0), (.ref a1), (.ref a2)] ∧ Z.Warmed39 U.vm ∧ U.heap = h0 ∧ CHv Z EL0 U.vm h0) (fun _ _ _ _ _ => True) (fun _ U o U' => ∃ v L, o = .returned v ∧ Q5_3 Z a0 a1 a2 h0 n0 v U'.heap L ∧ CHr Z EL0 U.vm U.heap U'.vm U'.heap ∧ ReturnedEndW U o U' L R5_3.cells R5_3.slots) := by
 refine MetFree.of_bodySF (plainFor_of_name pn_3) hisR ?_
 intro p e s m args below meth c s₁ Bd hml0 hP hK
 obtain ⟨rfl, hZ, hh, hCH⟩ := hP
 have hx := Bd.exec
 have hby := Bd.bytes
 have hml : c.maxLocals = 3 := hml0
 have hown : s.vm.findClass "com/example/filters_under_siege/filtersundersiege/KeeperPairs" = some m.cls := findClass_of_methodNamed Bd.named
 have hnm := (name_of_methodNamed Bd.named Bd.method).1
 have hlk : meth.locks = false := by first | assumption | exact BodyLoose.notSynchronized (by assumption) | exact Body.notSynchronized (by assumption)
 have X0 : Stand p l e R5_3 (s.setVm s.vm) m #[(.ref a0), (.ref a1), (.ref a2)] below meth c s₁ [] 0 0 := Stand.of_body Bd
 have e0 : s₁.heap = h0 := by rw [← hh, Bd.state]; rfl
 have N0 := Fr.nil n0
 have Z0 : n0 ≤ h0.size := Nat.le_trans (Nat.le_of_eq O0.1.symm) O0.2.1
 obtain ⟨S0, hS0⟩ : ∃ z, z = s₁.setTop (entryFrame m #[(.ref a0), (.ref a1), (.ref a2)] 3) := ⟨_, rfl⟩
 have pre0 : ∀ tg, AT p e below s₁ m 0 #[rv a0, rv a1, rv a2] [] tg → Steps p.tables e below S0 tg := fun tg kg => by rw [hS0]; exact castTop (ef_5_3 m a0 a1 a2) kg
 have hS : s.Since s.vm 0 := (State.WarmedH.refl s).since 0
 have hk : 0 ≤ h0.size := Nat.zero_le _
 have CR0 : CHr Z EL0 s.vm h0 s.vm h0 := CHr.refl hCH
 obtain ⟨T1, X1, e1, st1⟩ := initO X0 hx hZ hown (ow hw 33 rfl) (ow hw 17 rfl) (ow hw 18 rfl) e0 (g := (mkF m 1 #[rv a0, rv a1, rv a2] [(.ref a0)])) rfl (by rw [hml]; rfl) rfl (hb hby d5_1) (by decide) (W := 0) (by show 2 * 0 + _ ≤ _; exact Nat.le_of_eq rfl) (by decide)
 obtain ⟨al2, T2, h2, q2, X2, e2, E2, hS, hk, hZ, hown, CRq2, Li2, st2⟩ := ldcOH X1 hx hZ hown (ow hw 34 rfl) (own_sa hw) e1 hS hk hEL CR0.1 (g := (mkF m 6 #[rv a0, rv a1, rv a2] [(.ref a1), (.ref a0)])) rfl (hb hby d5_6) (n := 20) (by decide) (by decide) (by decide) (by decide)
 have E2_3 := pf0.ext E2
 have F2_4 := pf1.ext E2
 have F2_5 := pf2.ext E2
 have F2_6 := pf3.ext E2
 have F2_7 := pf4.ext E2
 have E2_8 := pf6.ext E2
 have F2_9 := pf7.ext E2
 have F2_10 := pf8.ext E2
 have K2 := (Keep.refl h0 [a0]).ext E2
 have O2 : Old Z n0 h2 := O0.ext E2
 have CR2 : CHr Z EL0 s.vm h0 T2.vm h2 := CR0.trans CRq2
 obtain ⟨_, _, ⟨T11, L11, k11, n11⟩, -, X11, ⟨Lc11, hQ11, l11, y11, z11⟩, st11⟩ := Jvm.LawKit.callS X2 hx (y := y6) hown (mvT hZ (ow hw 42 rfl)) (mvT hZ (ow hw 43 rfl)) (mvT hZ (ow hw 44 rfl)) (mvT hZ (ow hw 45 rfl)) (by decide) (backOf (W := 1) (rm6 l Z ar hw [] a1 al2 h2 n0 O2) hZ (ow hw 45 rfl) (ow hw 44 rfl) (by decide) (by decide)) (g := (mkF m 8 #[rv a0, rv a1, rv a2] [(.ref al2), (.ref a1), (.ref a0)])) rfl (by rw [hml]; rfl) (argsL := [(.ref a1), (.ref al2)]) (rest := [(.ref a0)]) (lenOf pd_1 rfl) rfl (by show 2 * 0 + _ ≤ _; exact Nat.le_of_eq rfl) (hb hby d5_8) (fun _ _ => ⟨rfl, e2, (by decide : 2 + 0 ≤ _), (by decide : 24 + 0 ≤ _)⟩)
 dsimp only [Pt.U, Pt.locs, Pt.cells, Pt.slots] at X11 l11 y11 z11 st11 hQ11
 subst l11 y11 z11
 obtain ⟨rfl, N11q, e11⟩ := hQ11
 have N11 := Fr.app N0 N11q
 obtain ⟨T12, X12, e12, st12⟩ := castY X11 hx hZ hown (ow hw 46 rfl) e11 (Ins.self E2_8) (g := (mkF m 11 #[rv a0, rv a1, rv a2] [(.ref a1), (.ref a0)])) rfl rfl (hb hby d5_11)
 obtain ⟨T13, h13, X13, e13, W13, st13⟩ := putF X12 hx hZ hown (host := "") (Or.inl (ow hw 48 rfl)) Via.refl e12 F2_4 E2_3 (Or.inr ⟨(ow hw 49 rfl), rfl, hnm⟩) (ow hw 3 rfl) (ty := (.object "com/example/filters_under_siege/filtersundersiege/SketchShape")) (by decide) rfl rfl (g := (mkF m 14 #[rv a0, rv a1, rv a2] [(.ref a1), (.ref a0)])) rfl rfl (hb hby d5_14)
 have E13_14 := E2_3.wr W13
 have F13_15 : Fld Z h13 a0 "com/example/filters_under_siege/filtersundersiege/KeeperPairs" "shape" "Lcom/example/filters_under_siege/filtersundersiege/SketchShape;" (.ref a1) := F2_4.same W13
 have F13_16 := F2_5.other W13 (Or.inr (slot_ne (Or.inr (ow hw 58 rfl)) (Or.inr (ow hw 49 rfl)) (by decide) (t := (.array .int)) (t' := (.object "com/example/filters_under_siege/filtersundersiege/SketchShape")) (by decide) (by decide)))
 have F13_17 := F2_6.other W13 (Or.inr (slot_ne (Or.inr (ow hw 61 rfl)) (Or.inr (ow hw 49 rfl)) (by decide) (t := (.array .long)) (t' := (.object "com/example/filters_under_siege/filtersundersiege/SketchShape")) (by decide) (by decide)))
 have F13_18 := F2_7.other W13 (Or.inr (slot_ne (Or.inr (ow hw 51 rfl)) (Or.inr (ow hw 49 rfl)) (by decide) (t := (.object "java/util/function/LongPredicate")) (t' := (.object "com/example/filters_under_siege/filtersundersiege/SketchShape")) (by decide) (by decide)))
 have E13_19 := E2_8.wr W13
 have F13_20 := F2_9.other W13 (Or.inl (Ne.symm pf9))
 have F13_21 := F2_10.other W13 (Or.inl (Ne.symm pf9))
 have K13 := K2.wr W13 (Or.inl (List.mem_of_getElem? (i := 0) rfl))
 have O13 := O2.wr W13 pf5
 have CR13 : CHr Z EL0 s.vm h0 T2.vm h13 := CR2.trans (CHr.wr W13 own_sf0 CR2.1)
 have hk := Nat.le_trans hk (Keep.of_wr W13).1
 have N13 := Fr.snoc X13 N11 pf5
 obtain ⟨T22, h22, X22, e22, W22, st22⟩ := putF X13 hx hZ hown (host := "") (Or.inl (ow hw 50 rfl)) Via.refl e13 F13_18 E13_14 (Or.inr ⟨(ow hw 51 rfl), rfl, hnm⟩) (ow hw 3 rfl) (ty := (.object "java/util/function/LongPredicate")) (by decide) rfl rfl (g := (mkF m 19 #[rv a0, rv a1, rv a2] [(.ref a2), (.ref a0)])) rfl rfl (hb hby d5_19)
 have E22_23 := E13_14.wr W22
 have F22_24 := F13_15.other W22 (Or.inr (slot_ne (Or.inr (ow hw 49 rfl)) (Or.inr (ow hw 51 rfl)) (by decide) (t := (.object "com/example/filters_under_siege/filtersundersiege/SketchShape")) (t' := (.object "java/util/function/LongPredicate")) (by decide) (by decide)))
 have F22_25 := F13_16.other W22 (Or.inr (slot_ne (Or.inr (ow hw 58 rfl)) (Or.inr (ow hw 51 rfl)) (by decide) (t := (.array .int)) (t' := (.object "java/util/function/LongPredicate")) (by decide) (by decide)))
 have F22_26 := F13_17.other W22 (Or.inr (slot_ne (Or.inr (ow hw 61 rfl)) (Or.inr (ow hw 51 rfl)) (by decide) (t := (.array .long)) (t' := (.object "java/util/function/LongPredicate")) (by decide) (by decide)))
 have F22_27 : Fld Z h22 a0 "com/example/filters_under_siege/filtersundersiege/KeeperPairs" "knocksDown" "Ljava/util/function/LongPredicate;" (.ref a2) := F13_18.same W22
 have E22_28 := E13_19.wr W22
 have F22_29 := F13_20.other W22 (Or.inl (Ne.symm pf9))
 have F22_30 := F13_21.other W22 (Or.inl (Ne.symm pf9))
 have K22 := K13.wr W22 (Or.inl (List.mem_of_getElem? (i := 0) rfl))
 have O22 := O13.wr W22 pf5
 have CR22 : CHr Z EL0 s.vm h0 T2.vm h22 := CR13.trans (CHr.wr W22 own_sf0 CR13.1)
 have hk := Nat.le_trans hk (Keep.of_wr W22).1
 have N22 := Fr.snoc X22 N13 pf5
 obtain ⟨cq31, kq31, q31a, q31b, q31c⟩ := isOf hZ e22 E22_28
 obtain ⟨_, _, ⟨T31, L31, k31, n31⟩, -, X31, ⟨Lc31, hQ31, l31, y31, z31⟩, st31⟩ := X22.virtualBack hx (y := y7) (z := y7) hown (mvT hZ (ow hw 52 rfl)) (mvT hZ (ow hw 53 rfl)) (notFace_of_selects (args := #[]) (mvT hZ (ow hw 55 rfl))) (mvT hZ (ow hw 55 rfl)) (mvT hZ (ow hw 54 rfl)) (by decide) (backOf (W := 1) (rm7_3 l Z ar hw [] a1 h22 n0 O22 F22_29 F22_30) hZ (ow hw 56 rfl) (ow hw 7 rfl) (by decide) (by decide)) q31a q31c (g := (mkF m 24 #[rv a0, rv a1, rv a2] [(.ref a1), (.ref a0)])) rfl (by rw [hml]; rfl) (Steps.refl _) (argsL := []) (rest := [(.ref a0)]) (lenOf pd_2 rfl) rfl (by show 2 * 0 + _ ≤ _; exact Nat.le_of_eq rfl) (hb hby d5_24) (fun _ _ => ⟨rfl, e22, (by decide : 2 + 0 ≤ _), (by decide : 24 + 0 ≤ _)⟩)
 dsimp only [Pt.U, Pt.locs, Pt.cells, Pt.slots] at X31 l31 y31 z31 st31 hQ31
 subst l31 y31 z31
 obtain ⟨rfl, N31q, e31⟩ := hQ31
 have N31 := Fr.app N22 N31q
 obtain ⟨T32, h32, k32, X32, e32, E32, A32, B32, st32⟩ := newPE X31 hx hZ (ow hw 1 rfl) e31 (g := (mkF m 27 #[rv a0, rv a1, rv a2] [(.int (6 : Int32)), (.ref a0)])) rfl (hb hby d5_27) rfl (by decide) (cap := 6) (by decide) (by decide) (by decide) (by decide) (ad := "[I") (by decide)
 obtain ⟨b32, g32⟩ : ∃ z, z = h22.size := ⟨_, rfl⟩
 rw [← g32] at A32 B32 st32
 have ne32_33 : a0 ≠ b32 := Nat.ne_of_lt (Nat.lt_of_lt_of_le (E22_23).lt (Nat.le_of_eq g32.symm))
 have ne32_34 : a1 ≠ b32 := Nat.ne_of_lt (Nat.lt_of_lt_of_le (E22_28).lt (Nat.le_of_eq g32.symm))
 have gn32 : n0 ≤ b32 := Nat.le_trans (Nat.le_trans (Nat.le_of_eq O22.1.symm) O22.2.1) (Nat.le_of_eq g32.symm)
 have sz32 : h0.size ≤ b32 := Nat.le_trans K22.1 (Nat.le_of_eq g32.symm)
 have E32_35 := E22_23.ext E32
 have F32_36 := F22_24.ext E32
 have F32_37 := F22_25.ext E32
 have F32_38 := F22_26.ext E32
 have F32_39 := F22_27.ext E32
 have E32_40 := E22_28.ext E32
 have F32_41 := F22_29.ext E32
 have F32_42 := F22_30.ext E32
 have K32 := K22.ext E32
 have O32 := O22.ext E32
 have CR32 : CHr Z EL0 s.vm h0 T2.vm h32 := CR22.trans (CHr.ext E32 CR22.1)
 have hk := Nat.le_trans hk E32.1
 have V32_43 : Arv Z h32 b32 k32 .int (6 : Int32) [(.int (0 : Int32)), (.int (0 : Int32)), (.int (0 : Int32)), (.int (0 : Int32)), (.int (0 : Int32)), (.int (0 : Int32))] (.int (0 : Int32)) := (Arv.new A32 (by decide)).pad (pad_rep [] (.int (0 : Int32)) 6)
 obtain ⟨T44, h44, X44, e44, W44, st44⟩ := putF X32 hx hZ hown (host := "") (Or.inl (ow hw 57 rfl)) Via.refl e32 F32_37 E32_35 (Or.inr ⟨(ow hw 58 rfl), rfl, hnm⟩) (ow hw 3 rfl) (ty := (.array .int)) (by decide) rfl rfl (g := (mkF m 29 #[rv a0, rv a1, rv a2] [(.ref b32), (.ref a0)])) rfl rfl (hb hby d5_29)
 have E44_45 := E32_35.wr W44
 have F44_46 := F32_36.other W44 (Or.inr (slot_ne (Or.inr (ow hw 49 rfl)) (Or.inr (ow hw 58 rfl)) (by decide) (t := (.object "com/example/filters_under_siege/filtersundersiege/SketchShape")) (t' := (.array .int)) (by decide) (by decide)))
 have F44_47 : Fld Z h44 a0 "com/example/filters_under_siege/filtersundersiege/KeeperPairs" "fingerprints" "[I" (.ref b32) := F32_37.same W44
 have F44_48 := F32_38.other W44 (Or.inr (slot_ne (Or.inr (ow hw 61 rfl)) (Or.inr (ow hw 58 rfl)) (by decide) (t := (.array .long)) (t' := (.array .int)) (by decide) (by decide)))
 have F44_49 := F32_39.other W44 (Or.inr (slot_ne (Or.inr (ow hw 51 rfl)) (Or.inr (ow hw 58 rfl)) (by decide) (t := (.object "java/util/function/LongPredicate")) (t' := (.array .int)) (by decide) (by decide)))
 have E44_50 := E32_40.wr W44
 have F44_51 := F32_41.other W44 (Or.inl (Ne.symm pf9))
 have F44_52 := F32_42.other W44 (Or.inl (Ne.symm pf9))
 have V44_53 := V32_43.other W44 (Ne.symm ne32_33)
 have E44_54 := B32.wr W44
 have K44 := K32.wr W44 (Or.inl (List.mem_of_getElem? (i := 0) rfl))
 have O44 := O32.wr W44 pf5
 have CR44 : CHr Z EL0 s.vm h0 T2.vm h44 := CR32.trans (CHr.wr W44 own_sf0 CR32.1)
 have hk := Nat.le_trans hk (Keep.of_wr W44).1
 have N44 := Fr.snoc X44 N31 pf5
 obtain ⟨cq55, kq55, q55a, q55b, q55c⟩ := isOf hZ e44 E44_50
 obtain ⟨_, _, ⟨T55, L55, k55, n55⟩, -, X55, ⟨Lc55, hQ55, l55, y55, z55⟩, st55⟩ := X44.virtualBack hx (y := y7) (z := y7) hown (mvT hZ (ow hw 52 rfl)) (mvT hZ (ow hw 53 rfl)) (notFace_of_selects (args := #[]) (mvT hZ (ow hw 55 rfl))) (mvT hZ (ow hw 55 rfl)) (mvT hZ (ow hw 54 rfl)) (by decide) (backOf (W := 1) (rm7_3 l Z ar hw [] a1 h44 n0 O44 F44_51 F44_52) hZ (ow hw 56 rfl) (ow hw 7 rfl) (by decide) (by decide)) q55a q55c (g := (mkF m 34 #[rv a0, rv a1, rv a2] [(.ref a1), (.ref a0)])) rfl (by rw [hml]; rfl) (Steps.refl _) (argsL := []) (rest := [(.ref a0)]) (lenOf pd_2 rfl) rfl (by show 2 * 0 + _ ≤ _; exact Nat.le_of_eq rfl) (hb hby d5_34) (fun _ _ => ⟨rfl, e44, (by decide : 3 + 0 ≤ _), (by decide : 30 + 0 ≤ _)⟩)
 dsimp only [Pt.U, Pt.locs, Pt.cells, Pt.slots] at X55 l55 y55 z55 st55 hQ55
 subst l55 y55 z55
 obtain ⟨rfl, N55q, e55⟩ := hQ55
 have N55 := Fr.app N44 N55q
 obtain ⟨T56, h56, k56, X56, e56, E56, A56, B56, st56⟩ := newPE X55 hx hZ (ow hw 59 rfl) e55 (g := (mkF m 37 #[rv a0, rv a1, rv a2] [(.int (6 : Int32)), (.ref a0)])) rfl (hb hby d5_37) rfl (by decide) (cap := 6) (by decide) (by decide) (by decide) (by decide) (ad := "[J") (by decide)
 obtain ⟨b56, g56⟩ : ∃ z, z = h44.size := ⟨_, rfl⟩
 rw [← g56] at A56 B56 st56
 have ne56_57 : a0 ≠ b56 := Nat.ne_of_lt (Nat.lt_of_lt_of_le (E44_45).lt (Nat.le_of_eq g56.symm))
 have ne56_58 : a1 ≠ b56 := Nat.ne_of_lt (Nat.lt_of_lt_of_le (E44_50).lt (Nat.le_of_eq g56.symm))
 have ne56_59 : b32 ≠ b56 := Nat.ne_of_lt (Nat.lt_of_lt_of_le (V44_53).lt (Nat.le_of_eq g56.symm))
 have gn56 : n0 ≤ b56 := Nat.le_trans (Nat.le_trans (Nat.le_of_eq O44.1.symm) O44.2.1) (Nat.le_of_eq g56.symm)
 have sz56 : h0.size ≤ b56 := Nat.le_trans K44.1 (Nat.le_of_eq g56.symm)
 have E56_60 := E44_45.ext E56
 have F56_61 := F44_46.ext E56
 have F56_62 := F44_47.ext E56
 have F56_63 := F44_48.ext E56
 have F56_64 := F44_49.ext E56
 have E56_65 := E44_50.ext E56
 have F56_66 := F44_51.ext E56
 have F56_67 := F44_52.ext E56
 have V56_68 := V44_53.ext E56
 have E56_69 := E44_54.ext E56
 have K56 := K44.ext E56
 have O56 := O44.ext E56
 have CR56 : CHr Z EL0 s.vm h0 T2.vm h56 := CR44.trans (CHr.ext E56 CR44.1)
 have hk := Nat.le_trans hk E56.1
 have V56_70 : Arv Z h56 b56 k56 .long (6 : Int32) [(.long (0 : Int64)), (.long (0 : Int64)), (.long (0 : Int64)), (.long (0 : Int64)), (.long (0 : Int64)), (.long (0 : Int64))] (.long (0 : Int64)) := (Arv.new A56 (by decide)).pad (pad_rep [] (.long (0 : Int64)) 6)
 obtain ⟨T71, h71, X71, e71, W71, st71⟩ := putF X56 hx hZ hown (host := "") (Or.inl (ow hw 60 rfl)) Via.refl e56 F56_63 E56_60 (Or.inr ⟨(ow hw 61 rfl), rfl, hnm⟩) (ow hw 3 rfl) (ty := (.array .long)) (by decide) rfl rfl (g := (mkF m 39 #[rv a0, rv a1, rv a2] [(.ref b56), (.ref a0)])) rfl rfl (hb hby d5_39)
 have E71_72 := E56_60.wr W71
 have F71_73 := F56_61.other W71 (Or.inr (slot_ne (Or.inr (ow hw 49 rfl)) (Or.inr (ow hw 61 rfl)) (by decide) (t := (.object "com/example/filters_under_siege/filtersundersiege/SketchShape")) (t' := (.array .long)) (by decide) (by decide)))
 have F71_74 := F56_62.other W71 (Or.inr (slot_ne (Or.inr (ow hw 58 rfl)) (Or.inr (ow hw 61 rfl)) (by decide) (t := (.array .int)) (t' := (.array .long)) (by decide) (by decide)))
 have F71_75 : Fld Z h71 a0 "com/example/filters_under_siege/filtersundersiege/KeeperPairs" "counts" "[J" (.ref b56) := F56_63.same W71
 have F71_76 := F56_64.other W71 (Or.inr (slot_ne (Or.inr (ow hw 51 rfl)) (Or.inr (ow hw 61 rfl)) (by decide) (t := (.object "java/util/function/LongPredicate")) (t' := (.array .long)) (by decide) (by decide)))
 have E71_77 := E56_65.wr W71
 have F71_78 := F56_66.other W71 (Or.inl (Ne.symm pf9))
 have F71_79 := F56_67.other W71 (Or.inl (Ne.symm pf9))
 have V71_80 := V56_68.other W71 (Ne.symm ne32_33)
 have E71_81 := E56_69.wr W71
 have V71_82 := V56_70.other W71 (Ne.symm ne56_57)
 have E71_83 := B56.wr W71
 have K71 := K56.wr W71 (Or.inl (List.mem_of_getElem? (i := 0) rfl))
 have O71 := O56.wr W71 pf5
 have CR71 : CHr Z EL0 s.vm h0 T2.vm h71 := CR56.trans (CHr.wr W71 own_sf0 CR56.1)
 have hk := Nat.le_trans hk (Keep.of_wr W71).1
 have N71 := Fr.snoc X71 N55 pf5
 obtain ⟨fs, hr, hrun, hended, hRE⟩ := X71.leaveW hS (by rw [e71]; exact hk) (v := none) (fun _ => rfl)
 have CRf : CHr Z EL0 s.vm s.heap (T71.setFrames fs).vm (T71.setFrames fs).heap := by
   show CHr Z EL0 s.vm s.heap T71.vm T71.heap
   rw [hh, e71]
   exact CR71.trans (CHv.at X71 hZ hEL CR71.1)
 subst hS0
 refine ⟨_, _, pre0 _ ?_, hrun, hended, _, _, rfl, ?_, CRf, hRE.1, hRE.2.1, hRE.2.2.1, hRE.2.2.2.mono (by decide) (by decide)⟩
 ·
  refine XS.aloadN X0.here hx rfl (hb hby d5_0) rfl rfl ?_
  refine st1 _ ?_
  refine XS.aloadN X1.here hx rfl (hb hby d5_4) rfl rfl ?_
  refine XS.aloadN X1.here hx rfl (hb hby d5_5) rfl rfl ?_
  refine st2 _ ?_
  refine st11 _ ?_
  refine st12 _ ?_
  refine st13 _ ?_
  refine XS.aloadN X13.here hx rfl (hb hby d5_17) rfl rfl ?_
  refine XS.aloadN X13.here hx rfl (hb hby d5_18) rfl rfl ?_
  refine st22 _ ?_
  refine XS.aloadN X22.here hx rfl (hb hby d5_22) rfl rfl ?_
  refine XS.aloadN X22.here hx rfl (hb hby d5_23) rfl rfl ?_
  refine st31.trans ?_
  refine st32 _ ?_
  refine st44 _ ?_
  refine XS.aloadN X44.here hx rfl (hb hby d5_32) rfl rfl ?_
  refine XS.aloadN X44.here hx rfl (hb hby d5_33) rfl rfl ?_
  refine st55.trans ?_
  refine st56 _ ?_
  refine st71 _ ?_
  exact X71.returnOut hx Bd.returns (hb hby d5_42) hr
 ·
  show Q5_3 Z a0 a1 a2 h0 n0 _ T71.heap _
  rw [e71]
  exact ⟨b32, b56, k32, k56, rfl, N71, K71, E71_72, F71_73, F71_76, F71_74, F71_75, V71_80, V71_82, sz32, sz56, E71_81, E71_83⟩

theorem ef_4_3 (m : MethodId) (a0 : Addr) (a1 : Addr) : entryFrame m #[(.ref a0), (.ref a1)] 2 = mkF m 0 #[rv a0, rv a1] [] := by first | (simp [entryFrame, mkF, argsToLocals, Value.category]; done) | rfl
def Q4_3 (Z : State) (a0 : Addr) (a1 : Addr) (w_lam : Addr) (h0 : Heap) (n0 : Nat) (v : Option Value) (h : Heap) (L : List Loc) : Prop := ∃ (fa : Addr) (ca : Addr) (kf : ClassId) (kc : ClassId), v = none ∧ Fr n0 L ∧ Keep h0 h [a0] ∧ Exa Z h a0 "com/example/filters_under_siege/filtersundersiege/KeeperPairs" ∧ Fld Z h a0 "com/example/filters_under_siege/filtersundersiege/KeeperPairs" "shape" "Lcom/example/filters_under_siege/filtersundersiege/SketchShape;" (.ref a1) ∧ Fld Z h a0 "com/example/filters_under_siege/filtersundersiege/KeeperPairs" "knocksDown" "Ljava/util/function/LongPredicate;" (.ref w_lam) ∧ Fld Z h a0 "com/example/filters_under_siege/filtersundersiege/KeeperPairs" "fingerprints" "[I" (.ref fa) ∧ Fld Z h a0 "com/example/filters_under_siege/filtersundersiege/KeeperPairs" "counts" "[J" (.ref ca) ∧ Arv Z h fa kf .int (6 : Int32) [(.int (0 : Int32)), (.int (0 : Int32)), (.int (0 : Int32)), (.int (0 : Int32)), (.int (0 : Int32)), (.int (0 : Int32))] (.int (0 : Int32)) ∧ Arv Z h ca kc .long (6 : Int32) [(.long (0 : Int64)), (.long (0 : Int64)), (.long (0 : Int64)), (.long (0 : Int64)), (.long (0 : Int64)), (.long (0 : Int64))] (.long (0 : Int64)) ∧ h0.size ≤ fa ∧ h0.size ≤ ca ∧ Exa Z h fa "[I" ∧ Exa Z h ca "[J"
abbrev R4_3 : Room := ({ frames := 2, cells := 4, slots := 36, locals := 3074 } : Room)
set_option maxRecDepth 65536 in
set_option maxHeartbeats 40000000 in
theorem rm4_3 (l : Launch) (Z : State) (ar : Array Value) (hw : ∀ d ∈ tables_1, d.before ar Z = true) (ws : List Jvm.Cond) (a0 : Addr) (a1 : Addr) (h0 : Heap) (n0 : Nat) (O0 : Old Z n0 h0) (hEL : EW Z ar EL0) (HW : Wd Z w_lam k_lam) (pf0 : Exa Z h0 a0 "com/example/filters_under_siege/filtersundersiege/KeeperPairs") (pf1 : Fld Z h0 a0 "com/example/filters_under_siege/filtersundersiege/KeeperPairs" "shape" "Lcom/example/filters_under_siege/filtersundersiege/SketchShape;" .null) (pf2 : Fld Z h0 a0 "com/example/filters_under_siege/filtersundersiege/KeeperPairs" "fingerprints" "[I" .null) (pf3 : Fld Z h0 a0 "com/example/filters_under_siege/filtersundersiege/KeeperPairs" "counts" "[J" .null) (pf4 : Fld Z h0 a0 "com/example/filters_under_siege/filtersundersiege/KeeperPairs" "knocksDown" "Ljava/util/function/LongPredicate;" .null) (pf5 : n0 ≤ a0) (pf6 : Exa Z h0 a1 "com/example/filters_under_siege/filtersundersiege/SketchShape") (pf7 : Fld Z h0 a1 "com/example/filters_under_siege/filtersundersiege/SketchShape" "rows" "I" (.int (2 : Int32))) (pf8 : Fld Z h0 a1 "com/example/filters_under_siege/filtersundersiege/SketchShape" "width" "I" (.int (3 : Int32))) (pf9 : a0 ≠ a1) :
    MetFree l y4 (head1 (Jvm.Cond.code y4 prog_26_method_1_code 2 none :: ws) R4_3) (fun a U => a = #[(.ref a0), (.ref a1)] ∧ Z.Warmed39 U.vm ∧ U.heap = h0 ∧ CHv Z EL0 U.vm h0) (fun _ _ _ _ _ => True) (fun _ U o U' => ∃ v L, o = .returned v ∧ Q4_3 Z a0 a1 w_lam h0 n0 v U'.heap L ∧ CHr Z EL0 U.vm U.heap U'.vm U'.heap ∧ ReturnedEndW U o U' L R4_3.cells R4_3.slots) := by
 refine MetFree.of_bodySF (plainFor_of_name pn_3) hisR ?_
 intro p e s m args below meth c s₁ Bd hml0 hP hK
 obtain ⟨rfl, hZ, hh, hCH⟩ := hP
 have hx := Bd.exec
 have hby := Bd.bytes
 have hml : c.maxLocals = 2 := hml0
 have hown : s.vm.findClass "com/example/filters_under_siege/filtersundersiege/KeeperPairs" = some m.cls := findClass_of_methodNamed Bd.named
 have hnm := (name_of_methodNamed Bd.named Bd.method).1
 have hlk : meth.locks = false := by first | assumption | exact BodyLoose.notSynchronized (by assumption) | exact Body.notSynchronized (by assumption)
 have X0 : Stand p l e R4_3 (s.setVm s.vm) m #[(.ref a0), (.ref a1)] below meth c s₁ [] 0 0 := Stand.of_body Bd
 have e0 : s₁.heap = h0 := by rw [← hh, Bd.state]; rfl
 have N0 := Fr.nil n0
 have Z0 : n0 ≤ h0.size := Nat.le_trans (Nat.le_of_eq O0.1.symm) O0.2.1
 obtain ⟨S0, hS0⟩ : ∃ z, z = s₁.setTop (entryFrame m #[(.ref a0), (.ref a1)] 2) := ⟨_, rfl⟩
 have pre0 : ∀ tg, AT p e below s₁ m 0 #[rv a0, rv a1] [] tg → Steps p.tables e below S0 tg := fun tg kg => by rw [hS0]; exact castTop (ef_4_3 m a0 a1) kg
 have hS : s.Since s.vm 0 := (State.WarmedH.refl s).since 0
 have hk : 0 ≤ h0.size := Nat.zero_le _
 have CR0 : CHr Z EL0 s.vm h0 s.vm h0 := CHr.refl hCH
 obtain ⟨HLm, -⟩ := id HW
 have st1 := own_site X0 hx HLm hZ Bd.named (g := (mkF m 2 #[rv a0, rv a1] [(.ref a1), (.ref a0)])) rfl rfl (by rw [hml]; rfl) (hb hby d4_2) (W := 2) (by show 2 * 0 + _ ≤ _; exact Nat.le_of_eq rfl) (by decide)
 obtain ⟨_, _, ⟨T2, L2, k2, n2⟩, -, X2, hS2, hg2, ⟨Lc2, hQ2, l2, y2, z2, CRq2⟩, st2⟩ := X0.specialBackS hx (y := y5) rfl hown (mvT hZ (ow hw 30 rfl)) (mvT hZ (ow hw 31 rfl)) (mvT hZ (ow hw 32 rfl)) (by decide) (backOfSH (W := 0) (rm5_3 l Z ar hw [] a0 a1 w_lam h0 n0 O0 hEL pf0 pf1 pf2 pf3 pf4 pf5 pf6 pf7 pf8 pf9) hZ (ow hw 32 rfl) (ow hw 4 rfl) (by decide) (by decide) hEL CR0.1) (g := (mkF m 7 #[rv a0, rv a1] [(.ref w_lam), (.ref a1), (.ref a0)])) rfl (by rw [hml]; rfl) (Steps.refl _) (a := a0) (argsL := [(.ref a1), (.ref w_lam)]) (rest := []) (lenOf pd_3 rfl) rfl (by show 2 * 0 + _ ≤ _; exact Nat.le_of_eq rfl) (hb hby d4_7) (fun _ _ => ⟨rfl, e0, (by decide : 0 + 4 ≤ _), (by decide : 0 + 36 ≤ _)⟩)
 dsimp only [Pt.U, Pt.locs, Pt.cells, Pt.slots] at X2 l2 y2 z2 st2 hQ2 hS2 hg2 CRq2
 subst l2 y2 z2
 obtain ⟨X2, hS, hZ, hown⟩ := rebS hS (by rw [e0]; exact hk) X2 hS2 hg2 hZ hown
 have CR2 : CHr Z EL0 s.vm h0 T2.vm T2.heap := CR0.trans CRq2
 obtain ⟨fa_2, ca_2, kf_2, kc_2, rfl, N2q, Kq2, u2_0, u2_1, u2_2, u2_3, u2_4, u2_5, u2_6, u2_7, u2_8, u2_9, u2_10⟩ := hQ2
 have N2 := Fr.app N0 N2q
 have E2_3 := pf0.keep Kq2
 have E2_4 := pf6.keep Kq2
 have F2_5 := pf7.keep Kq2 (ninS (Ne.symm pf9) nin0)
 have F2_6 := pf8.keep Kq2 (ninS (Ne.symm pf9) nin0)
 have K2 := (Keep.refl h0 [a0]).trans Kq2 (allS (Or.inl (List.mem_of_getElem? (i := 0) rfl)) all0)
 have O2 := O0.keep Kq2 (allS pf5 all0)
 have hk := Nat.le_trans hk Kq2.1
 have hk := Nat.le_refl (Array.size T2.heap)
 have sz7 : h0.size ≤ fa_2 := Nat.le_trans (Keep.refl h0 [a0]).1 u2_7
 have gn7 : n0 ≤ fa_2 := Nat.le_trans (Nat.le_trans (Nat.le_of_eq O0.1.symm) O0.2.1) u2_7
 have ne8 : a0 ≠ fa_2 := Nat.ne_of_lt (Nat.lt_of_lt_of_le (pf0).lt u2_7)
 have ne9 : a1 ≠ fa_2 := Nat.ne_of_lt (Nat.lt_of_lt_of_le (pf6).lt u2_7)
 have sz10 : h0.size ≤ ca_2 := Nat.le_trans (Keep.refl h0 [a0]).1 u2_8
 have gn10 : n0 ≤ ca_2 := Nat.le_trans (Nat.le_trans (Nat.le_of_eq O0.1.symm) O0.2.1) u2_8
 have ne11 : a0 ≠ ca_2 := Nat.ne_of_lt (Nat.lt_of_lt_of_le (pf0).lt u2_8)
 have ne12 : a1 ≠ ca_2 := Nat.ne_of_lt (Nat.lt_of_lt_of_le (pf6).lt u2_8)
 obtain ⟨fs, hr, hrun, hended, hRE⟩ := X2.leaveW hS hk (v := none) (fun _ => rfl)
 have CRf : CHr Z EL0 s.vm s.heap (T2.setFrames fs).vm (T2.setFrames fs).heap := by
   show CHr Z EL0 s.vm s.heap T2.vm T2.heap
   rw [hh]
   exact CR2.trans (CHv.at X2 hZ hEL CR2.1)
 subst hS0
 refine ⟨_, _, pre0 _ ?_, hrun, hended, _, _, rfl, ?_, CRf, hRE.1, hRE.2.1, hRE.2.2.1, hRE.2.2.2.mono (by decide) (by decide)⟩
 ·
  refine XS.aloadN X0.here hx rfl (hb hby d4_0) rfl rfl ?_
  refine XS.aloadN X0.here hx rfl (hb hby d4_1) rfl rfl ?_
  refine st1 _ ?_
  refine st2.trans ?_
  exact X2.returnOut hx Bd.returns (hb hby d4_10) hr
 ·
  show Q4_3 Z a0 a1 w_lam h0 n0 _ T2.heap _
  exact ⟨fa_2, ca_2, kf_2, kc_2, rfl, N2, K2, E2_3, u2_1, u2_2, u2_3, u2_4, u2_5, u2_6, sz7, sz10, u2_9, u2_10⟩

theorem ef_8_3 (m : MethodId) (a0 : Addr) (a1 : Addr) (p2 : Int32) : entryFrame m #[(.ref a0), (.ref a1), (.int p2)] 5 = mkF m 0 #[rv a0, rv a1, iv p2, un, un] [] := by first | (simp [entryFrame, mkF, argsToLocals, Value.category]; done) | rfl
def Q8_3 (Z : State) (a0 : Addr) (a1 : Addr) (p2 : Int32) (sh : Addr) (kk : ClassId) (c0 : Int32) (c1 : Int32) (fa : Addr) (ca : Addr) (kf : ClassId) (kc : ClassId) (f0 : Int32) (f1 : Int32) (f2 : Int32) (f3 : Int32) (f4 : Int32) (f5 : Int32) (k0 : Int64) (k1 : Int64) (k2 : Int64) (k3 : Int64) (k4 : Int64) (k5 : Int64) (h0 : Heap) (n0 : Nat) (v : Option Value) (h : Heap) (L : List Loc) : Prop := v = none ∧ Fr n0 L ∧ Keep h0 h [fa, ca] ∧ Arv Z h fa kf .int (6 : Int32) [(.int (pI c0 (0 : Int32) (nf (sJ3 c0 k0 k1 k2) (sI3 c0 f0 f1 f2) p2) f0)), (.int (pI c0 (1 : Int32) (nf (sJ3 c0 k0 k1 k2) (sI3 c0 f0 f1 f2) p2) f1)), (.int (pI c0 (2 : Int32) (nf (sJ3 c0 k0 k1 k2) (sI3 c0 f0 f1 f2) p2) f2)), (.int (pI c1 (0 : Int32) (nf (sJ3 c1 k3 k4 k5) (sI3 c1 f3 f4 f5) p2) f3)), (.int (pI c1 (1 : Int32) (nf (sJ3 c1 k3 k4 k5) (sI3 c1 f3 f4 f5) p2) f4)), (.int (pI c1 (2 : Int32) (nf (sJ3 c1 k3 k4 k5) (sI3 c1 f3 f4 f5) p2) f5))] (.int (0 : Int32)) ∧ Arv Z h ca kc .long (6 : Int32) [(.long (pJ c0 (0 : Int32) (nc (sJ3 c0 k0 k1 k2) (sI3 c0 f0 f1 f2) p2) k0)), (.long (pJ c0 (1 : Int32) (nc (sJ3 c0 k0 k1 k2) (sI3 c0 f0 f1 f2) p2) k1)), (.long (pJ c0 (2 : Int32) (nc (sJ3 c0 k0 k1 k2) (sI3 c0 f0 f1 f2) p2) k2)), (.long (pJ c1 (0 : Int32) (nc (sJ3 c1 k3 k4 k5) (sI3 c1 f3 f4 f5) p2) k3)), (.long (pJ c1 (1 : Int32) (nc (sJ3 c1 k3 k4 k5) (sI3 c1 f3 f4 f5) p2) k4)), (.long (pJ c1 (2 : Int32) (nc (sJ3 c1 k3 k4 k5) (sI3 c1 f3 f4 f5) p2) k5))] (.long (0 : Int64))
abbrev R8_3 : Room := ({ frames := 2, cells := 0, slots := 0, locals := 27 } : Room)
set_option maxRecDepth 65536 in
set_option maxHeartbeats 40000000 in
theorem rm8_3 (l : Launch) (Z : State) (ar : Array Value) (hw : ∀ d ∈ tables_1, d.before ar Z = true) (ws : List Jvm.Cond) (a0 : Addr) (a1 : Addr) (p2 : Int32) (sh : Addr) (kk : ClassId) (c0 : Int32) (c1 : Int32) (fa : Addr) (ca : Addr) (kf : ClassId) (kc : ClassId) (f0 : Int32) (f1 : Int32) (f2 : Int32) (f3 : Int32) (f4 : Int32) (f5 : Int32) (k0 : Int64) (k1 : Int64) (k2 : Int64) (k3 : Int64) (k4 : Int64) (k5 : Int64) (h0 : Heap) (n0 : Nat) (O0 : Old Z n0 h0) (HW : Wd Z w_lam k_lam) (pf0 : Exa Z h0 a0 "com/example/filters_under_siege/filtersundersiege/KeeperPairs") (pf1 : Fld Z h0 a0 "com/example/filters_under_siege/filtersundersiege/KeeperPairs" "shape" "Lcom/example/filters_under_siege/filtersundersiege/SketchShape;" (.ref sh)) (pf2 : Exa Z h0 sh "com/example/filters_under_siege/filtersundersiege/SketchShape") (pf3 : Fld Z h0 sh "com/example/filters_under_siege/filtersundersiege/SketchShape" "width" "I" (.int (3 : Int32))) (pf4 : Fld Z h0 a0 "com/example/filters_under_siege/filtersundersiege/KeeperPairs" "fingerprints" "[I" (.ref fa)) (pf5 : Fld Z h0 a0 "com/example/filters_under_siege/filtersundersiege/KeeperPairs" "counts" "[J" (.ref ca)) (pf6 : Fld Z h0 a0 "com/example/filters_under_siege/filtersundersiege/KeeperPairs" "knocksDown" "Ljava/util/function/LongPredicate;" (.ref w_lam)) (pf7 : Exa Z h0 a1 "[I") (pf8 : Arv Z h0 a1 kk .int (2 : Int32) [(.int c0), (.int c1)] (.int (0 : Int32))) (pf9 : Exa Z h0 fa "[I") (pf10 : Exa Z h0 ca "[J") (pf11 : Arv Z h0 fa kf .int (6 : Int32) [(.int f0), (.int f1), (.int f2), (.int f3), (.int f4), (.int f5)] (.int (0 : Int32))) (pf12 : Arv Z h0 ca kc .long (6 : Int32) [(.long k0), (.long k1), (.long k2), (.long k3), (.long k4), (.long k5)] (.long (0 : Int64))) (pf13 : n0 ≤ fa) (pf14 : n0 ≤ ca) (pf15 : a1 ≠ fa) (hc0 : c0 = (0 : Int32) ∨ c0 = (1 : Int32) ∨ c0 = (2 : Int32)) (hc1 : c1 = (0 : Int32) ∨ c1 = (1 : Int32) ∨ c1 = (2 : Int32)) :
    MetFree l y8 (head1 (Jvm.Cond.code y8 prog_26_method_4_code 5 none :: ws) R8_3) (fun a U => a = #[(.ref a0), (.ref a1), (.int p2)] ∧ Z.Warmed39 U.vm ∧ U.heap = h0) (fun _ _ _ _ _ => True) (fun _ U o U' => ∃ v L, o = .returned v ∧ Q8_3 Z a0 a1 p2 sh kk c0 c1 fa ca kf kc f0 f1 f2 f3 f4 f5 k0 k1 k2 k3 k4 k5 h0 n0 v U'.heap L ∧ FrameEnd U o U' L R8_3.cells R8_3.slots) := by
 refine MetFree.of_bodySF (plainFor_of_name pn_3) hisR ?_
 intro p e s m args below meth c s₁ Bd hml0 hP hK
 obtain ⟨rfl, hZ, hh⟩ := hP
 have hx := Bd.exec
 have hby := Bd.bytes
 have hml : c.maxLocals = 5 := hml0
 have hown : s.vm.findClass "com/example/filters_under_siege/filtersundersiege/KeeperPairs" = some m.cls := findClass_of_methodNamed Bd.named
 have hnm := (name_of_methodNamed Bd.named Bd.method).1
 have hlk : meth.locks = false := by first | assumption | exact BodyLoose.notSynchronized (by assumption) | exact Body.notSynchronized (by assumption)
 have X0 : Stand p l e R8_3 s m #[(.ref a0), (.ref a1), (.int p2)] below meth c s₁ [] 0 0 := Stand.of_body Bd
 have e0 : s₁.heap = h0 := by rw [← hh, Bd.state]; rfl
 have N0 := Fr.nil n0
 have Z0 : n0 ≤ h0.size := Nat.le_trans (Nat.le_of_eq O0.1.symm) O0.2.1
 obtain ⟨S0, hS0⟩ : ∃ z, z = s₁.setTop (entryFrame m #[(.ref a0), (.ref a1), (.int p2)] 5) := ⟨_, rfl⟩
 have pre0 : ∀ tg, AT p e below s₁ m 0 #[rv a0, rv a1, iv p2, un, un] [] tg → Steps p.tables e below S0 tg := fun tg kg => by rw [hS0]; exact castTop (ef_8_3 m a0 a1 p2) kg
 obtain ⟨HLm, -⟩ := id HW
 have n_a0_fa : a0 ≠ fa := (ne_exa pf0 pf9 (by decide))
 have n_a0_ca : a0 ≠ ca := (ne_exa pf0 pf10 (by decide))
 have n_sh_fa : sh ≠ fa := (ne_exa pf2 pf9 (by decide))
 have n_sh_ca : sh ≠ ca := (ne_exa pf2 pf10 (by decide))
 have n_a1_ca : a1 ≠ ca := (ne_exa pf7 pf10 (by decide))
 have n_fa_ca : fa ≠ ca := (ne_exa pf9 pf10 (by decide))
 obtain ⟨cl1, Ar1, q1, S1, N1, H1, G1⟩ := id pf8
 obtain ⟨T2, X2, e2, st2⟩ := getF X0 hx hZ hown (host := "") (Or.inl (ow hw 48 rfl)) Via.refl e0 pf1 (g := (mkF m 10 #[rv a0, rv a1, iv p2, iv (0 : Int32), un] [(.ref a0), (.int (0 : Int32))])) rfl rfl (hb hby d8_10)
 obtain ⟨cq3, kq3, q3a, q3b, q3c⟩ := isOf hZ e2 pf2
 obtain ⟨_, _, ⟨T3, L3, k3, n3⟩, -, X3, ⟨Lc3, hQ3, l3, y3, z3⟩, st3⟩ := X2.virtualBack hx (y := y9) (z := y9) hown (mvT hZ (ow hw 67 rfl)) (mvT hZ (ow hw 68 rfl)) (notFace_of_selects (args := #[]) (mvT hZ (ow hw 70 rfl))) (mvT hZ (ow hw 70 rfl)) (mvT hZ (ow hw 69 rfl)) (by decide) (backOf (W := 1) (rm9 l Z ar hw [] sh _ h0 n0 O0 pf3) hZ (ow hw 71 rfl) (ow hw 7 rfl) (by decide) (by decide)) q3a q3c (g := (mkF m 13 #[rv a0, rv a1, iv p2, iv (0 : Int32), un] [(.ref sh), (.int (0 : Int32))])) rfl (by rw [hml]; rfl) (Steps.refl _) (argsL := []) (rest := [(.int (0 : Int32))]) (lenOf pd_2 rfl) rfl (by show 2 * 0 + _ ≤ _; exact Nat.le_of_eq rfl) (hb hby d8_13) (fun _ _ => ⟨rfl, e2, (by decide : 0 + 0 ≤ _), (by decide : 0 + 0 ≤ _)⟩)
 dsimp only [Pt.U, Pt.locs, Pt.cells, Pt.slots] at X3 l3 y3 z3 st3 hQ3
 subst l3 y3 z3
 obtain ⟨rfl, N3q, e3⟩ := hQ3
 have N3 := Fr.app N0 N3q
 obtain ⟨cl4, Ar4, q4, S4, N4, H4, G4⟩ := id pf8
 have hin4 := own_in (0 : Int32) S4 ⟨by decide, by decide⟩
 have hat4 : cl4.slots[((0 : Int32)).toNatClampNeg]? = some (.int c0) := Has.at H4 hin4 rfl
 have pre5 : ∀ tg, AT p e below T3 m 23 #[rv a0, rv a1, iv p2, iv (0 : Int32), iv ((0 : Int32) + c0)] [] tg → Steps p.tables e below S0 tg := fun tg kg => pre0 tg (by
  refine XS.iconst X0.here hx rfl (hb hby d8_0) ?_
  refine XS.istoreN X0.here hx rfl (hb hby d8_1) rfl (l' := #[rv a0, rv a1, iv p2, iv (0 : Int32), un]) rfl ?_
  refine XS.iloadN X0.here hx rfl (hb hby d8_2) rfl ?_
  refine XS.aloadN X0.here hx rfl (hb hby d8_3) rfl rfl ?_
  refine X0.arraylength hx (by rw [e0]; exact Ar1.1) (State.isArrayOf_alike hZ.alike Ar1.2.1) (g := (mkF m 4 #[rv a0, rv a1, iv p2, iv (0 : Int32), un] [(.ref a1), (.int (0 : Int32))])) rfl rfl (hb hby d8_4) _ ?_
  rw [len_of S1 N1]
  show AT p e below s₁ m 5 #[rv a0, rv a1, iv p2, iv (0 : Int32), un] [(.int (2 : Int32)), (.int (0 : Int32))] _
  refine XS.icmpNo X0.here hx rfl (hb hby d8_5) rfl (XT.ii_ge_f ((by decide) : (0 : Int32) < (2 : Int32))) ?_
  refine XS.iloadN X0.here hx rfl (hb hby d8_8) rfl ?_
  refine XS.aloadN X0.here hx rfl (hb hby d8_9) rfl rfl ?_
  refine st2 _ ?_
  refine st3.trans ?_
  refine XS.imul X3.here hx rfl (hb hby d8_16) rfl ?_
  refine XS.aloadN X3.here hx rfl (hb hby d8_17) rfl rfl ?_
  refine XS.iloadN X3.here hx rfl (hb hby d8_18) rfl ?_
  refine X3.iaload hx (j := (0 : Int32)) (v := (.int c0)) (by rw [e3]; exact Ar4.1) (State.isArrayOf_alike hZ.alike Ar4.2.1) Ar4.2.2 hin4 hat4 (g := (mkF m 19 #[rv a0, rv a1, iv p2, iv (0 : Int32), un] [(.int (0 : Int32)), (.ref a1), (.int (0 : Int32))])) rfl rfl (hb hby d8_19) _ ?_
  refine XS.iadd X3.here hx rfl (hb hby d8_20) rfl ?_
  refine XS.istore X3.here hx rfl (hb hby d8_21) rfl (l' := #[rv a0, rv a1, iv p2, iv (0 : Int32), iv ((0 : Int32) + c0)]) rfl ?_
  exact kg)
 obtain ⟨Kz0, hKz0⟩ : ∃ z, z = (sJ3 c0 k0 k1 k2) := ⟨_, rfl⟩
 obtain ⟨Fz0, hFz0⟩ : ∃ z, z = (sI3 c0 f0 f1 f2) := ⟨_, rfl⟩
 obtain ⟨T6, h6, L6, X6, e6, N6, K6, O6, J6_0, J6_1, J6_2, J6_3, J6_4, J6_5, J6_6, J6_7, J6_8, J6_9, J6_10, J6_11, J6_12, pre6⟩ : ∃ (T6 : State) (h6 : Heap) (L6 : List Loc), Stand p l e R8_3 s m #[(.ref a0), (.ref a1), (.int p2)] below meth c T6 L6 (0 + 0) (0 + 0) ∧ T6.heap = h6 ∧ Fr n0 L6 ∧ Keep h0 h6 [fa, ca] ∧ Old Z n0 h6 ∧ Exa Z h6 a0 "com/example/filters_under_siege/filtersundersiege/KeeperPairs" ∧ Fld Z h6 a0 "com/example/filters_under_siege/filtersundersiege/KeeperPairs" "shape" "Lcom/example/filters_under_siege/filtersundersiege/SketchShape;" (.ref sh) ∧ Exa Z h6 sh "com/example/filters_under_siege/filtersundersiege/SketchShape" ∧ Fld Z h6 sh "com/example/filters_under_siege/filtersundersiege/SketchShape" "width" "I" (.int (3 : Int32)) ∧ Fld Z h6 a0 "com/example/filters_under_siege/filtersundersiege/KeeperPairs" "fingerprints" "[I" (.ref fa) ∧ Fld Z h6 a0 "com/example/filters_under_siege/filtersundersiege/KeeperPairs" "counts" "[J" (.ref ca) ∧ Fld Z h6 a0 "com/example/filters_under_siege/filtersundersiege/KeeperPairs" "knocksDown" "Ljava/util/function/LongPredicate;" (.ref w_lam) ∧ Exa Z h6 a1 "[I" ∧ Arv Z h6 a1 kk .int (2 : Int32) [(.int c0), (.int c1)] (.int (0 : Int32)) ∧ Exa Z h6 fa "[I" ∧ Exa Z h6 ca "[J" ∧ Arv Z h6 fa kf .int (6 : Int32) [(.int (pI c0 (0 : Int32) (nf Kz0 Fz0 p2) f0)), (.int (pI c0 (1 : Int32) (nf Kz0 Fz0 p2) f1)), (.int (pI c0 (2 : Int32) (nf Kz0 Fz0 p2) f2)), (.int f3), (.int f4), (.int f5)] (.int (0 : Int32)) ∧ Arv Z h6 ca kc .long (6 : Int32) [(.long (pJ c0 (0 : Int32) (nc Kz0 Fz0 p2) k0)), (.long (pJ c0 (1 : Int32) (nc Kz0 Fz0 p2) k1)), (.long (pJ c0 (2 : Int32) (nc Kz0 Fz0 p2) k2)), (.long k3), (.long k4), (.long k5)] (.long (0 : Int64)) ∧ (∀ tg, AT p e below T6 m 126 #[rv a0, rv a1, iv p2, iv (0 : Int32), iv ((0 : Int32) + c0)] [] tg → Steps p.tables e below S0 tg) := by
  obtain ⟨T7, X7, e7, st7⟩ := getF X3 hx hZ hown (host := "") (Or.inl (ow hw 60 rfl)) Via.refl e3 pf5 (g := (mkF m 24 #[rv a0, rv a1, iv p2, iv (0 : Int32), iv ((0 : Int32) + c0)] [(.ref a0)])) rfl rfl (hb hby d8_24)
  obtain ⟨cl8, Ar8, q8, S8, N8, H8, G8⟩ := id pf12
  have hin8 := own_in ((0 : Int32) + c0) S8 (own_b3_0 hc0)
  have hat8 : cl8.slots[(((0 : Int32) + c0)).toNatClampNeg]? = some (.long Kz0) := Has.at H8 hin8 ((own_gJ3_0 hc0).trans (congrArg Value.long hKz0.symm))
  have pre9 : ∀ tg, AT p e below T7 m 32 #[rv a0, rv a1, iv p2, iv (0 : Int32), iv ((0 : Int32) + c0)] [(.int (XT.cmpL Kz0 (0 : Int64)))] tg → Steps p.tables e below S0 tg := fun tg kg => pre5 tg (by
   refine XS.aloadN X3.here hx rfl (hb hby d8_23) rfl rfl ?_
   refine st7 _ ?_
   refine XS.iload X7.here hx rfl (hb hby d8_27) rfl ?_
   refine X7.laload hx (j := ((0 : Int32) + c0)) (v := (.long Kz0)) (by rw [e7]; exact Ar8.1) (State.isArrayOf_alike hZ.alike Ar8.2.1) Ar8.2.2 hin8 hat8 (g := (mkF m 29 #[rv a0, rv a1, iv p2, iv (0 : Int32), iv ((0 : Int32) + c0)] [(.int ((0 : Int32) + c0)), (.ref ca)])) rfl rfl (hb hby d8_29) _ ?_
   refine XS.lconst X7.here hx rfl (hb hby d8_30) ?_
   refine XS.lcmp X7.here hx rfl (hb hby d8_31) rfl ?_
   exact kg)
  rcases Decidable.em (Kz0 = (0 : Int64)) with hc10 | hc10
  ·
   obtain ⟨T11, X11, e11, st11⟩ := getF X7 hx hZ hown (host := "") (Or.inl (ow hw 57 rfl)) Via.refl e7 pf4 (g := (mkF m 47 #[rv a0, rv a1, iv p2, iv (0 : Int32), iv ((0 : Int32) + c0)] [(.ref a0)])) rfl rfl (hb hby d8_47)
   obtain ⟨cl12, Ar12, q12, S12, M12, H12, G12⟩ := id pf11
   have hin12 := own_in ((0 : Int32) + c0) S12 (own_b3_0 hc0)
   obtain ⟨T12, h12, X12, e12, W12, st12⟩ := stI X11 hx hZ e11 Ar12 (j := ((0 : Int32) + c0)) hin12 (g := (mkF m 53 #[rv a0, rv a1, iv p2, iv (0 : Int32), iv ((0 : Int32) + c0)] [(.int p2), (.int ((0 : Int32) + c0)), (.ref fa)])) rfl rfl (hb hby d8_53)
   have V12_13 : Arv Z h12 fa kf .int (6 : Int32) [(.int (pI c0 (0 : Int32) p2 f0)), (.int (pI c0 (1 : Int32) p2 f1)), (.int (pI c0 (2 : Int32) p2 f2)), (.int f3), (.int f4), (.int f5)] (.int (0 : Int32)) := by have q := Arv.set Ar12 q12 S12 M12 H12 G12 rfl W12 (((0 : Int32) + c0)).toNatClampNeg rfl (own_k3_0 hc0); rw [own_sI3_0 hc0] at q; exact q
   have E12_14 := pf0.wr W12
   have F12_15 := pf1.other W12 (Or.inl n_a0_fa)
   have E12_16 := pf2.wr W12
   have F12_17 := pf3.other W12 (Or.inl n_sh_fa)
   have F12_18 := pf4.other W12 (Or.inl n_a0_fa)
   have F12_19 := pf5.other W12 (Or.inl n_a0_fa)
   have F12_20 := pf6.other W12 (Or.inl n_a0_fa)
   have E12_21 := pf7.wr W12
   have V12_22 := pf8.other W12 pf15
   have E12_23 := pf9.wr W12
   have E12_24 := pf10.wr W12
   have V12_25 := pf12.other W12 (Ne.symm n_fa_ca)
   have K12 := (Keep.refl h0 [fa, ca]).wr W12 (Or.inl (List.mem_of_getElem? (i := 0) rfl))
   have O12 := O0.wr W12 pf13
   have N12 := Fr.snoc X12 N3 pf13
   obtain ⟨T26, X26, e26, st26⟩ := getF X12 hx hZ hown (host := "") (Or.inl (ow hw 60 rfl)) Via.refl e12 F12_19 (g := (mkF m 55 #[rv a0, rv a1, iv p2, iv (0 : Int32), iv ((0 : Int32) + c0)] [(.ref a0)])) rfl rfl (hb hby d8_55)
   obtain ⟨cl27, Ar27, q27, S27, N27, H27, G27⟩ := id V12_25
   have hin27 := own_in ((0 : Int32) + c0) S27 (own_b3_0 hc0)
   have hat27 : cl27.slots[(((0 : Int32) + c0)).toNatClampNeg]? = some (.long Kz0) := Has.at H27 hin27 ((own_gJ3_0 hc0).trans (congrArg Value.long hKz0.symm))
   obtain ⟨cl28, Ar28, q28, S28, M28, H28, G28⟩ := id V12_25
   have hin28 := own_in ((0 : Int32) + c0) S28 (own_b3_0 hc0)
   obtain ⟨T28, h28, X28, e28, W28, st28⟩ := stJ X26 hx hZ e26 Ar28 (j := ((0 : Int32) + c0)) hin28 (g := (mkF m 64 #[rv a0, rv a1, iv p2, iv (0 : Int32), iv ((0 : Int32) + c0)] [(.long (Kz0 + (1 : Int64))), (.int ((0 : Int32) + c0)), (.ref ca)])) rfl rfl (hb hby d8_64)
   have V28_29 : Arv Z h28 ca kc .long (6 : Int32) [(.long (pJ c0 (0 : Int32) (Kz0 + (1 : Int64)) k0)), (.long (pJ c0 (1 : Int32) (Kz0 + (1 : Int64)) k1)), (.long (pJ c0 (2 : Int32) (Kz0 + (1 : Int64)) k2)), (.long k3), (.long k4), (.long k5)] (.long (0 : Int64)) := by have q := Arv.set Ar28 q28 S28 M28 H28 G28 rfl W28 (((0 : Int32) + c0)).toNatClampNeg rfl (own_k3_0 hc0); rw [own_sJ3_0 hc0] at q; exact q
   have E28_30 := E12_14.wr W28
   have F28_31 := F12_15.other W28 (Or.inl n_a0_ca)
   have E28_32 := E12_16.wr W28
   have F28_33 := F12_17.other W28 (Or.inl n_sh_ca)
   have F28_34 := F12_18.other W28 (Or.inl n_a0_ca)
   have F28_35 := F12_19.other W28 (Or.inl n_a0_ca)
   have F28_36 := F12_20.other W28 (Or.inl n_a0_ca)
   have E28_37 := E12_21.wr W28
   have V28_38 := V12_22.other W28 n_a1_ca
   have E28_39 := E12_23.wr W28
   have E28_40 := E12_24.wr W28
   have V28_41 := V12_13.other W28 n_fa_ca
   have K28 := K12.wr W28 (Or.inl (List.mem_of_getElem? (i := 1) rfl))
   have O28 := O12.wr W28 pf14
   have N28 := Fr.snoc X28 N12 pf14
   have pre42 : ∀ tg, AT p e below T28 m 126 #[rv a0, rv a1, iv p2, iv (0 : Int32), iv ((0 : Int32) + c0)] [] tg → Steps p.tables e below S0 tg := fun tg kg => pre9 tg (by
    refine XS.ifYes X7.here hx rfl (pc0 := 32) (pc' := 46) rfl (hb hby d8_32) rfl (XT.ll_eq_t hc10) (by decide) (by decide) ?_
    refine XS.aloadN X7.here hx rfl (hb hby d8_46) rfl rfl ?_
    refine st11 _ ?_
    refine XS.iload X11.here hx rfl (hb hby d8_50) rfl ?_
    refine XS.iloadN X11.here hx rfl (hb hby d8_52) rfl ?_
    refine st12 _ ?_
    refine XS.aloadN X12.here hx rfl (hb hby d8_54) rfl rfl ?_
    refine st26 _ ?_
    refine XS.iload X26.here hx rfl (hb hby d8_58) rfl ?_
    refine XT.dup2 X26.here hx rfl (hb hby d8_60) rfl rfl rfl ?_
    refine X26.laload hx (j := ((0 : Int32) + c0)) (v := (.long Kz0)) (by rw [e26]; exact Ar27.1) (State.isArrayOf_alike hZ.alike Ar27.2.1) Ar27.2.2 hin27 hat27 (g := (mkF m 61 #[rv a0, rv a1, iv p2, iv (0 : Int32), iv ((0 : Int32) + c0)] [(.int ((0 : Int32) + c0)), (.ref ca), (.int ((0 : Int32) + c0)), (.ref ca)])) rfl rfl (hb hby d8_61) _ ?_
    refine XS.lconst X26.here hx rfl (hb hby d8_62) ?_
    refine XS.ladd X26.here hx rfl (hb hby d8_63) rfl ?_
    refine st28 _ ?_
    refine XS.goto X28.here hx rfl (pc0 := 65) (pc' := 126) rfl (hb hby d8_65) (by decide) (by decide) ?_
    exact kg)
   have hj43 : (pI c0 (0 : Int32) (nf Kz0 Fz0 p2) f0) = (pI c0 (0 : Int32) p2 f0) := by simp only [nf, if_pos hc10]
   have hj44 : (pI c0 (1 : Int32) (nf Kz0 Fz0 p2) f1) = (pI c0 (1 : Int32) p2 f1) := by simp only [nf, if_pos hc10]
   have hj45 : (pI c0 (2 : Int32) (nf Kz0 Fz0 p2) f2) = (pI c0 (2 : Int32) p2 f2) := by simp only [nf, if_pos hc10]
   have hj46 : (pJ c0 (0 : Int32) (nc Kz0 Fz0 p2) k0) = (pJ c0 (0 : Int32) (Kz0 + (1 : Int64)) k0) := by simp only [nc, if_pos hc10]
   have hj47 : (pJ c0 (1 : Int32) (nc Kz0 Fz0 p2) k1) = (pJ c0 (1 : Int32) (Kz0 + (1 : Int64)) k1) := by simp only [nc, if_pos hc10]
   have hj48 : (pJ c0 (2 : Int32) (nc Kz0 Fz0 p2) k2) = (pJ c0 (2 : Int32) (Kz0 + (1 : Int64)) k2) := by simp only [nc, if_pos hc10]
   exact ⟨_, _, _, X28, e28, N28, K28, O28, E28_30, F28_31, E28_32, F28_33, F28_34, F28_35, F28_36, E28_37, V28_38, E28_39, E28_40, (by rw [hj43, hj44, hj45]; exact V28_41), (by rw [hj46, hj47, hj48]; exact V28_29), pre42⟩
  ·
   obtain ⟨T49, X49, e49, st49⟩ := getF X7 hx hZ hown (host := "") (Or.inl (ow hw 57 rfl)) Via.refl e7 pf4 (g := (mkF m 36 #[rv a0, rv a1, iv p2, iv (0 : Int32), iv ((0 : Int32) + c0)] [(.ref a0)])) rfl rfl (hb hby d8_36)
   obtain ⟨cl50, Ar50, q50, S50, N50, H50, G50⟩ := id pf11
   have hin50 := own_in ((0 : Int32) + c0) S50 (own_b3_0 hc0)
   have hat50 : cl50.slots[(((0 : Int32) + c0)).toNatClampNeg]? = some (.int Fz0) := Has.at H50 hin50 ((own_gI3_0 hc0).trans (congrArg Value.int hFz0.symm))
   have pre51 : ∀ tg, AT p e below T49 m 43 #[rv a0, rv a1, iv p2, iv (0 : Int32), iv ((0 : Int32) + c0)] [(.int p2), (.int Fz0)] tg → Steps p.tables e below S0 tg := fun tg kg => pre9 tg (by
    refine XS.ifNo X7.here hx rfl (hb hby d8_32) rfl (XT.ll_eq_f hc10) ?_
    refine XS.aloadN X7.here hx rfl (hb hby d8_35) rfl rfl ?_
    refine st49 _ ?_
    refine XS.iload X49.here hx rfl (hb hby d8_39) rfl ?_
    refine X49.iaload hx (j := ((0 : Int32) + c0)) (v := (.int Fz0)) (by rw [e49]; exact Ar50.1) (State.isArrayOf_alike hZ.alike Ar50.2.1) Ar50.2.2 hin50 hat50 (g := (mkF m 41 #[rv a0, rv a1, iv p2, iv (0 : Int32), iv ((0 : Int32) + c0)] [(.int ((0 : Int32) + c0)), (.ref fa)])) rfl rfl (hb hby d8_41) _ ?_
    refine XS.iloadN X49.here hx rfl (hb hby d8_42) rfl ?_
    exact kg)
   rcases Decidable.em (Fz0 = p2) with hc52 | hc52
   ·
    obtain ⟨T53, X53, e53, st53⟩ := getF X49 hx hZ hown (host := "") (Or.inl (ow hw 57 rfl)) Via.refl e49 pf4 (g := (mkF m 47 #[rv a0, rv a1, iv p2, iv (0 : Int32), iv ((0 : Int32) + c0)] [(.ref a0)])) rfl rfl (hb hby d8_47)
    obtain ⟨cl54, Ar54, q54, S54, M54, H54, G54⟩ := id pf11
    have hin54 := own_in ((0 : Int32) + c0) S54 (own_b3_0 hc0)
    obtain ⟨T54, h54, X54, e54, W54, st54⟩ := stI X53 hx hZ e53 Ar54 (j := ((0 : Int32) + c0)) hin54 (g := (mkF m 53 #[rv a0, rv a1, iv p2, iv (0 : Int32), iv ((0 : Int32) + c0)] [(.int p2), (.int ((0 : Int32) + c0)), (.ref fa)])) rfl rfl (hb hby d8_53)
    have V54_55 : Arv Z h54 fa kf .int (6 : Int32) [(.int (pI c0 (0 : Int32) p2 f0)), (.int (pI c0 (1 : Int32) p2 f1)), (.int (pI c0 (2 : Int32) p2 f2)), (.int f3), (.int f4), (.int f5)] (.int (0 : Int32)) := by have q := Arv.set Ar54 q54 S54 M54 H54 G54 rfl W54 (((0 : Int32) + c0)).toNatClampNeg rfl (own_k3_0 hc0); rw [own_sI3_0 hc0] at q; exact q
    have E54_56 := pf0.wr W54
    have F54_57 := pf1.other W54 (Or.inl n_a0_fa)
    have E54_58 := pf2.wr W54
    have F54_59 := pf3.other W54 (Or.inl n_sh_fa)
    have F54_60 := pf4.other W54 (Or.inl n_a0_fa)
    have F54_61 := pf5.other W54 (Or.inl n_a0_fa)
    have F54_62 := pf6.other W54 (Or.inl n_a0_fa)
    have E54_63 := pf7.wr W54
    have V54_64 := pf8.other W54 pf15
    have E54_65 := pf9.wr W54
    have E54_66 := pf10.wr W54
    have V54_67 := pf12.other W54 (Ne.symm n_fa_ca)
    have K54 := (Keep.refl h0 [fa, ca]).wr W54 (Or.inl (List.mem_of_getElem? (i := 0) rfl))
    have O54 := O0.wr W54 pf13
    have N54 := Fr.snoc X54 N3 pf13
    obtain ⟨T68, X68, e68, st68⟩ := getF X54 hx hZ hown (host := "") (Or.inl (ow hw 60 rfl)) Via.refl e54 F54_61 (g := (mkF m 55 #[rv a0, rv a1, iv p2, iv (0 : Int32), iv ((0 : Int32) + c0)] [(.ref a0)])) rfl rfl (hb hby d8_55)
    obtain ⟨cl69, Ar69, q69, S69, N69, H69, G69⟩ := id V54_67
    have hin69 := own_in ((0 : Int32) + c0) S69 (own_b3_0 hc0)
    have hat69 : cl69.slots[(((0 : Int32) + c0)).toNatClampNeg]? = some (.long Kz0) := Has.at H69 hin69 ((own_gJ3_0 hc0).trans (congrArg Value.long hKz0.symm))
    obtain ⟨cl70, Ar70, q70, S70, M70, H70, G70⟩ := id V54_67
    have hin70 := own_in ((0 : Int32) + c0) S70 (own_b3_0 hc0)
    obtain ⟨T70, h70, X70, e70, W70, st70⟩ := stJ X68 hx hZ e68 Ar70 (j := ((0 : Int32) + c0)) hin70 (g := (mkF m 64 #[rv a0, rv a1, iv p2, iv (0 : Int32), iv ((0 : Int32) + c0)] [(.long (Kz0 + (1 : Int64))), (.int ((0 : Int32) + c0)), (.ref ca)])) rfl rfl (hb hby d8_64)
    have V70_71 : Arv Z h70 ca kc .long (6 : Int32) [(.long (pJ c0 (0 : Int32) (Kz0 + (1 : Int64)) k0)), (.long (pJ c0 (1 : Int32) (Kz0 + (1 : Int64)) k1)), (.long (pJ c0 (2 : Int32) (Kz0 + (1 : Int64)) k2)), (.long k3), (.long k4), (.long k5)] (.long (0 : Int64)) := by have q := Arv.set Ar70 q70 S70 M70 H70 G70 rfl W70 (((0 : Int32) + c0)).toNatClampNeg rfl (own_k3_0 hc0); rw [own_sJ3_0 hc0] at q; exact q
    have E70_72 := E54_56.wr W70
    have F70_73 := F54_57.other W70 (Or.inl n_a0_ca)
    have E70_74 := E54_58.wr W70
    have F70_75 := F54_59.other W70 (Or.inl n_sh_ca)
    have F70_76 := F54_60.other W70 (Or.inl n_a0_ca)
    have F70_77 := F54_61.other W70 (Or.inl n_a0_ca)
    have F70_78 := F54_62.other W70 (Or.inl n_a0_ca)
    have E70_79 := E54_63.wr W70
    have V70_80 := V54_64.other W70 n_a1_ca
    have E70_81 := E54_65.wr W70
    have E70_82 := E54_66.wr W70
    have V70_83 := V54_55.other W70 n_fa_ca
    have K70 := K54.wr W70 (Or.inl (List.mem_of_getElem? (i := 1) rfl))
    have O70 := O54.wr W70 pf14
    have N70 := Fr.snoc X70 N54 pf14
    have pre84 : ∀ tg, AT p e below T70 m 126 #[rv a0, rv a1, iv p2, iv (0 : Int32), iv ((0 : Int32) + c0)] [] tg → Steps p.tables e below S0 tg := fun tg kg => pre51 tg (by
     refine XS.icmpNo X49.here hx rfl (hb hby d8_43) rfl (XT.ii_ne_f hc52) ?_
     refine XS.aloadN X49.here hx rfl (hb hby d8_46) rfl rfl ?_
     refine st53 _ ?_
     refine XS.iload X53.here hx rfl (hb hby d8_50) rfl ?_
     refine XS.iloadN X53.here hx rfl (hb hby d8_52) rfl ?_
     refine st54 _ ?_
     refine XS.aloadN X54.here hx rfl (hb hby d8_54) rfl rfl ?_
     refine st68 _ ?_
     refine XS.iload X68.here hx rfl (hb hby d8_58) rfl ?_
     refine XT.dup2 X68.here hx rfl (hb hby d8_60) rfl rfl rfl ?_
     refine X68.laload hx (j := ((0 : Int32) + c0)) (v := (.long Kz0)) (by rw [e68]; exact Ar69.1) (State.isArrayOf_alike hZ.alike Ar69.2.1) Ar69.2.2 hin69 hat69 (g := (mkF m 61 #[rv a0, rv a1, iv p2, iv (0 : Int32), iv ((0 : Int32) + c0)] [(.int ((0 : Int32) + c0)), (.ref ca), (.int ((0 : Int32) + c0)), (.ref ca)])) rfl rfl (hb hby d8_61) _ ?_
     refine XS.lconst X68.here hx rfl (hb hby d8_62) ?_
     refine XS.ladd X68.here hx rfl (hb hby d8_63) rfl ?_
     refine st70 _ ?_
     refine XS.goto X70.here hx rfl (pc0 := 65) (pc' := 126) rfl (hb hby d8_65) (by decide) (by decide) ?_
     exact kg)
    have hj85 : (pI c0 (0 : Int32) (nf Kz0 Fz0 p2) f0) = (pI c0 (0 : Int32) p2 f0) := by simp only [nf, if_neg hc10, if_pos hc52]
    have hj86 : (pI c0 (1 : Int32) (nf Kz0 Fz0 p2) f1) = (pI c0 (1 : Int32) p2 f1) := by simp only [nf, if_neg hc10, if_pos hc52]
    have hj87 : (pI c0 (2 : Int32) (nf Kz0 Fz0 p2) f2) = (pI c0 (2 : Int32) p2 f2) := by simp only [nf, if_neg hc10, if_pos hc52]
    have hj88 : (pJ c0 (0 : Int32) (nc Kz0 Fz0 p2) k0) = (pJ c0 (0 : Int32) (Kz0 + (1 : Int64)) k0) := by simp only [nc, if_neg hc10, if_pos hc52]
    have hj89 : (pJ c0 (1 : Int32) (nc Kz0 Fz0 p2) k1) = (pJ c0 (1 : Int32) (Kz0 + (1 : Int64)) k1) := by simp only [nc, if_neg hc10, if_pos hc52]
    have hj90 : (pJ c0 (2 : Int32) (nc Kz0 Fz0 p2) k2) = (pJ c0 (2 : Int32) (Kz0 + (1 : Int64)) k2) := by simp only [nc, if_neg hc10, if_pos hc52]
    exact ⟨_, _, _, X70, e70, N70, K70, O70, E70_72, F70_73, E70_74, F70_75, F70_76, F70_77, F70_78, E70_79, V70_80, E70_81, E70_82, (by rw [hj85, hj86, hj87]; exact V70_83), (by rw [hj88, hj89, hj90]; exact V70_71), pre84⟩
   ·
    obtain ⟨T91, X91, e91, st91⟩ := getF X49 hx hZ hown (host := "") (Or.inl (ow hw 50 rfl)) Via.refl e49 pf6 (g := (mkF m 69 #[rv a0, rv a1, iv p2, iv (0 : Int32), iv ((0 : Int32) + c0)] [(.ref a0)])) rfl rfl (hb hby d8_69)
    obtain ⟨T92, X92, e92, st92⟩ := getF X91 hx hZ hown (host := "") (Or.inl (ow hw 60 rfl)) Via.refl e91 pf5 (g := (mkF m 73 #[rv a0, rv a1, iv p2, iv (0 : Int32), iv ((0 : Int32) + c0)] [(.ref a0), (.ref w_lam)])) rfl rfl (hb hby d8_73)
    obtain ⟨cl93, Ar93, q93, S93, N93, H93, G93⟩ := id pf12
    have hin93 := own_in ((0 : Int32) + c0) S93 (own_b3_0 hc0)
    have hat93 : cl93.slots[(((0 : Int32) + c0)).toNatClampNeg]? = some (.long Kz0) := Has.at H93 hin93 ((own_gJ3_0 hc0).trans (congrArg Value.long hKz0.symm))
    obtain ⟨T94, X94, e94, st94⟩ := own_test X92 hx hw hZ hown HLm O0 e92 (g := (mkF m 79 #[rv a0, rv a1, iv p2, iv (0 : Int32), iv ((0 : Int32) + c0)] [(.long Kz0), (.ref w_lam)])) rfl (by rw [hml]; rfl) rfl (hb hby d8_79) (W := 0) (by show 2 * 0 + _ ≤ _; exact Nat.le_of_eq rfl) (by decide) (by decide) (by decide) (by decide)
    obtain ⟨T95, X95, e95, st95⟩ := getF X94 hx hZ hown (host := "") (Or.inl (ow hw 60 rfl)) Via.refl e94 pf5 (g := (mkF m 88 #[rv a0, rv a1, iv p2, iv (0 : Int32), iv ((0 : Int32) + c0)] [(.ref a0)])) rfl rfl (hb hby d8_88)
    obtain ⟨cl96, Ar96, q96, S96, N96, H96, G96⟩ := id pf12
    have hin96 := own_in ((0 : Int32) + c0) S96 (own_b3_0 hc0)
    have hat96 : cl96.slots[(((0 : Int32) + c0)).toNatClampNeg]? = some (.long Kz0) := Has.at H96 hin96 ((own_gJ3_0 hc0).trans (congrArg Value.long hKz0.symm))
    obtain ⟨cl97, Ar97, q97, S97, M97, H97, G97⟩ := id pf12
    have hin97 := own_in ((0 : Int32) + c0) S97 (own_b3_0 hc0)
    obtain ⟨T97, h97, X97, e97, W97, st97⟩ := stJ X95 hx hZ e95 Ar97 (j := ((0 : Int32) + c0)) hin97 (g := (mkF m 97 #[rv a0, rv a1, iv p2, iv (0 : Int32), iv ((0 : Int32) + c0)] [(.long (Kz0 - (1 : Int64))), (.int ((0 : Int32) + c0)), (.ref ca)])) rfl rfl (hb hby d8_97)
    have V97_98 : Arv Z h97 ca kc .long (6 : Int32) [(.long (pJ c0 (0 : Int32) (Kz0 - (1 : Int64)) k0)), (.long (pJ c0 (1 : Int32) (Kz0 - (1 : Int64)) k1)), (.long (pJ c0 (2 : Int32) (Kz0 - (1 : Int64)) k2)), (.long k3), (.long k4), (.long k5)] (.long (0 : Int64)) := by have q := Arv.set Ar97 q97 S97 M97 H97 G97 rfl W97 (((0 : Int32) + c0)).toNatClampNeg rfl (own_k3_0 hc0); rw [own_sJ3_0 hc0] at q; exact q
    have E97_99 := pf0.wr W97
    have F97_100 := pf1.other W97 (Or.inl n_a0_ca)
    have E97_101 := pf2.wr W97
    have F97_102 := pf3.other W97 (Or.inl n_sh_ca)
    have F97_103 := pf4.other W97 (Or.inl n_a0_ca)
    have F97_104 := pf5.other W97 (Or.inl n_a0_ca)
    have F97_105 := pf6.other W97 (Or.inl n_a0_ca)
    have E97_106 := pf7.wr W97
    have V97_107 := pf8.other W97 n_a1_ca
    have E97_108 := pf9.wr W97
    have E97_109 := pf10.wr W97
    have V97_110 := pf11.other W97 n_fa_ca
    have K97 := (Keep.refl h0 [fa, ca]).wr W97 (Or.inl (List.mem_of_getElem? (i := 1) rfl))
    have O97 := O0.wr W97 pf14
    have N97 := Fr.snoc X97 N3 pf14
    obtain ⟨T111, X111, e111, st111⟩ := getF X97 hx hZ hown (host := "") (Or.inl (ow hw 60 rfl)) Via.refl e97 F97_104 (g := (mkF m 99 #[rv a0, rv a1, iv p2, iv (0 : Int32), iv ((0 : Int32) + c0)] [(.ref a0)])) rfl rfl (hb hby d8_99)
    obtain ⟨cl112, Ar112, q112, S112, N112, H112, G112⟩ := id V97_98
    have hin112 := own_in ((0 : Int32) + c0) S112 (own_b3_0 hc0)
    have hat112 : cl112.slots[(((0 : Int32) + c0)).toNatClampNeg]? = some (.long (Kz0 - (1 : Int64))) := Has.at H112 hin112 ((own_gJ3_0 hc0).trans (congrArg Value.long (own_spJ3 hc0)))
    have pre113 : ∀ tg, AT p e below T111 m 107 #[rv a0, rv a1, iv p2, iv (0 : Int32), iv ((0 : Int32) + c0)] [(.int (XT.cmpL (Kz0 - (1 : Int64)) (0 : Int64)))] tg → Steps p.tables e below S0 tg := fun tg kg => pre51 tg (by
     refine XS.icmpYes X49.here hx rfl (pc0 := 43) (pc' := 68) rfl (hb hby d8_43) rfl (XT.ii_ne_t hc52) (by decide) (by decide) ?_
     refine XS.aloadN X49.here hx rfl (hb hby d8_68) rfl rfl ?_
     refine st91 _ ?_
     refine XS.aloadN X91.here hx rfl (hb hby d8_72) rfl rfl ?_
     refine st92 _ ?_
     refine XS.iload X92.here hx rfl (hb hby d8_76) rfl ?_
     refine X92.laload hx (j := ((0 : Int32) + c0)) (v := (.long Kz0)) (by rw [e92]; exact Ar93.1) (State.isArrayOf_alike hZ.alike Ar93.2.1) Ar93.2.2 hin93 hat93 (g := (mkF m 78 #[rv a0, rv a1, iv p2, iv (0 : Int32), iv ((0 : Int32) + c0)] [(.int ((0 : Int32) + c0)), (.ref ca), (.ref w_lam)])) rfl rfl (hb hby d8_78) _ ?_
     refine st94 _ ?_
     show AT p e below T94 m 84 #[rv a0, rv a1, iv p2, iv (0 : Int32), iv ((0 : Int32) + c0)] [(.int (1 : Int32))] _
     refine XS.ifNo X94.here hx rfl (hb hby d8_84) rfl (XT.i0_eq_f ((by decide) : ¬ ((1 : Int32) = (0 : Int32)))) ?_
     refine XS.aloadN X94.here hx rfl (hb hby d8_87) rfl rfl ?_
     refine st95 _ ?_
     refine XS.iload X95.here hx rfl (hb hby d8_91) rfl ?_
     refine XT.dup2 X95.here hx rfl (hb hby d8_93) rfl rfl rfl ?_
     refine X95.laload hx (j := ((0 : Int32) + c0)) (v := (.long Kz0)) (by rw [e95]; exact Ar96.1) (State.isArrayOf_alike hZ.alike Ar96.2.1) Ar96.2.2 hin96 hat96 (g := (mkF m 94 #[rv a0, rv a1, iv p2, iv (0 : Int32), iv ((0 : Int32) + c0)] [(.int ((0 : Int32) + c0)), (.ref ca), (.int ((0 : Int32) + c0)), (.ref ca)])) rfl rfl (hb hby d8_94) _ ?_
     refine XS.lconst X95.here hx rfl (hb hby d8_95) ?_
     refine XS.lsub X95.here hx rfl (hb hby d8_96) rfl ?_
     refine st97 _ ?_
     refine XS.aloadN X97.here hx rfl (hb hby d8_98) rfl rfl ?_
     refine st111 _ ?_
     refine XS.iload X111.here hx rfl (hb hby d8_102) rfl ?_
     refine X111.laload hx (j := ((0 : Int32) + c0)) (v := (.long (Kz0 - (1 : Int64)))) (by rw [e111]; exact Ar112.1) (State.isArrayOf_alike hZ.alike Ar112.2.1) Ar112.2.2 hin112 hat112 (g := (mkF m 104 #[rv a0, rv a1, iv p2, iv (0 : Int32), iv ((0 : Int32) + c0)] [(.int ((0 : Int32) + c0)), (.ref ca)])) rfl rfl (hb hby d8_104) _ ?_
     refine XS.lconst X111.here hx rfl (hb hby d8_105) ?_
     refine XS.lcmp X111.here hx rfl (hb hby d8_106) rfl ?_
     exact kg)
    rcases Decidable.em ((Kz0 - (1 : Int64)) = (0 : Int64)) with hc114 | hc114
    ·
     obtain ⟨T115, X115, e115, st115⟩ := getF X111 hx hZ hown (host := "") (Or.inl (ow hw 57 rfl)) Via.refl e111 F97_103 (g := (mkF m 111 #[rv a0, rv a1, iv p2, iv (0 : Int32), iv ((0 : Int32) + c0)] [(.ref a0)])) rfl rfl (hb hby d8_111)
     obtain ⟨cl116, Ar116, q116, S116, M116, H116, G116⟩ := id V97_110
     have hin116 := own_in ((0 : Int32) + c0) S116 (own_b3_0 hc0)
     obtain ⟨T116, h116, X116, e116, W116, st116⟩ := stI X115 hx hZ e115 Ar116 (j := ((0 : Int32) + c0)) hin116 (g := (mkF m 117 #[rv a0, rv a1, iv p2, iv (0 : Int32), iv ((0 : Int32) + c0)] [(.int p2), (.int ((0 : Int32) + c0)), (.ref fa)])) rfl rfl (hb hby d8_117)
     have V116_117 : Arv Z h116 fa kf .int (6 : Int32) [(.int (pI c0 (0 : Int32) p2 f0)), (.int (pI c0 (1 : Int32) p2 f1)), (.int (pI c0 (2 : Int32) p2 f2)), (.int f3), (.int f4), (.int f5)] (.int (0 : Int32)) := by have q := Arv.set Ar116 q116 S116 M116 H116 G116 rfl W116 (((0 : Int32) + c0)).toNatClampNeg rfl (own_k3_0 hc0); rw [own_sI3_0 hc0] at q; exact q
     have E116_118 := E97_99.wr W116
     have F116_119 := F97_100.other W116 (Or.inl n_a0_fa)
     have E116_120 := E97_101.wr W116
     have F116_121 := F97_102.other W116 (Or.inl n_sh_fa)
     have F116_122 := F97_103.other W116 (Or.inl n_a0_fa)
     have F116_123 := F97_104.other W116 (Or.inl n_a0_fa)
     have F116_124 := F97_105.other W116 (Or.inl n_a0_fa)
     have E116_125 := E97_106.wr W116
     have V116_126 := V97_107.other W116 pf15
     have E116_127 := E97_108.wr W116
     have E116_128 := E97_109.wr W116
     have V116_129 := V97_98.other W116 (Ne.symm n_fa_ca)
     have K116 := K97.wr W116 (Or.inl (List.mem_of_getElem? (i := 0) rfl))
     have O116 := O97.wr W116 pf13
     have N116 := Fr.snoc X116 N97 pf13
     obtain ⟨T130, X130, e130, st130⟩ := getF X116 hx hZ hown (host := "") (Or.inl (ow hw 60 rfl)) Via.refl e116 F116_123 (g := (mkF m 119 #[rv a0, rv a1, iv p2, iv (0 : Int32), iv ((0 : Int32) + c0)] [(.ref a0)])) rfl rfl (hb hby d8_119)
     obtain ⟨cl131, Ar131, q131, S131, M131, H131, G131⟩ := id V116_129
     have hin131 := own_in ((0 : Int32) + c0) S131 (own_b3_0 hc0)
     obtain ⟨T131, h131, X131, e131, W131, st131⟩ := stJ X130 hx hZ e130 Ar131 (j := ((0 : Int32) + c0)) hin131 (g := (mkF m 125 #[rv a0, rv a1, iv p2, iv (0 : Int32), iv ((0 : Int32) + c0)] [(.long (1 : Int64)), (.int ((0 : Int32) + c0)), (.ref ca)])) rfl rfl (hb hby d8_125)
     have V131_132 : Arv Z h131 ca kc .long (6 : Int32) [(.long (pJ c0 (0 : Int32) (1 : Int64) k0)), (.long (pJ c0 (1 : Int32) (1 : Int64) k1)), (.long (pJ c0 (2 : Int32) (1 : Int64) k2)), (.long k3), (.long k4), (.long k5)] (.long (0 : Int64)) := by have q := Arv.set Ar131 q131 S131 M131 H131 G131 rfl W131 (((0 : Int32) + c0)).toNatClampNeg rfl (own_k3_0 hc0); rw [own_sJ3_0 hc0] at q; simp only [own_ppJ] at q; exact q
     have E131_133 := E116_118.wr W131
     have F131_134 := F116_119.other W131 (Or.inl n_a0_ca)
     have E131_135 := E116_120.wr W131
     have F131_136 := F116_121.other W131 (Or.inl n_sh_ca)
     have F131_137 := F116_122.other W131 (Or.inl n_a0_ca)
     have F131_138 := F116_123.other W131 (Or.inl n_a0_ca)
     have F131_139 := F116_124.other W131 (Or.inl n_a0_ca)
     have E131_140 := E116_125.wr W131
     have V131_141 := V116_126.other W131 n_a1_ca
     have E131_142 := E116_127.wr W131
     have E131_143 := E116_128.wr W131
     have V131_144 := V116_117.other W131 n_fa_ca
     have K131 := K116.wr W131 (Or.inl (List.mem_of_getElem? (i := 1) rfl))
     have O131 := O116.wr W131 pf14
     have N131 := Fr.snoc X131 N116 pf14
     have pre145 : ∀ tg, AT p e below T131 m 126 #[rv a0, rv a1, iv p2, iv (0 : Int32), iv ((0 : Int32) + c0)] [] tg → Steps p.tables e below S0 tg := fun tg kg => pre113 tg (by
      refine XS.ifNo X111.here hx rfl (hb hby d8_107) rfl (XT.ll_ne_f hc114) ?_
      refine XS.aloadN X111.here hx rfl (hb hby d8_110) rfl rfl ?_
      refine st115 _ ?_
      refine XS.iload X115.here hx rfl (hb hby d8_114) rfl ?_
      refine XS.iloadN X115.here hx rfl (hb hby d8_116) rfl ?_
      refine st116 _ ?_
      refine XS.aloadN X116.here hx rfl (hb hby d8_118) rfl rfl ?_
      refine st130 _ ?_
      refine XS.iload X130.here hx rfl (hb hby d8_122) rfl ?_
      show AT p e below T130 m 124 #[rv a0, rv a1, iv p2, iv (0 : Int32), iv ((0 : Int32) + c0)] [(.int ((0 : Int32) + c0)), (.ref ca)] _
      refine XS.lconst X130.here hx rfl (hb hby d8_124) ?_
      refine st131 _ ?_
      exact kg)
     have hj146 : (pI c0 (0 : Int32) (nf Kz0 Fz0 p2) f0) = (pI c0 (0 : Int32) p2 f0) := by simp only [nf, if_neg hc10, if_neg hc52, if_pos hc114]
     have hj147 : (pI c0 (1 : Int32) (nf Kz0 Fz0 p2) f1) = (pI c0 (1 : Int32) p2 f1) := by simp only [nf, if_neg hc10, if_neg hc52, if_pos hc114]
     have hj148 : (pI c0 (2 : Int32) (nf Kz0 Fz0 p2) f2) = (pI c0 (2 : Int32) p2 f2) := by simp only [nf, if_neg hc10, if_neg hc52, if_pos hc114]
     have hj149 : (pJ c0 (0 : Int32) (nc Kz0 Fz0 p2) k0) = (pJ c0 (0 : Int32) (1 : Int64) k0) := by simp only [nc, if_neg hc10, if_neg hc52, if_pos hc114]
     have hj150 : (pJ c0 (1 : Int32) (nc Kz0 Fz0 p2) k1) = (pJ c0 (1 : Int32) (1 : Int64) k1) := by simp only [nc, if_neg hc10, if_neg hc52, if_pos hc114]
     have hj151 : (pJ c0 (2 : Int32) (nc Kz0 Fz0 p2) k2) = (pJ c0 (2 : Int32) (1 : Int64) k2) := by simp only [nc, if_neg hc10, if_neg hc52, if_pos hc114]
     exact ⟨_, _, _, X131, e131, N131, K131, O131, E131_133, F131_134, E131_135, F131_136, F131_137, F131_138, F131_139, E131_140, V131_141, E131_142, E131_143, (by rw [hj146, hj147, hj148]; exact V131_144), (by rw [hj149, hj150, hj151]; exact V131_132), pre145⟩
    ·
     have pre152 : ∀ tg, AT p e below T111 m 126 #[rv a0, rv a1, iv p2, iv (0 : Int32), iv ((0 : Int32) + c0)] [] tg → Steps p.tables e below S0 tg := fun tg kg => pre113 tg (by
      refine XS.ifYes X111.here hx rfl (pc0 := 107) (pc' := 126) rfl (hb hby d8_107) rfl (XT.ll_ne_t hc114) (by decide) (by decide) ?_
      exact kg)
     have hj153 : (pI c0 (0 : Int32) (nf Kz0 Fz0 p2) f0) = f0 := by rw [nf, if_neg hc10, if_neg hc52, if_neg hc114, hFz0]; exact own_psI3_0 hc0
     have hj154 : (pI c0 (1 : Int32) (nf Kz0 Fz0 p2) f1) = f1 := by rw [nf, if_neg hc10, if_neg hc52, if_neg hc114, hFz0]; exact own_psI3_1 hc0
     have hj155 : (pI c0 (2 : Int32) (nf Kz0 Fz0 p2) f2) = f2 := by rw [nf, if_neg hc10, if_neg hc52, if_neg hc114, hFz0]; exact own_psI3_2 hc0
     have hj156 : (pJ c0 (0 : Int32) (nc Kz0 Fz0 p2) k0) = (pJ c0 (0 : Int32) (Kz0 - (1 : Int64)) k0) := by simp only [nc, if_neg hc10, if_neg hc52, if_neg hc114]
     have hj157 : (pJ c0 (1 : Int32) (nc Kz0 Fz0 p2) k1) = (pJ c0 (1 : Int32) (Kz0 - (1 : Int64)) k1) := by simp only [nc, if_neg hc10, if_neg hc52, if_neg hc114]
     have hj158 : (pJ c0 (2 : Int32) (nc Kz0 Fz0 p2) k2) = (pJ c0 (2 : Int32) (Kz0 - (1 : Int64)) k2) := by simp only [nc, if_neg hc10, if_neg hc52, if_neg hc114]
     exact ⟨_, _, _, X111, e111, N97, K97, O97, E97_99, F97_100, E97_101, F97_102, F97_103, F97_104, F97_105, E97_106, V97_107, E97_108, E97_109, (by rw [hj153, hj154, hj155]; exact V97_110), (by rw [hj156, hj157, hj158]; exact V97_98), pre152⟩
 obtain ⟨cl159, Ar159, q159, S159, N159, H159, G159⟩ := id J6_8
 obtain ⟨T160, X160, e160, st160⟩ := getF X6 hx hZ hown (host := "") (Or.inl (ow hw 48 rfl)) Via.refl e6 J6_1 (g := (mkF m 10 #[rv a0, rv a1, iv p2, iv (1 : Int32), iv ((0 : Int32) + c0)] [(.ref a0), (.int (1 : Int32))])) rfl rfl (hb hby d8_10)
 obtain ⟨cq161, kq161, q161a, q161b, q161c⟩ := isOf hZ e160 J6_2
 obtain ⟨_, _, ⟨T161, L161, k161, n161⟩, -, X161, ⟨Lc161, hQ161, l161, y161, z161⟩, st161⟩ := X160.virtualBack hx (y := y9) (z := y9) hown (mvT hZ (ow hw 67 rfl)) (mvT hZ (ow hw 68 rfl)) (notFace_of_selects (args := #[]) (mvT hZ (ow hw 70 rfl))) (mvT hZ (ow hw 70 rfl)) (mvT hZ (ow hw 69 rfl)) (by decide) (backOf (W := 1) (rm9 l Z ar hw [] sh _ h6 n0 O6 J6_3) hZ (ow hw 71 rfl) (ow hw 7 rfl) (by decide) (by decide)) q161a q161c (g := (mkF m 13 #[rv a0, rv a1, iv p2, iv (1 : Int32), iv ((0 : Int32) + c0)] [(.ref sh), (.int (1 : Int32))])) rfl (by rw [hml]; rfl) (Steps.refl _) (argsL := []) (rest := [(.int (1 : Int32))]) (lenOf pd_2 rfl) rfl (by show 2 * 0 + _ ≤ _; exact Nat.le_of_eq rfl) (hb hby d8_13) (fun _ _ => ⟨rfl, e160, (by decide : 0 + 0 ≤ _), (by decide : 0 + 0 ≤ _)⟩)
 dsimp only [Pt.U, Pt.locs, Pt.cells, Pt.slots] at X161 l161 y161 z161 st161 hQ161
 subst l161 y161 z161
 obtain ⟨rfl, N161q, e161⟩ := hQ161
 have N161 := Fr.app N6 N161q
 obtain ⟨cl162, Ar162, q162, S162, N162, H162, G162⟩ := id J6_8
 have hin162 := own_in (1 : Int32) S162 ⟨by decide, by decide⟩
 have hat162 : cl162.slots[((1 : Int32)).toNatClampNeg]? = some (.int c1) := Has.at H162 hin162 rfl
 have pre163 : ∀ tg, AT p e below T161 m 23 #[rv a0, rv a1, iv p2, iv (1 : Int32), iv ((3 : Int32) + c1)] [] tg → Steps p.tables e below S0 tg := fun tg kg => pre6 tg (by
  refine XS.iinc X6.here hx rfl (hb hby d8_126) rfl (l' := #[rv a0, rv a1, iv p2, iv (1 : Int32), iv ((0 : Int32) + c0)]) rfl ?_
  refine XS.goto X6.here hx rfl (pc0 := 129) (pc' := 2) rfl (hb hby d8_129) (by decide) (by decide) ?_
  refine XS.iloadN X6.here hx rfl (hb hby d8_2) rfl ?_
  refine XS.aloadN X6.here hx rfl (hb hby d8_3) rfl rfl ?_
  refine X6.arraylength hx (by rw [e6]; exact Ar159.1) (State.isArrayOf_alike hZ.alike Ar159.2.1) (g := (mkF m 4 #[rv a0, rv a1, iv p2, iv (1 : Int32), iv ((0 : Int32) + c0)] [(.ref a1), (.int (1 : Int32))])) rfl rfl (hb hby d8_4) _ ?_
  rw [len_of S159 N159]
  show AT p e below T6 m 5 #[rv a0, rv a1, iv p2, iv (1 : Int32), iv ((0 : Int32) + c0)] [(.int (2 : Int32)), (.int (1 : Int32))] _
  refine XS.icmpNo X6.here hx rfl (hb hby d8_5) rfl (XT.ii_ge_f ((by decide) : (1 : Int32) < (2 : Int32))) ?_
  refine XS.iloadN X6.here hx rfl (hb hby d8_8) rfl ?_
  refine XS.aloadN X6.here hx rfl (hb hby d8_9) rfl rfl ?_
  refine st160 _ ?_
  refine st161.trans ?_
  refine XS.imul X161.here hx rfl (hb hby d8_16) rfl ?_
  refine XS.aloadN X161.here hx rfl (hb hby d8_17) rfl rfl ?_
  refine XS.iloadN X161.here hx rfl (hb hby d8_18) rfl ?_
  refine X161.iaload hx (j := (1 : Int32)) (v := (.int c1)) (by rw [e161]; exact Ar162.1) (State.isArrayOf_alike hZ.alike Ar162.2.1) Ar162.2.2 hin162 hat162 (g := (mkF m 19 #[rv a0, rv a1, iv p2, iv (1 : Int32), iv ((0 : Int32) + c0)] [(.int (1 : Int32)), (.ref a1), (.int (3 : Int32))])) rfl rfl (hb hby d8_19) _ ?_
  refine XS.iadd X161.here hx rfl (hb hby d8_20) rfl ?_
  refine XS.istore X161.here hx rfl (hb hby d8_21) rfl (l' := #[rv a0, rv a1, iv p2, iv (1 : Int32), iv ((3 : Int32) + c1)]) rfl ?_
  exact kg)
 obtain ⟨Kz1, hKz1⟩ : ∃ z, z = (sJ3 c1 k3 k4 k5) := ⟨_, rfl⟩
 obtain ⟨Fz1, hFz1⟩ : ∃ z, z = (sI3 c1 f3 f4 f5) := ⟨_, rfl⟩
 obtain ⟨T164, h164, L164, X164, e164, N164, K164, O164, J164_0, J164_1, J164_2, J164_3, J164_4, J164_5, J164_6, J164_7, J164_8, J164_9, J164_10, J164_11, J164_12, pre164⟩ : ∃ (T164 : State) (h164 : Heap) (L164 : List Loc), Stand p l e R8_3 s m #[(.ref a0), (.ref a1), (.int p2)] below meth c T164 L164 ((0 + 0) + 0) ((0 + 0) + 0) ∧ T164.heap = h164 ∧ Fr n0 L164 ∧ Keep h0 h164 [fa, ca] ∧ Old Z n0 h164 ∧ Exa Z h164 a0 "com/example/filters_under_siege/filtersundersiege/KeeperPairs" ∧ Fld Z h164 a0 "com/example/filters_under_siege/filtersundersiege/KeeperPairs" "shape" "Lcom/example/filters_under_siege/filtersundersiege/SketchShape;" (.ref sh) ∧ Exa Z h164 sh "com/example/filters_under_siege/filtersundersiege/SketchShape" ∧ Fld Z h164 sh "com/example/filters_under_siege/filtersundersiege/SketchShape" "width" "I" (.int (3 : Int32)) ∧ Fld Z h164 a0 "com/example/filters_under_siege/filtersundersiege/KeeperPairs" "fingerprints" "[I" (.ref fa) ∧ Fld Z h164 a0 "com/example/filters_under_siege/filtersundersiege/KeeperPairs" "counts" "[J" (.ref ca) ∧ Fld Z h164 a0 "com/example/filters_under_siege/filtersundersiege/KeeperPairs" "knocksDown" "Ljava/util/function/LongPredicate;" (.ref w_lam) ∧ Exa Z h164 a1 "[I" ∧ Arv Z h164 a1 kk .int (2 : Int32) [(.int c0), (.int c1)] (.int (0 : Int32)) ∧ Exa Z h164 fa "[I" ∧ Exa Z h164 ca "[J" ∧ Arv Z h164 fa kf .int (6 : Int32) [(.int (pI c0 (0 : Int32) (nf Kz0 Fz0 p2) f0)), (.int (pI c0 (1 : Int32) (nf Kz0 Fz0 p2) f1)), (.int (pI c0 (2 : Int32) (nf Kz0 Fz0 p2) f2)), (.int (pI c1 (0 : Int32) (nf Kz1 Fz1 p2) f3)), (.int (pI c1 (1 : Int32) (nf Kz1 Fz1 p2) f4)), (.int (pI c1 (2 : Int32) (nf Kz1 Fz1 p2) f5))] (.int (0 : Int32)) ∧ Arv Z h164 ca kc .long (6 : Int32) [(.long (pJ c0 (0 : Int32) (nc Kz0 Fz0 p2) k0)), (.long (pJ c0 (1 : Int32) (nc Kz0 Fz0 p2) k1)), (.long (pJ c0 (2 : Int32) (nc Kz0 Fz0 p2) k2)), (.long (pJ c1 (0 : Int32) (nc Kz1 Fz1 p2) k3)), (.long (pJ c1 (1 : Int32) (nc Kz1 Fz1 p2) k4)), (.long (pJ c1 (2 : Int32) (nc Kz1 Fz1 p2) k5))] (.long (0 : Int64)) ∧ (∀ tg, AT p e below T164 m 126 #[rv a0, rv a1, iv p2, iv (1 : Int32), iv ((3 : Int32) + c1)] [] tg → Steps p.tables e below S0 tg) := by
  obtain ⟨T165, X165, e165, st165⟩ := getF X161 hx hZ hown (host := "") (Or.inl (ow hw 60 rfl)) Via.refl e161 J6_5 (g := (mkF m 24 #[rv a0, rv a1, iv p2, iv (1 : Int32), iv ((3 : Int32) + c1)] [(.ref a0)])) rfl rfl (hb hby d8_24)
  obtain ⟨cl166, Ar166, q166, S166, N166, H166, G166⟩ := id J6_12
  have hin166 := own_in ((3 : Int32) + c1) S166 (own_b3_3 hc1)
  have hat166 : cl166.slots[(((3 : Int32) + c1)).toNatClampNeg]? = some (.long Kz1) := Has.at H166 hin166 ((own_gJ3_3 hc1).trans (congrArg Value.long hKz1.symm))
  have pre167 : ∀ tg, AT p e below T165 m 32 #[rv a0, rv a1, iv p2, iv (1 : Int32), iv ((3 : Int32) + c1)] [(.int (XT.cmpL Kz1 (0 : Int64)))] tg → Steps p.tables e below S0 tg := fun tg kg => pre163 tg (by
   refine XS.aloadN X161.here hx rfl (hb hby d8_23) rfl rfl ?_
   refine st165 _ ?_
   refine XS.iload X165.here hx rfl (hb hby d8_27) rfl ?_
   refine X165.laload hx (j := ((3 : Int32) + c1)) (v := (.long Kz1)) (by rw [e165]; exact Ar166.1) (State.isArrayOf_alike hZ.alike Ar166.2.1) Ar166.2.2 hin166 hat166 (g := (mkF m 29 #[rv a0, rv a1, iv p2, iv (1 : Int32), iv ((3 : Int32) + c1)] [(.int ((3 : Int32) + c1)), (.ref ca)])) rfl rfl (hb hby d8_29) _ ?_
   refine XS.lconst X165.here hx rfl (hb hby d8_30) ?_
   refine XS.lcmp X165.here hx rfl (hb hby d8_31) rfl ?_
   exact kg)
  rcases Decidable.em (Kz1 = (0 : Int64)) with hc168 | hc168
  ·
   obtain ⟨T169, X169, e169, st169⟩ := getF X165 hx hZ hown (host := "") (Or.inl (ow hw 57 rfl)) Via.refl e165 J6_4 (g := (mkF m 47 #[rv a0, rv a1, iv p2, iv (1 : Int32), iv ((3 : Int32) + c1)] [(.ref a0)])) rfl rfl (hb hby d8_47)
   obtain ⟨cl170, Ar170, q170, S170, M170, H170, G170⟩ := id J6_11
   have hin170 := own_in ((3 : Int32) + c1) S170 (own_b3_3 hc1)
   obtain ⟨T170, h170, X170, e170, W170, st170⟩ := stI X169 hx hZ e169 Ar170 (j := ((3 : Int32) + c1)) hin170 (g := (mkF m 53 #[rv a0, rv a1, iv p2, iv (1 : Int32), iv ((3 : Int32) + c1)] [(.int p2), (.int ((3 : Int32) + c1)), (.ref fa)])) rfl rfl (hb hby d8_53)
   have V170_171 : Arv Z h170 fa kf .int (6 : Int32) [(.int (pI c0 (0 : Int32) (nf Kz0 Fz0 p2) f0)), (.int (pI c0 (1 : Int32) (nf Kz0 Fz0 p2) f1)), (.int (pI c0 (2 : Int32) (nf Kz0 Fz0 p2) f2)), (.int (pI c1 (0 : Int32) p2 f3)), (.int (pI c1 (1 : Int32) p2 f4)), (.int (pI c1 (2 : Int32) p2 f5))] (.int (0 : Int32)) := by have q := Arv.set Ar170 q170 S170 M170 H170 G170 rfl W170 (((3 : Int32) + c1)).toNatClampNeg rfl (own_k3_3 hc1); rw [own_sI3_3 hc1] at q; exact q
   have E170_172 := J6_0.wr W170
   have F170_173 := J6_1.other W170 (Or.inl n_a0_fa)
   have E170_174 := J6_2.wr W170
   have F170_175 := J6_3.other W170 (Or.inl n_sh_fa)
   have F170_176 := J6_4.other W170 (Or.inl n_a0_fa)
   have F170_177 := J6_5.other W170 (Or.inl n_a0_fa)
   have F170_178 := J6_6.other W170 (Or.inl n_a0_fa)
   have E170_179 := J6_7.wr W170
   have V170_180 := J6_8.other W170 pf15
   have E170_181 := J6_9.wr W170
   have E170_182 := J6_10.wr W170
   have V170_183 := J6_12.other W170 (Ne.symm n_fa_ca)
   have K170 := K6.wr W170 (Or.inl (List.mem_of_getElem? (i := 0) rfl))
   have O170 := O6.wr W170 pf13
   have N170 := Fr.snoc X170 N161 pf13
   obtain ⟨T184, X184, e184, st184⟩ := getF X170 hx hZ hown (host := "") (Or.inl (ow hw 60 rfl)) Via.refl e170 F170_177 (g := (mkF m 55 #[rv a0, rv a1, iv p2, iv (1 : Int32), iv ((3 : Int32) + c1)] [(.ref a0)])) rfl rfl (hb hby d8_55)
   obtain ⟨cl185, Ar185, q185, S185, N185, H185, G185⟩ := id V170_183
   have hin185 := own_in ((3 : Int32) + c1) S185 (own_b3_3 hc1)
   have hat185 : cl185.slots[(((3 : Int32) + c1)).toNatClampNeg]? = some (.long Kz1) := Has.at H185 hin185 ((own_gJ3_3 hc1).trans (congrArg Value.long hKz1.symm))
   obtain ⟨cl186, Ar186, q186, S186, M186, H186, G186⟩ := id V170_183
   have hin186 := own_in ((3 : Int32) + c1) S186 (own_b3_3 hc1)
   obtain ⟨T186, h186, X186, e186, W186, st186⟩ := stJ X184 hx hZ e184 Ar186 (j := ((3 : Int32) + c1)) hin186 (g := (mkF m 64 #[rv a0, rv a1, iv p2, iv (1 : Int32), iv ((3 : Int32) + c1)] [(.long (Kz1 + (1 : Int64))), (.int ((3 : Int32) + c1)), (.ref ca)])) rfl rfl (hb hby d8_64)
   have V186_187 : Arv Z h186 ca kc .long (6 : Int32) [(.long (pJ c0 (0 : Int32) (nc Kz0 Fz0 p2) k0)), (.long (pJ c0 (1 : Int32) (nc Kz0 Fz0 p2) k1)), (.long (pJ c0 (2 : Int32) (nc Kz0 Fz0 p2) k2)), (.long (pJ c1 (0 : Int32) (Kz1 + (1 : Int64)) k3)), (.long (pJ c1 (1 : Int32) (Kz1 + (1 : Int64)) k4)), (.long (pJ c1 (2 : Int32) (Kz1 + (1 : Int64)) k5))] (.long (0 : Int64)) := by have q := Arv.set Ar186 q186 S186 M186 H186 G186 rfl W186 (((3 : Int32) + c1)).toNatClampNeg rfl (own_k3_3 hc1); rw [own_sJ3_3 hc1] at q; exact q
   have E186_188 := E170_172.wr W186
   have F186_189 := F170_173.other W186 (Or.inl n_a0_ca)
   have E186_190 := E170_174.wr W186
   have F186_191 := F170_175.other W186 (Or.inl n_sh_ca)
   have F186_192 := F170_176.other W186 (Or.inl n_a0_ca)
   have F186_193 := F170_177.other W186 (Or.inl n_a0_ca)
   have F186_194 := F170_178.other W186 (Or.inl n_a0_ca)
   have E186_195 := E170_179.wr W186
   have V186_196 := V170_180.other W186 n_a1_ca
   have E186_197 := E170_181.wr W186
   have E186_198 := E170_182.wr W186
   have V186_199 := V170_171.other W186 n_fa_ca
   have K186 := K170.wr W186 (Or.inl (List.mem_of_getElem? (i := 1) rfl))
   have O186 := O170.wr W186 pf14
   have N186 := Fr.snoc X186 N170 pf14
   have pre200 : ∀ tg, AT p e below T186 m 126 #[rv a0, rv a1, iv p2, iv (1 : Int32), iv ((3 : Int32) + c1)] [] tg → Steps p.tables e below S0 tg := fun tg kg => pre167 tg (by
    refine XS.ifYes X165.here hx rfl (pc0 := 32) (pc' := 46) rfl (hb hby d8_32) rfl (XT.ll_eq_t hc168) (by decide) (by decide) ?_
    refine XS.aloadN X165.here hx rfl (hb hby d8_46) rfl rfl ?_
    refine st169 _ ?_
    refine XS.iload X169.here hx rfl (hb hby d8_50) rfl ?_
    refine XS.iloadN X169.here hx rfl (hb hby d8_52) rfl ?_
    refine st170 _ ?_
    refine XS.aloadN X170.here hx rfl (hb hby d8_54) rfl rfl ?_
    refine st184 _ ?_
    refine XS.iload X184.here hx rfl (hb hby d8_58) rfl ?_
    refine XT.dup2 X184.here hx rfl (hb hby d8_60) rfl rfl rfl ?_
    refine X184.laload hx (j := ((3 : Int32) + c1)) (v := (.long Kz1)) (by rw [e184]; exact Ar185.1) (State.isArrayOf_alike hZ.alike Ar185.2.1) Ar185.2.2 hin185 hat185 (g := (mkF m 61 #[rv a0, rv a1, iv p2, iv (1 : Int32), iv ((3 : Int32) + c1)] [(.int ((3 : Int32) + c1)), (.ref ca), (.int ((3 : Int32) + c1)), (.ref ca)])) rfl rfl (hb hby d8_61) _ ?_
    refine XS.lconst X184.here hx rfl (hb hby d8_62) ?_
    refine XS.ladd X184.here hx rfl (hb hby d8_63) rfl ?_
    refine st186 _ ?_
    refine XS.goto X186.here hx rfl (pc0 := 65) (pc' := 126) rfl (hb hby d8_65) (by decide) (by decide) ?_
    exact kg)
   have hj201 : (pI c1 (0 : Int32) (nf Kz1 Fz1 p2) f3) = (pI c1 (0 : Int32) p2 f3) := by simp only [nf, if_pos hc168]
   have hj202 : (pI c1 (1 : Int32) (nf Kz1 Fz1 p2) f4) = (pI c1 (1 : Int32) p2 f4) := by simp only [nf, if_pos hc168]
   have hj203 : (pI c1 (2 : Int32) (nf Kz1 Fz1 p2) f5) = (pI c1 (2 : Int32) p2 f5) := by simp only [nf, if_pos hc168]
   have hj204 : (pJ c1 (0 : Int32) (nc Kz1 Fz1 p2) k3) = (pJ c1 (0 : Int32) (Kz1 + (1 : Int64)) k3) := by simp only [nc, if_pos hc168]
   have hj205 : (pJ c1 (1 : Int32) (nc Kz1 Fz1 p2) k4) = (pJ c1 (1 : Int32) (Kz1 + (1 : Int64)) k4) := by simp only [nc, if_pos hc168]
   have hj206 : (pJ c1 (2 : Int32) (nc Kz1 Fz1 p2) k5) = (pJ c1 (2 : Int32) (Kz1 + (1 : Int64)) k5) := by simp only [nc, if_pos hc168]
   exact ⟨_, _, _, X186, e186, N186, K186, O186, E186_188, F186_189, E186_190, F186_191, F186_192, F186_193, F186_194, E186_195, V186_196, E186_197, E186_198, (by rw [hj201, hj202, hj203]; exact V186_199), (by rw [hj204, hj205, hj206]; exact V186_187), pre200⟩
  ·
   obtain ⟨T207, X207, e207, st207⟩ := getF X165 hx hZ hown (host := "") (Or.inl (ow hw 57 rfl)) Via.refl e165 J6_4 (g := (mkF m 36 #[rv a0, rv a1, iv p2, iv (1 : Int32), iv ((3 : Int32) + c1)] [(.ref a0)])) rfl rfl (hb hby d8_36)
   obtain ⟨cl208, Ar208, q208, S208, N208, H208, G208⟩ := id J6_11
   have hin208 := own_in ((3 : Int32) + c1) S208 (own_b3_3 hc1)
   have hat208 : cl208.slots[(((3 : Int32) + c1)).toNatClampNeg]? = some (.int Fz1) := Has.at H208 hin208 ((own_gI3_3 hc1).trans (congrArg Value.int hFz1.symm))
   have pre209 : ∀ tg, AT p e below T207 m 43 #[rv a0, rv a1, iv p2, iv (1 : Int32), iv ((3 : Int32) + c1)] [(.int p2), (.int Fz1)] tg → Steps p.tables e below S0 tg := fun tg kg => pre167 tg (by
    refine XS.ifNo X165.here hx rfl (hb hby d8_32) rfl (XT.ll_eq_f hc168) ?_
    refine XS.aloadN X165.here hx rfl (hb hby d8_35) rfl rfl ?_
    refine st207 _ ?_
    refine XS.iload X207.here hx rfl (hb hby d8_39) rfl ?_
    refine X207.iaload hx (j := ((3 : Int32) + c1)) (v := (.int Fz1)) (by rw [e207]; exact Ar208.1) (State.isArrayOf_alike hZ.alike Ar208.2.1) Ar208.2.2 hin208 hat208 (g := (mkF m 41 #[rv a0, rv a1, iv p2, iv (1 : Int32), iv ((3 : Int32) + c1)] [(.int ((3 : Int32) + c1)), (.ref fa)])) rfl rfl (hb hby d8_41) _ ?_
    refine XS.iloadN X207.here hx rfl (hb hby d8_42) rfl ?_
    exact kg)
   rcases Decidable.em (Fz1 = p2) with hc210 | hc210
   ·
    obtain ⟨T211, X211, e211, st211⟩ := getF X207 hx hZ hown (host := "") (Or.inl (ow hw 57 rfl)) Via.refl e207 J6_4 (g := (mkF m 47 #[rv a0, rv a1, iv p2, iv (1 : Int32), iv ((3 : Int32) + c1)] [(.ref a0)])) rfl rfl (hb hby d8_47)
    obtain ⟨cl212, Ar212, q212, S212, M212, H212, G212⟩ := id J6_11
    have hin212 := own_in ((3 : Int32) + c1) S212 (own_b3_3 hc1)
    obtain ⟨T212, h212, X212, e212, W212, st212⟩ := stI X211 hx hZ e211 Ar212 (j := ((3 : Int32) + c1)) hin212 (g := (mkF m 53 #[rv a0, rv a1, iv p2, iv (1 : Int32), iv ((3 : Int32) + c1)] [(.int p2), (.int ((3 : Int32) + c1)), (.ref fa)])) rfl rfl (hb hby d8_53)
    have V212_213 : Arv Z h212 fa kf .int (6 : Int32) [(.int (pI c0 (0 : Int32) (nf Kz0 Fz0 p2) f0)), (.int (pI c0 (1 : Int32) (nf Kz0 Fz0 p2) f1)), (.int (pI c0 (2 : Int32) (nf Kz0 Fz0 p2) f2)), (.int (pI c1 (0 : Int32) p2 f3)), (.int (pI c1 (1 : Int32) p2 f4)), (.int (pI c1 (2 : Int32) p2 f5))] (.int (0 : Int32)) := by have q := Arv.set Ar212 q212 S212 M212 H212 G212 rfl W212 (((3 : Int32) + c1)).toNatClampNeg rfl (own_k3_3 hc1); rw [own_sI3_3 hc1] at q; exact q
    have E212_214 := J6_0.wr W212
    have F212_215 := J6_1.other W212 (Or.inl n_a0_fa)
    have E212_216 := J6_2.wr W212
    have F212_217 := J6_3.other W212 (Or.inl n_sh_fa)
    have F212_218 := J6_4.other W212 (Or.inl n_a0_fa)
    have F212_219 := J6_5.other W212 (Or.inl n_a0_fa)
    have F212_220 := J6_6.other W212 (Or.inl n_a0_fa)
    have E212_221 := J6_7.wr W212
    have V212_222 := J6_8.other W212 pf15
    have E212_223 := J6_9.wr W212
    have E212_224 := J6_10.wr W212
    have V212_225 := J6_12.other W212 (Ne.symm n_fa_ca)
    have K212 := K6.wr W212 (Or.inl (List.mem_of_getElem? (i := 0) rfl))
    have O212 := O6.wr W212 pf13
    have N212 := Fr.snoc X212 N161 pf13
    obtain ⟨T226, X226, e226, st226⟩ := getF X212 hx hZ hown (host := "") (Or.inl (ow hw 60 rfl)) Via.refl e212 F212_219 (g := (mkF m 55 #[rv a0, rv a1, iv p2, iv (1 : Int32), iv ((3 : Int32) + c1)] [(.ref a0)])) rfl rfl (hb hby d8_55)
    obtain ⟨cl227, Ar227, q227, S227, N227, H227, G227⟩ := id V212_225
    have hin227 := own_in ((3 : Int32) + c1) S227 (own_b3_3 hc1)
    have hat227 : cl227.slots[(((3 : Int32) + c1)).toNatClampNeg]? = some (.long Kz1) := Has.at H227 hin227 ((own_gJ3_3 hc1).trans (congrArg Value.long hKz1.symm))
    obtain ⟨cl228, Ar228, q228, S228, M228, H228, G228⟩ := id V212_225
    have hin228 := own_in ((3 : Int32) + c1) S228 (own_b3_3 hc1)
    obtain ⟨T228, h228, X228, e228, W228, st228⟩ := stJ X226 hx hZ e226 Ar228 (j := ((3 : Int32) + c1)) hin228 (g := (mkF m 64 #[rv a0, rv a1, iv p2, iv (1 : Int32), iv ((3 : Int32) + c1)] [(.long (Kz1 + (1 : Int64))), (.int ((3 : Int32) + c1)), (.ref ca)])) rfl rfl (hb hby d8_64)
    have V228_229 : Arv Z h228 ca kc .long (6 : Int32) [(.long (pJ c0 (0 : Int32) (nc Kz0 Fz0 p2) k0)), (.long (pJ c0 (1 : Int32) (nc Kz0 Fz0 p2) k1)), (.long (pJ c0 (2 : Int32) (nc Kz0 Fz0 p2) k2)), (.long (pJ c1 (0 : Int32) (Kz1 + (1 : Int64)) k3)), (.long (pJ c1 (1 : Int32) (Kz1 + (1 : Int64)) k4)), (.long (pJ c1 (2 : Int32) (Kz1 + (1 : Int64)) k5))] (.long (0 : Int64)) := by have q := Arv.set Ar228 q228 S228 M228 H228 G228 rfl W228 (((3 : Int32) + c1)).toNatClampNeg rfl (own_k3_3 hc1); rw [own_sJ3_3 hc1] at q; exact q
    have E228_230 := E212_214.wr W228
    have F228_231 := F212_215.other W228 (Or.inl n_a0_ca)
    have E228_232 := E212_216.wr W228
    have F228_233 := F212_217.other W228 (Or.inl n_sh_ca)
    have F228_234 := F212_218.other W228 (Or.inl n_a0_ca)
    have F228_235 := F212_219.other W228 (Or.inl n_a0_ca)
    have F228_236 := F212_220.other W228 (Or.inl n_a0_ca)
    have E228_237 := E212_221.wr W228
    have V228_238 := V212_222.other W228 n_a1_ca
    have E228_239 := E212_223.wr W228
    have E228_240 := E212_224.wr W228
    have V228_241 := V212_213.other W228 n_fa_ca
    have K228 := K212.wr W228 (Or.inl (List.mem_of_getElem? (i := 1) rfl))
    have O228 := O212.wr W228 pf14
    have N228 := Fr.snoc X228 N212 pf14
    have pre242 : ∀ tg, AT p e below T228 m 126 #[rv a0, rv a1, iv p2, iv (1 : Int32), iv ((3 : Int32) + c1)] [] tg → Steps p.tables e below S0 tg := fun tg kg => pre209 tg (by
     refine XS.icmpNo X207.here hx rfl (hb hby d8_43) rfl (XT.ii_ne_f hc210) ?_
     refine XS.aloadN X207.here hx rfl (hb hby d8_46) rfl rfl ?_
     refine st211 _ ?_
     refine XS.iload X211.here hx rfl (hb hby d8_50) rfl ?_
     refine XS.iloadN X211.here hx rfl (hb hby d8_52) rfl ?_
     refine st212 _ ?_
     refine XS.aloadN X212.here hx rfl (hb hby d8_54) rfl rfl ?_
     refine st226 _ ?_
     refine XS.iload X226.here hx rfl (hb hby d8_58) rfl ?_
     refine XT.dup2 X226.here hx rfl (hb hby d8_60) rfl rfl rfl ?_
     refine X226.laload hx (j := ((3 : Int32) + c1)) (v := (.long Kz1)) (by rw [e226]; exact Ar227.1) (State.isArrayOf_alike hZ.alike Ar227.2.1) Ar227.2.2 hin227 hat227 (g := (mkF m 61 #[rv a0, rv a1, iv p2, iv (1 : Int32), iv ((3 : Int32) + c1)] [(.int ((3 : Int32) + c1)), (.ref ca), (.int ((3 : Int32) + c1)), (.ref ca)])) rfl rfl (hb hby d8_61) _ ?_
     refine XS.lconst X226.here hx rfl (hb hby d8_62) ?_
     refine XS.ladd X226.here hx rfl (hb hby d8_63) rfl ?_
     refine st228 _ ?_
     refine XS.goto X228.here hx rfl (pc0 := 65) (pc' := 126) rfl (hb hby d8_65) (by decide) (by decide) ?_
     exact kg)
    have hj243 : (pI c1 (0 : Int32) (nf Kz1 Fz1 p2) f3) = (pI c1 (0 : Int32) p2 f3) := by simp only [nf, if_neg hc168, if_pos hc210]
    have hj244 : (pI c1 (1 : Int32) (nf Kz1 Fz1 p2) f4) = (pI c1 (1 : Int32) p2 f4) := by simp only [nf, if_neg hc168, if_pos hc210]
    have hj245 : (pI c1 (2 : Int32) (nf Kz1 Fz1 p2) f5) = (pI c1 (2 : Int32) p2 f5) := by simp only [nf, if_neg hc168, if_pos hc210]
    have hj246 : (pJ c1 (0 : Int32) (nc Kz1 Fz1 p2) k3) = (pJ c1 (0 : Int32) (Kz1 + (1 : Int64)) k3) := by simp only [nc, if_neg hc168, if_pos hc210]
    have hj247 : (pJ c1 (1 : Int32) (nc Kz1 Fz1 p2) k4) = (pJ c1 (1 : Int32) (Kz1 + (1 : Int64)) k4) := by simp only [nc, if_neg hc168, if_pos hc210]
    have hj248 : (pJ c1 (2 : Int32) (nc Kz1 Fz1 p2) k5) = (pJ c1 (2 : Int32) (Kz1 + (1 : Int64)) k5) := by simp only [nc, if_neg hc168, if_pos hc210]
    exact ⟨_, _, _, X228, e228, N228, K228, O228, E228_230, F228_231, E228_232, F228_233, F228_234, F228_235, F228_236, E228_237, V228_238, E228_239, E228_240, (by rw [hj243, hj244, hj245]; exact V228_241), (by rw [hj246, hj247, hj248]; exact V228_229), pre242⟩
   ·
    obtain ⟨T249, X249, e249, st249⟩ := getF X207 hx hZ hown (host := "") (Or.inl (ow hw 50 rfl)) Via.refl e207 J6_6 (g := (mkF m 69 #[rv a0, rv a1, iv p2, iv (1 : Int32), iv ((3 : Int32) + c1)] [(.ref a0)])) rfl rfl (hb hby d8_69)
    obtain ⟨T250, X250, e250, st250⟩ := getF X249 hx hZ hown (host := "") (Or.inl (ow hw 60 rfl)) Via.refl e249 J6_5 (g := (mkF m 73 #[rv a0, rv a1, iv p2, iv (1 : Int32), iv ((3 : Int32) + c1)] [(.ref a0), (.ref w_lam)])) rfl rfl (hb hby d8_73)
    obtain ⟨cl251, Ar251, q251, S251, N251, H251, G251⟩ := id J6_12
    have hin251 := own_in ((3 : Int32) + c1) S251 (own_b3_3 hc1)
    have hat251 : cl251.slots[(((3 : Int32) + c1)).toNatClampNeg]? = some (.long Kz1) := Has.at H251 hin251 ((own_gJ3_3 hc1).trans (congrArg Value.long hKz1.symm))
    obtain ⟨T252, X252, e252, st252⟩ := own_test X250 hx hw hZ hown HLm O6 e250 (g := (mkF m 79 #[rv a0, rv a1, iv p2, iv (1 : Int32), iv ((3 : Int32) + c1)] [(.long Kz1), (.ref w_lam)])) rfl (by rw [hml]; rfl) rfl (hb hby d8_79) (W := 0) (by show 2 * 0 + _ ≤ _; exact Nat.le_of_eq rfl) (by decide) (by decide) (by decide) (by decide)
    obtain ⟨T253, X253, e253, st253⟩ := getF X252 hx hZ hown (host := "") (Or.inl (ow hw 60 rfl)) Via.refl e252 J6_5 (g := (mkF m 88 #[rv a0, rv a1, iv p2, iv (1 : Int32), iv ((3 : Int32) + c1)] [(.ref a0)])) rfl rfl (hb hby d8_88)
    obtain ⟨cl254, Ar254, q254, S254, N254, H254, G254⟩ := id J6_12
    have hin254 := own_in ((3 : Int32) + c1) S254 (own_b3_3 hc1)
    have hat254 : cl254.slots[(((3 : Int32) + c1)).toNatClampNeg]? = some (.long Kz1) := Has.at H254 hin254 ((own_gJ3_3 hc1).trans (congrArg Value.long hKz1.symm))
    obtain ⟨cl255, Ar255, q255, S255, M255, H255, G255⟩ := id J6_12
    have hin255 := own_in ((3 : Int32) + c1) S255 (own_b3_3 hc1)
    obtain ⟨T255, h255, X255, e255, W255, st255⟩ := stJ X253 hx hZ e253 Ar255 (j := ((3 : Int32) + c1)) hin255 (g := (mkF m 97 #[rv a0, rv a1, iv p2, iv (1 : Int32), iv ((3 : Int32) + c1)] [(.long (Kz1 - (1 : Int64))), (.int ((3 : Int32) + c1)), (.ref ca)])) rfl rfl (hb hby d8_97)
    have V255_256 : Arv Z h255 ca kc .long (6 : Int32) [(.long (pJ c0 (0 : Int32) (nc Kz0 Fz0 p2) k0)), (.long (pJ c0 (1 : Int32) (nc Kz0 Fz0 p2) k1)), (.long (pJ c0 (2 : Int32) (nc Kz0 Fz0 p2) k2)), (.long (pJ c1 (0 : Int32) (Kz1 - (1 : Int64)) k3)), (.long (pJ c1 (1 : Int32) (Kz1 - (1 : Int64)) k4)), (.long (pJ c1 (2 : Int32) (Kz1 - (1 : Int64)) k5))] (.long (0 : Int64)) := by have q := Arv.set Ar255 q255 S255 M255 H255 G255 rfl W255 (((3 : Int32) + c1)).toNatClampNeg rfl (own_k3_3 hc1); rw [own_sJ3_3 hc1] at q; exact q
    have E255_257 := J6_0.wr W255
    have F255_258 := J6_1.other W255 (Or.inl n_a0_ca)
    have E255_259 := J6_2.wr W255
    have F255_260 := J6_3.other W255 (Or.inl n_sh_ca)
    have F255_261 := J6_4.other W255 (Or.inl n_a0_ca)
    have F255_262 := J6_5.other W255 (Or.inl n_a0_ca)
    have F255_263 := J6_6.other W255 (Or.inl n_a0_ca)
    have E255_264 := J6_7.wr W255
    have V255_265 := J6_8.other W255 n_a1_ca
    have E255_266 := J6_9.wr W255
    have E255_267 := J6_10.wr W255
    have V255_268 := J6_11.other W255 n_fa_ca
    have K255 := K6.wr W255 (Or.inl (List.mem_of_getElem? (i := 1) rfl))
    have O255 := O6.wr W255 pf14
    have N255 := Fr.snoc X255 N161 pf14
    obtain ⟨T269, X269, e269, st269⟩ := getF X255 hx hZ hown (host := "") (Or.inl (ow hw 60 rfl)) Via.refl e255 F255_262 (g := (mkF m 99 #[rv a0, rv a1, iv p2, iv (1 : Int32), iv ((3 : Int32) + c1)] [(.ref a0)])) rfl rfl (hb hby d8_99)
    obtain ⟨cl270, Ar270, q270, S270, N270, H270, G270⟩ := id V255_256
    have hin270 := own_in ((3 : Int32) + c1) S270 (own_b3_3 hc1)
    have hat270 : cl270.slots[(((3 : Int32) + c1)).toNatClampNeg]? = some (.long (Kz1 - (1 : Int64))) := Has.at H270 hin270 ((own_gJ3_3 hc1).trans (congrArg Value.long (own_spJ3 hc1)))
    have pre271 : ∀ tg, AT p e below T269 m 107 #[rv a0, rv a1, iv p2, iv (1 : Int32), iv ((3 : Int32) + c1)] [(.int (XT.cmpL (Kz1 - (1 : Int64)) (0 : Int64)))] tg → Steps p.tables e below S0 tg := fun tg kg => pre209 tg (by
     refine XS.icmpYes X207.here hx rfl (pc0 := 43) (pc' := 68) rfl (hb hby d8_43) rfl (XT.ii_ne_t hc210) (by decide) (by decide) ?_
     refine XS.aloadN X207.here hx rfl (hb hby d8_68) rfl rfl ?_
     refine st249 _ ?_
     refine XS.aloadN X249.here hx rfl (hb hby d8_72) rfl rfl ?_
     refine st250 _ ?_
     refine XS.iload X250.here hx rfl (hb hby d8_76) rfl ?_
     refine X250.laload hx (j := ((3 : Int32) + c1)) (v := (.long Kz1)) (by rw [e250]; exact Ar251.1) (State.isArrayOf_alike hZ.alike Ar251.2.1) Ar251.2.2 hin251 hat251 (g := (mkF m 78 #[rv a0, rv a1, iv p2, iv (1 : Int32), iv ((3 : Int32) + c1)] [(.int ((3 : Int32) + c1)), (.ref ca), (.ref w_lam)])) rfl rfl (hb hby d8_78) _ ?_
     refine st252 _ ?_
     show AT p e below T252 m 84 #[rv a0, rv a1, iv p2, iv (1 : Int32), iv ((3 : Int32) + c1)] [(.int (1 : Int32))] _
     refine XS.ifNo X252.here hx rfl (hb hby d8_84) rfl (XT.i0_eq_f ((by decide) : ¬ ((1 : Int32) = (0 : Int32)))) ?_
     refine XS.aloadN X252.here hx rfl (hb hby d8_87) rfl rfl ?_
     refine st253 _ ?_
     refine XS.iload X253.here hx rfl (hb hby d8_91) rfl ?_
     refine XT.dup2 X253.here hx rfl (hb hby d8_93) rfl rfl rfl ?_
     refine X253.laload hx (j := ((3 : Int32) + c1)) (v := (.long Kz1)) (by rw [e253]; exact Ar254.1) (State.isArrayOf_alike hZ.alike Ar254.2.1) Ar254.2.2 hin254 hat254 (g := (mkF m 94 #[rv a0, rv a1, iv p2, iv (1 : Int32), iv ((3 : Int32) + c1)] [(.int ((3 : Int32) + c1)), (.ref ca), (.int ((3 : Int32) + c1)), (.ref ca)])) rfl rfl (hb hby d8_94) _ ?_
     refine XS.lconst X253.here hx rfl (hb hby d8_95) ?_
     refine XS.lsub X253.here hx rfl (hb hby d8_96) rfl ?_
     refine st255 _ ?_
     refine XS.aloadN X255.here hx rfl (hb hby d8_98) rfl rfl ?_
     refine st269 _ ?_
     refine XS.iload X269.here hx rfl (hb hby d8_102) rfl ?_
     refine X269.laload hx (j := ((3 : Int32) + c1)) (v := (.long (Kz1 - (1 : Int64)))) (by rw [e269]; exact Ar270.1) (State.isArrayOf_alike hZ.alike Ar270.2.1) Ar270.2.2 hin270 hat270 (g := (mkF m 104 #[rv a0, rv a1, iv p2, iv (1 : Int32), iv ((3 : Int32) + c1)] [(.int ((3 : Int32) + c1)), (.ref ca)])) rfl rfl (hb hby d8_104) _ ?_
     refine XS.lconst X269.here hx rfl (hb hby d8_105) ?_
     refine XS.lcmp X269.here hx rfl (hb hby d8_106) rfl ?_
     exact kg)
    rcases Decidable.em ((Kz1 - (1 : Int64)) = (0 : Int64)) with hc272 | hc272
    ·
     obtain ⟨T273, X273, e273, st273⟩ := getF X269 hx hZ hown (host := "") (Or.inl (ow hw 57 rfl)) Via.refl e269 F255_261 (g := (mkF m 111 #[rv a0, rv a1, iv p2, iv (1 : Int32), iv ((3 : Int32) + c1)] [(.ref a0)])) rfl rfl (hb hby d8_111)
     obtain ⟨cl274, Ar274, q274, S274, M274, H274, G274⟩ := id V255_268
     have hin274 := own_in ((3 : Int32) + c1) S274 (own_b3_3 hc1)
     obtain ⟨T274, h274, X274, e274, W274, st274⟩ := stI X273 hx hZ e273 Ar274 (j := ((3 : Int32) + c1)) hin274 (g := (mkF m 117 #[rv a0, rv a1, iv p2, iv (1 : Int32), iv ((3 : Int32) + c1)] [(.int p2), (.int ((3 : Int32) + c1)), (.ref fa)])) rfl rfl (hb hby d8_117)
     have V274_275 : Arv Z h274 fa kf .int (6 : Int32) [(.int (pI c0 (0 : Int32) (nf Kz0 Fz0 p2) f0)), (.int (pI c0 (1 : Int32) (nf Kz0 Fz0 p2) f1)), (.int (pI c0 (2 : Int32) (nf Kz0 Fz0 p2) f2)), (.int (pI c1 (0 : Int32) p2 f3)), (.int (pI c1 (1 : Int32) p2 f4)), (.int (pI c1 (2 : Int32) p2 f5))] (.int (0 : Int32)) := by have q := Arv.set Ar274 q274 S274 M274 H274 G274 rfl W274 (((3 : Int32) + c1)).toNatClampNeg rfl (own_k3_3 hc1); rw [own_sI3_3 hc1] at q; exact q
     have E274_276 := E255_257.wr W274
     have F274_277 := F255_258.other W274 (Or.inl n_a0_fa)
     have E274_278 := E255_259.wr W274
     have F274_279 := F255_260.other W274 (Or.inl n_sh_fa)
     have F274_280 := F255_261.other W274 (Or.inl n_a0_fa)
     have F274_281 := F255_262.other W274 (Or.inl n_a0_fa)
     have F274_282 := F255_263.other W274 (Or.inl n_a0_fa)
     have E274_283 := E255_264.wr W274
     have V274_284 := V255_265.other W274 pf15
     have E274_285 := E255_266.wr W274
     have E274_286 := E255_267.wr W274
     have V274_287 := V255_256.other W274 (Ne.symm n_fa_ca)
     have K274 := K255.wr W274 (Or.inl (List.mem_of_getElem? (i := 0) rfl))
     have O274 := O255.wr W274 pf13
     have N274 := Fr.snoc X274 N255 pf13
     obtain ⟨T288, X288, e288, st288⟩ := getF X274 hx hZ hown (host := "") (Or.inl (ow hw 60 rfl)) Via.refl e274 F274_281 (g := (mkF m 119 #[rv a0, rv a1, iv p2, iv (1 : Int32), iv ((3 : Int32) + c1)] [(.ref a0)])) rfl rfl (hb hby d8_119)
     obtain ⟨cl289, Ar289, q289, S289, M289, H289, G289⟩ := id V274_287
     have hin289 := own_in ((3 : Int32) + c1) S289 (own_b3_3 hc1)
     obtain ⟨T289, h289, X289, e289, W289, st289⟩ := stJ X288 hx hZ e288 Ar289 (j := ((3 : Int32) + c1)) hin289 (g := (mkF m 125 #[rv a0, rv a1, iv p2, iv (1 : Int32), iv ((3 : Int32) + c1)] [(.long (1 : Int64)), (.int ((3 : Int32) + c1)), (.ref ca)])) rfl rfl (hb hby d8_125)
     have V289_290 : Arv Z h289 ca kc .long (6 : Int32) [(.long (pJ c0 (0 : Int32) (nc Kz0 Fz0 p2) k0)), (.long (pJ c0 (1 : Int32) (nc Kz0 Fz0 p2) k1)), (.long (pJ c0 (2 : Int32) (nc Kz0 Fz0 p2) k2)), (.long (pJ c1 (0 : Int32) (1 : Int64) k3)), (.long (pJ c1 (1 : Int32) (1 : Int64) k4)), (.long (pJ c1 (2 : Int32) (1 : Int64) k5))] (.long (0 : Int64)) := by have q := Arv.set Ar289 q289 S289 M289 H289 G289 rfl W289 (((3 : Int32) + c1)).toNatClampNeg rfl (own_k3_3 hc1); rw [own_sJ3_3 hc1] at q; simp only [own_ppJ] at q; exact q
     have E289_291 := E274_276.wr W289
     have F289_292 := F274_277.other W289 (Or.inl n_a0_ca)
     have E289_293 := E274_278.wr W289
     have F289_294 := F274_279.other W289 (Or.inl n_sh_ca)
     have F289_295 := F274_280.other W289 (Or.inl n_a0_ca)
     have F289_296 := F274_281.other W289 (Or.inl n_a0_ca)
     have F289_297 := F274_282.other W289 (Or.inl n_a0_ca)
     have E289_298 := E274_283.wr W289
     have V289_299 := V274_284.other W289 n_a1_ca
     have E289_300 := E274_285.wr W289
     have E289_301 := E274_286.wr W289
     have V289_302 := V274_275.other W289 n_fa_ca
     have K289 := K274.wr W289 (Or.inl (List.mem_of_getElem? (i := 1) rfl))
     have O289 := O274.wr W289 pf14
     have N289 := Fr.snoc X289 N274 pf14
     have pre303 : ∀ tg, AT p e below T289 m 126 #[rv a0, rv a1, iv p2, iv (1 : Int32), iv ((3 : Int32) + c1)] [] tg → Steps p.tables e below S0 tg := fun tg kg => pre271 tg (by
      refine XS.ifNo X269.here hx rfl (hb hby d8_107) rfl (XT.ll_ne_f hc272) ?_
      refine XS.aloadN X269.here hx rfl (hb hby d8_110) rfl rfl ?_
      refine st273 _ ?_
      refine XS.iload X273.here hx rfl (hb hby d8_114) rfl ?_
      refine XS.iloadN X273.here hx rfl (hb hby d8_116) rfl ?_
      refine st274 _ ?_
      refine XS.aloadN X274.here hx rfl (hb hby d8_118) rfl rfl ?_
      refine st288 _ ?_
      refine XS.iload X288.here hx rfl (hb hby d8_122) rfl ?_
      show AT p e below T288 m 124 #[rv a0, rv a1, iv p2, iv (1 : Int32), iv ((3 : Int32) + c1)] [(.int ((3 : Int32) + c1)), (.ref ca)] _
      refine XS.lconst X288.here hx rfl (hb hby d8_124) ?_
      refine st289 _ ?_
      exact kg)
     have hj304 : (pI c1 (0 : Int32) (nf Kz1 Fz1 p2) f3) = (pI c1 (0 : Int32) p2 f3) := by simp only [nf, if_neg hc168, if_neg hc210, if_pos hc272]
     have hj305 : (pI c1 (1 : Int32) (nf Kz1 Fz1 p2) f4) = (pI c1 (1 : Int32) p2 f4) := by simp only [nf, if_neg hc168, if_neg hc210, if_pos hc272]
     have hj306 : (pI c1 (2 : Int32) (nf Kz1 Fz1 p2) f5) = (pI c1 (2 : Int32) p2 f5) := by simp only [nf, if_neg hc168, if_neg hc210, if_pos hc272]
     have hj307 : (pJ c1 (0 : Int32) (nc Kz1 Fz1 p2) k3) = (pJ c1 (0 : Int32) (1 : Int64) k3) := by simp only [nc, if_neg hc168, if_neg hc210, if_pos hc272]
     have hj308 : (pJ c1 (1 : Int32) (nc Kz1 Fz1 p2) k4) = (pJ c1 (1 : Int32) (1 : Int64) k4) := by simp only [nc, if_neg hc168, if_neg hc210, if_pos hc272]
     have hj309 : (pJ c1 (2 : Int32) (nc Kz1 Fz1 p2) k5) = (pJ c1 (2 : Int32) (1 : Int64) k5) := by simp only [nc, if_neg hc168, if_neg hc210, if_pos hc272]
     exact ⟨_, _, _, X289, e289, N289, K289, O289, E289_291, F289_292, E289_293, F289_294, F289_295, F289_296, F289_297, E289_298, V289_299, E289_300, E289_301, (by rw [hj304, hj305, hj306]; exact V289_302), (by rw [hj307, hj308, hj309]; exact V289_290), pre303⟩
    ·
     have pre310 : ∀ tg, AT p e below T269 m 126 #[rv a0, rv a1, iv p2, iv (1 : Int32), iv ((3 : Int32) + c1)] [] tg → Steps p.tables e below S0 tg := fun tg kg => pre271 tg (by
      refine XS.ifYes X269.here hx rfl (pc0 := 107) (pc' := 126) rfl (hb hby d8_107) rfl (XT.ll_ne_t hc272) (by decide) (by decide) ?_
      exact kg)
     have hj311 : (pI c1 (0 : Int32) (nf Kz1 Fz1 p2) f3) = f3 := by rw [nf, if_neg hc168, if_neg hc210, if_neg hc272, hFz1]; exact own_psI3_0 hc1
     have hj312 : (pI c1 (1 : Int32) (nf Kz1 Fz1 p2) f4) = f4 := by rw [nf, if_neg hc168, if_neg hc210, if_neg hc272, hFz1]; exact own_psI3_1 hc1
     have hj313 : (pI c1 (2 : Int32) (nf Kz1 Fz1 p2) f5) = f5 := by rw [nf, if_neg hc168, if_neg hc210, if_neg hc272, hFz1]; exact own_psI3_2 hc1
     have hj314 : (pJ c1 (0 : Int32) (nc Kz1 Fz1 p2) k3) = (pJ c1 (0 : Int32) (Kz1 - (1 : Int64)) k3) := by simp only [nc, if_neg hc168, if_neg hc210, if_neg hc272]
     have hj315 : (pJ c1 (1 : Int32) (nc Kz1 Fz1 p2) k4) = (pJ c1 (1 : Int32) (Kz1 - (1 : Int64)) k4) := by simp only [nc, if_neg hc168, if_neg hc210, if_neg hc272]
     have hj316 : (pJ c1 (2 : Int32) (nc Kz1 Fz1 p2) k5) = (pJ c1 (2 : Int32) (Kz1 - (1 : Int64)) k5) := by simp only [nc, if_neg hc168, if_neg hc210, if_neg hc272]
     exact ⟨_, _, _, X269, e269, N255, K255, O255, E255_257, F255_258, E255_259, F255_260, F255_261, F255_262, F255_263, E255_264, V255_265, E255_266, E255_267, (by rw [hj311, hj312, hj313]; exact V255_268), (by rw [hj314, hj315, hj316]; exact V255_256), pre310⟩
 obtain ⟨cl317, Ar317, q317, S317, N317, H317, G317⟩ := id J164_8
 obtain ⟨fs, hr, hrun, hended, hW, hsame⟩ := X164.leave (v := none) (fun _ => rfl) hlk
 subst hS0
 refine ⟨_, _, pre164 _ ?_, hrun, hended, _, _, rfl, ?_, ⟨_, rfl⟩, hW, hsame.mono (by decide) (by decide)⟩
 ·
  refine XS.iinc X164.here hx rfl (hb hby d8_126) rfl (l' := #[rv a0, rv a1, iv p2, iv (2 : Int32), iv ((3 : Int32) + c1)]) rfl ?_
  refine XS.goto X164.here hx rfl (pc0 := 129) (pc' := 2) rfl (hb hby d8_129) (by decide) (by decide) ?_
  refine XS.iloadN X164.here hx rfl (hb hby d8_2) rfl ?_
  refine XS.aloadN X164.here hx rfl (hb hby d8_3) rfl rfl ?_
  refine X164.arraylength hx (by rw [e164]; exact Ar317.1) (State.isArrayOf_alike hZ.alike Ar317.2.1) (g := (mkF m 4 #[rv a0, rv a1, iv p2, iv (2 : Int32), iv ((3 : Int32) + c1)] [(.ref a1), (.int (2 : Int32))])) rfl rfl (hb hby d8_4) _ ?_
  rw [len_of S317 N317]
  show AT p e below T164 m 5 #[rv a0, rv a1, iv p2, iv (2 : Int32), iv ((3 : Int32) + c1)] [(.int (2 : Int32)), (.int (2 : Int32))] _
  refine XS.icmpYes X164.here hx rfl (pc0 := 5) (pc' := 132) rfl (hb hby d8_5) rfl (XT.ii_ge_t ((by decide) : ¬ ((2 : Int32) < (2 : Int32)))) (by decide) (by decide) ?_
  exact X164.returnOut hx Bd.returns (hb hby d8_132) hr
 ·
  show Q8_3 Z a0 a1 p2 sh kk c0 c1 fa ca kf kc f0 f1 f2 f3 f4 f5 k0 k1 k2 k3 k4 k5 h0 n0 _ T164.heap _
  rw [e164]
  exact ⟨rfl, N164, K164, (by have q := J164_11; rw [hKz0, hFz0, hKz1, hFz1] at q; exact q), (by have q := J164_12; rw [hKz0, hFz0, hKz1, hFz1] at q; exact q)⟩

theorem ef_10_3_0 (m : MethodId) (a0 : Addr) (p2 : Int32) : entryFrame m #[(.ref a0), (.int (0 : Int32)), (.int p2)] 3 = mkF m 0 #[rv a0, iv (0 : Int32), iv p2] [] := by first | (simp [entryFrame, mkF, argsToLocals, Value.category]; done) | rfl
def Q10_3_0 (Z : State) (a0 : Addr) (p2 : Int32) (sh : Addr) (ca : Addr) (kc : ClassId) (k0 : Int64) (k1 : Int64) (k2 : Int64) (k3 : Int64) (k4 : Int64) (k5 : Int64) (h0 : Heap) (n0 : Nat) (v : Option Value) (h : Heap) (L : List Loc) : Prop := v = some (.long (sJ3 p2 k0 k1 k2)) ∧ Fr n0 L ∧ h = h0
abbrev R10_3_0 : Room := ({ frames := 1, cells := 0, slots := 0, locals := 14 } : Room)
set_option maxRecDepth 65536 in
set_option maxHeartbeats 40000000 in
theorem rm10_3_0 (l : Launch) (Z : State) (ar : Array Value) (hw : ∀ d ∈ tables_1, d.before ar Z = true) (ws : List Jvm.Cond) (a0 : Addr) (p2 : Int32) (sh : Addr) (ca : Addr) (kc : ClassId) (k0 : Int64) (k1 : Int64) (k2 : Int64) (k3 : Int64) (k4 : Int64) (k5 : Int64) (h0 : Heap) (n0 : Nat) (O0 : Old Z n0 h0) (pf0 : Exa Z h0 a0 "com/example/filters_under_siege/filtersundersiege/KeeperPairs") (pf1 : Fld Z h0 a0 "com/example/filters_under_siege/filtersundersiege/KeeperPairs" "shape" "Lcom/example/filters_under_siege/filtersundersiege/SketchShape;" (.ref sh)) (pf2 : Exa Z h0 sh "com/example/filters_under_siege/filtersundersiege/SketchShape") (pf3 : Fld Z h0 sh "com/example/filters_under_siege/filtersundersiege/SketchShape" "width" "I" (.int (3 : Int32))) (pf4 : Fld Z h0 a0 "com/example/filters_under_siege/filtersundersiege/KeeperPairs" "counts" "[J" (.ref ca)) (pf5 : Arv Z h0 ca kc .long (6 : Int32) [(.long k0), (.long k1), (.long k2), (.long k3), (.long k4), (.long k5)] (.long (0 : Int64))) (hp2 : p2 = (0 : Int32) ∨ p2 = (1 : Int32) ∨ p2 = (2 : Int32)) :
    MetFree l y10 (head1 (Jvm.Cond.code y10 prog_26_method_6_code 3 (some .long) :: ws) R10_3_0) (fun a U => a = #[(.ref a0), (.int (0 : Int32)), (.int p2)] ∧ Z.Warmed39 U.vm ∧ U.heap = h0) (fun _ _ _ _ _ => True) (fun _ U o U' => ∃ v L, o = .returned v ∧ Q10_3_0 Z a0 p2 sh ca kc k0 k1 k2 k3 k4 k5 h0 n0 v U'.heap L ∧ FrameEnd U o U' L R10_3_0.cells R10_3_0.slots) := by
 refine MetFree.of_bodySF (plainFor_of_name pn_3) hisR ?_
 intro p e s m args below meth c s₁ Bd hml0 hP hK
 obtain ⟨rfl, hZ, hh⟩ := hP
 have hx := Bd.exec
 have hby := Bd.bytes
 have hml : c.maxLocals = 3 := hml0
 have hown : s.vm.findClass "com/example/filters_under_siege/filtersundersiege/KeeperPairs" = some m.cls := findClass_of_methodNamed Bd.named
 have hnm := (name_of_methodNamed Bd.named Bd.method).1
 have hlk : meth.locks = false := by first | assumption | exact BodyLoose.notSynchronized (by assumption) | exact Body.notSynchronized (by assumption)
 have X0 : Stand p l e R10_3_0 s m #[(.ref a0), (.int (0 : Int32)), (.int p2)] below meth c s₁ [] 0 0 := Stand.of_body Bd
 have e0 : s₁.heap = h0 := by rw [← hh, Bd.state]; rfl
 have N0 := Fr.nil n0
 have Z0 : n0 ≤ h0.size := Nat.le_trans (Nat.le_of_eq O0.1.symm) O0.2.1
 obtain ⟨S0, hS0⟩ : ∃ z, z = s₁.setTop (entryFrame m #[(.ref a0), (.int (0 : Int32)), (.int p2)] 3) := ⟨_, rfl⟩
 have pre0 : ∀ tg, AT p e below s₁ m 0 #[rv a0, iv (0 : Int32), iv p2] [] tg → Steps p.tables e below S0 tg := fun tg kg => by rw [hS0]; exact castTop (ef_10_3_0 m a0 p2) kg
 obtain ⟨T1, X1, e1, st1⟩ := getF X0 hx hZ hown (host := "") (Or.inl (ow hw 60 rfl)) Via.refl e0 pf4 (g := (mkF m 1 #[rv a0, iv (0 : Int32), iv p2] [(.ref a0)])) rfl rfl (hb hby d10_1)
 obtain ⟨T2, X2, e2, st2⟩ := getF X1 hx hZ hown (host := "") (Or.inl (ow hw 48 rfl)) Via.refl e1 pf1 (g := (mkF m 6 #[rv a0, iv (0 : Int32), iv p2] [(.ref a0), (.int (0 : Int32)), (.ref ca)])) rfl rfl (hb hby d10_6)
 obtain ⟨cq3, kq3, q3a, q3b, q3c⟩ := isOf hZ e2 pf2
 obtain ⟨_, _, ⟨T3, L3, k3, n3⟩, -, X3, ⟨Lc3, hQ3, l3, y3, z3⟩, st3⟩ := X2.virtualBack hx (y := y9) (z := y9) hown (mvT hZ (ow hw 67 rfl)) (mvT hZ (ow hw 68 rfl)) (notFace_of_selects (args := #[]) (mvT hZ (ow hw 70 rfl))) (mvT hZ (ow hw 70 rfl)) (mvT hZ (ow hw 69 rfl)) (by decide) (backOf (W := 2) (rm9 l Z ar hw [] sh _ h0 n0 O0 pf3) hZ (ow hw 71 rfl) (ow hw 7 rfl) (by decide) (by decide)) q3a q3c (g := (mkF m 9 #[rv a0, iv (0 : Int32), iv p2] [(.ref sh), (.int (0 : Int32)), (.ref ca)])) rfl (by rw [hml]; rfl) (Steps.refl _) (argsL := []) (rest := [(.int (0 : Int32)), (.ref ca)]) (lenOf pd_2 rfl) rfl (by show 2 * 0 + _ ≤ _; exact Nat.le_of_eq rfl) (hb hby d10_9) (fun _ _ => ⟨rfl, e2, (by decide : 0 + 0 ≤ _), (by decide : 0 + 0 ≤ _)⟩)
 dsimp only [Pt.U, Pt.locs, Pt.cells, Pt.slots] at X3 l3 y3 z3 st3 hQ3
 subst l3 y3 z3
 obtain ⟨rfl, N3q, e3⟩ := hQ3
 have N3 := Fr.app N0 N3q
 obtain ⟨cl4, Ar4, q4, S4, N4, H4, G4⟩ := id pf5
 have hin4 := own_in ((0 : Int32) + p2) S4 (own_b3_0 hp2)
 have hat4 : cl4.slots[(((0 : Int32) + p2)).toNatClampNeg]? = some (.long (sJ3 p2 k0 k1 k2)) := Has.at H4 hin4 (own_gJ3_0 hp2)
 obtain ⟨fs, hr, hrun, hended, hW, hsame⟩ := X3.leave (v := some (.long (sJ3 p2 k0 k1 k2))) (fun h => by rw [Bd.returns] at h; cases h) hlk
 subst hS0
 refine ⟨_, _, pre0 _ ?_, hrun, hended, _, _, rfl, ?_, ⟨_, rfl⟩, hW, hsame.mono (by decide) (by decide)⟩
 ·
  refine XS.aloadN X0.here hx rfl (hb hby d10_0) rfl rfl ?_
  refine st1 _ ?_
  refine XS.iloadN X1.here hx rfl (hb hby d10_4) rfl ?_
  refine XS.aloadN X1.here hx rfl (hb hby d10_5) rfl rfl ?_
  refine st2 _ ?_
  refine st3.trans ?_
  refine XS.imul X3.here hx rfl (hb hby d10_12) rfl ?_
  refine XS.iloadN X3.here hx rfl (hb hby d10_13) rfl ?_
  refine XS.iadd X3.here hx rfl (hb hby d10_14) rfl ?_
  refine X3.laload hx (j := ((0 : Int32) + p2)) (v := (.long (sJ3 p2 k0 k1 k2))) (by rw [e3]; exact Ar4.1) (State.isArrayOf_alike hZ.alike Ar4.2.1) Ar4.2.2 hin4 hat4 (g := (mkF m 15 #[rv a0, iv (0 : Int32), iv p2] [(.int ((0 : Int32) + p2)), (.ref ca)])) rfl rfl (hb hby d10_15) _ ?_
  exact retOut X3 hx (t := .long) (i := .lreturn) Bd.returns rfl (Or.inr (Or.inl ⟨rfl, rfl, _, rfl⟩)) (hb hby d10_16) hr
 ·
  show Q10_3_0 Z a0 p2 sh ca kc k0 k1 k2 k3 k4 k5 h0 n0 _ T3.heap _
  rw [e3]
  exact ⟨rfl, N3, rfl⟩

theorem ef_10_3_1 (m : MethodId) (a0 : Addr) (p2 : Int32) : entryFrame m #[(.ref a0), (.int (1 : Int32)), (.int p2)] 3 = mkF m 0 #[rv a0, iv (1 : Int32), iv p2] [] := by first | (simp [entryFrame, mkF, argsToLocals, Value.category]; done) | rfl
def Q10_3_1 (Z : State) (a0 : Addr) (p2 : Int32) (sh : Addr) (ca : Addr) (kc : ClassId) (k0 : Int64) (k1 : Int64) (k2 : Int64) (k3 : Int64) (k4 : Int64) (k5 : Int64) (h0 : Heap) (n0 : Nat) (v : Option Value) (h : Heap) (L : List Loc) : Prop := v = some (.long (sJ3 p2 k3 k4 k5)) ∧ Fr n0 L ∧ h = h0
abbrev R10_3_1 : Room := ({ frames := 1, cells := 0, slots := 0, locals := 14 } : Room)
set_option maxRecDepth 65536 in
set_option maxHeartbeats 40000000 in
theorem rm10_3_1 (l : Launch) (Z : State) (ar : Array Value) (hw : ∀ d ∈ tables_1, d.before ar Z = true) (ws : List Jvm.Cond) (a0 : Addr) (p2 : Int32) (sh : Addr) (ca : Addr) (kc : ClassId) (k0 : Int64) (k1 : Int64) (k2 : Int64) (k3 : Int64) (k4 : Int64) (k5 : Int64) (h0 : Heap) (n0 : Nat) (O0 : Old Z n0 h0) (pf0 : Exa Z h0 a0 "com/example/filters_under_siege/filtersundersiege/KeeperPairs") (pf1 : Fld Z h0 a0 "com/example/filters_under_siege/filtersundersiege/KeeperPairs" "shape" "Lcom/example/filters_under_siege/filtersundersiege/SketchShape;" (.ref sh)) (pf2 : Exa Z h0 sh "com/example/filters_under_siege/filtersundersiege/SketchShape") (pf3 : Fld Z h0 sh "com/example/filters_under_siege/filtersundersiege/SketchShape" "width" "I" (.int (3 : Int32))) (pf4 : Fld Z h0 a0 "com/example/filters_under_siege/filtersundersiege/KeeperPairs" "counts" "[J" (.ref ca)) (pf5 : Arv Z h0 ca kc .long (6 : Int32) [(.long k0), (.long k1), (.long k2), (.long k3), (.long k4), (.long k5)] (.long (0 : Int64))) (hp2 : p2 = (0 : Int32) ∨ p2 = (1 : Int32) ∨ p2 = (2 : Int32)) :
    MetFree l y10 (head1 (Jvm.Cond.code y10 prog_26_method_6_code 3 (some .long) :: ws) R10_3_1) (fun a U => a = #[(.ref a0), (.int (1 : Int32)), (.int p2)] ∧ Z.Warmed39 U.vm ∧ U.heap = h0) (fun _ _ _ _ _ => True) (fun _ U o U' => ∃ v L, o = .returned v ∧ Q10_3_1 Z a0 p2 sh ca kc k0 k1 k2 k3 k4 k5 h0 n0 v U'.heap L ∧ FrameEnd U o U' L R10_3_1.cells R10_3_1.slots) := by
 refine MetFree.of_bodySF (plainFor_of_name pn_3) hisR ?_
 intro p e s m args below meth c s₁ Bd hml0 hP hK
 obtain ⟨rfl, hZ, hh⟩ := hP
 have hx := Bd.exec
 have hby := Bd.bytes
 have hml : c.maxLocals = 3 := hml0
 have hown : s.vm.findClass "com/example/filters_under_siege/filtersundersiege/KeeperPairs" = some m.cls := findClass_of_methodNamed Bd.named
 have hnm := (name_of_methodNamed Bd.named Bd.method).1
 have hlk : meth.locks = false := by first | assumption | exact BodyLoose.notSynchronized (by assumption) | exact Body.notSynchronized (by assumption)
 have X0 : Stand p l e R10_3_1 s m #[(.ref a0), (.int (1 : Int32)), (.int p2)] below meth c s₁ [] 0 0 := Stand.of_body Bd
 have e0 : s₁.heap = h0 := by rw [← hh, Bd.state]; rfl
 have N0 := Fr.nil n0
 have Z0 : n0 ≤ h0.size := Nat.le_trans (Nat.le_of_eq O0.1.symm) O0.2.1
 obtain ⟨S0, hS0⟩ : ∃ z, z = s₁.setTop (entryFrame m #[(.ref a0), (.int (1 : Int32)), (.int p2)] 3) := ⟨_, rfl⟩
 have pre0 : ∀ tg, AT p e below s₁ m 0 #[rv a0, iv (1 : Int32), iv p2] [] tg → Steps p.tables e below S0 tg := fun tg kg => by rw [hS0]; exact castTop (ef_10_3_1 m a0 p2) kg
 obtain ⟨T1, X1, e1, st1⟩ := getF X0 hx hZ hown (host := "") (Or.inl (ow hw 60 rfl)) Via.refl e0 pf4 (g := (mkF m 1 #[rv a0, iv (1 : Int32), iv p2] [(.ref a0)])) rfl rfl (hb hby d10_1)
 obtain ⟨T2, X2, e2, st2⟩ := getF X1 hx hZ hown (host := "") (Or.inl (ow hw 48 rfl)) Via.refl e1 pf1 (g := (mkF m 6 #[rv a0, iv (1 : Int32), iv p2] [(.ref a0), (.int (1 : Int32)), (.ref ca)])) rfl rfl (hb hby d10_6)
 obtain ⟨cq3, kq3, q3a, q3b, q3c⟩ := isOf hZ e2 pf2
 obtain ⟨_, _, ⟨T3, L3, k3, n3⟩, -, X3, ⟨Lc3, hQ3, l3, y3, z3⟩, st3⟩ := X2.virtualBack hx (y := y9) (z := y9) hown (mvT hZ (ow hw 67 rfl)) (mvT hZ (ow hw 68 rfl)) (notFace_of_selects (args := #[]) (mvT hZ (ow hw 70 rfl))) (mvT hZ (ow hw 70 rfl)) (mvT hZ (ow hw 69 rfl)) (by decide) (backOf (W := 2) (rm9 l Z ar hw [] sh _ h0 n0 O0 pf3) hZ (ow hw 71 rfl) (ow hw 7 rfl) (by decide) (by decide)) q3a q3c (g := (mkF m 9 #[rv a0, iv (1 : Int32), iv p2] [(.ref sh), (.int (1 : Int32)), (.ref ca)])) rfl (by rw [hml]; rfl) (Steps.refl _) (argsL := []) (rest := [(.int (1 : Int32)), (.ref ca)]) (lenOf pd_2 rfl) rfl (by show 2 * 0 + _ ≤ _; exact Nat.le_of_eq rfl) (hb hby d10_9) (fun _ _ => ⟨rfl, e2, (by decide : 0 + 0 ≤ _), (by decide : 0 + 0 ≤ _)⟩)
 dsimp only [Pt.U, Pt.locs, Pt.cells, Pt.slots] at X3 l3 y3 z3 st3 hQ3
 subst l3 y3 z3
 obtain ⟨rfl, N3q, e3⟩ := hQ3
 have N3 := Fr.app N0 N3q
 obtain ⟨cl4, Ar4, q4, S4, N4, H4, G4⟩ := id pf5
 have hin4 := own_in ((3 : Int32) + p2) S4 (own_b3_3 hp2)
 have hat4 : cl4.slots[(((3 : Int32) + p2)).toNatClampNeg]? = some (.long (sJ3 p2 k3 k4 k5)) := Has.at H4 hin4 (own_gJ3_3 hp2)
 obtain ⟨fs, hr, hrun, hended, hW, hsame⟩ := X3.leave (v := some (.long (sJ3 p2 k3 k4 k5))) (fun h => by rw [Bd.returns] at h; cases h) hlk
 subst hS0
 refine ⟨_, _, pre0 _ ?_, hrun, hended, _, _, rfl, ?_, ⟨_, rfl⟩, hW, hsame.mono (by decide) (by decide)⟩
 ·
  refine XS.aloadN X0.here hx rfl (hb hby d10_0) rfl rfl ?_
  refine st1 _ ?_
  refine XS.iloadN X1.here hx rfl (hb hby d10_4) rfl ?_
  refine XS.aloadN X1.here hx rfl (hb hby d10_5) rfl rfl ?_
  refine st2 _ ?_
  refine st3.trans ?_
  refine XS.imul X3.here hx rfl (hb hby d10_12) rfl ?_
  refine XS.iloadN X3.here hx rfl (hb hby d10_13) rfl ?_
  refine XS.iadd X3.here hx rfl (hb hby d10_14) rfl ?_
  refine X3.laload hx (j := ((3 : Int32) + p2)) (v := (.long (sJ3 p2 k3 k4 k5))) (by rw [e3]; exact Ar4.1) (State.isArrayOf_alike hZ.alike Ar4.2.1) Ar4.2.2 hin4 hat4 (g := (mkF m 15 #[rv a0, iv (1 : Int32), iv p2] [(.int ((3 : Int32) + p2)), (.ref ca)])) rfl rfl (hb hby d10_15) _ ?_
  exact retOut X3 hx (t := .long) (i := .lreturn) Bd.returns rfl (Or.inr (Or.inl ⟨rfl, rfl, _, rfl⟩)) (hb hby d10_16) hr
 ·
  show Q10_3_1 Z a0 p2 sh ca kc k0 k1 k2 k3 k4 k5 h0 n0 _ T3.heap _
  rw [e3]
  exact ⟨rfl, N3, rfl⟩

theorem ef_1_4 (m : MethodId) (a0 : Addr) : entryFrame m #[(.ref a0), (.int (2 : Int32)), (.int (4 : Int32))] 3 = mkF m 0 #[rv a0, iv (2 : Int32), iv (4 : Int32)] [] := by first | (simp [entryFrame, mkF, argsToLocals, Value.category]; done) | rfl
def Q1_4 (Z : State) (a0 : Addr) (h0 : Heap) (n0 : Nat) (v : Option Value) (h : Heap) (L : List Loc) : Prop := v = none ∧ Fr n0 L ∧ Keep h0 h [a0] ∧ Exa Z h a0 "com/example/filters_under_siege/filtersundersiege/SketchShape" ∧ Fld Z h a0 "com/example/filters_under_siege/filtersundersiege/SketchShape" "rows" "I" (.int (2 : Int32)) ∧ Fld Z h a0 "com/example/filters_under_siege/filtersundersiege/SketchShape" "width" "I" (.int (4 : Int32))
abbrev R1_4 : Room := ({ frames := 2, cells := 0, slots := 0, locals := 24 } : Room)
set_option maxRecDepth 65536 in
set_option maxHeartbeats 40000000 in
theorem rm1_4 (l : Launch) (Z : State) (ar : Array Value) (hw : ∀ d ∈ tables_1, d.before ar Z = true) (ws : List Jvm.Cond) (a0 : Addr) (h0 : Heap) (n0 : Nat) (O0 : Old Z n0 h0) (pf0 : Exa Z h0 a0 "com/example/filters_under_siege/filtersundersiege/SketchShape") (pf1 : Fld Z h0 a0 "com/example/filters_under_siege/filtersundersiege/SketchShape" "rows" "I" (.int (0 : Int32))) (pf2 : Fld Z h0 a0 "com/example/filters_under_siege/filtersundersiege/SketchShape" "width" "I" (.int (0 : Int32))) (pf3 : n0 ≤ a0) :
    MetFree l y1 (head1 (Jvm.Cond.code y1 prog_39_method_1_code 3 none :: ws) R1_4) (fun a U => a = #[(.ref a0), (.int (2 : Int32)), (.int (4 : Int32))] ∧ Z.Warmed39 U.vm ∧ U.heap = h0) (fun _ _ _ _ _ => True) (fun _ U o U' => ∃ v L, o = .returned v ∧ Q1_4 Z a0 h0 n0 v U'.heap L ∧ FrameEnd U o U' L R1_4.cells R1_4.slots) := by
 refine MetFree.of_bodySF (plainFor_of_name pn_2) hisR ?_
 intro p e s m args below meth c s₁ Bd hml0 hP hK
 obtain ⟨rfl, hZ, hh⟩ := hP
 have hx := Bd.exec
 have hby := Bd.bytes
 have hml : c.maxLocals = 3 := hml0
 have hown : s.vm.findClass "com/example/filters_under_siege/filtersundersiege/SketchShape" = some m.cls := findClass_of_methodNamed Bd.named
 have hnm := (name_of_methodNamed Bd.named Bd.method).1
 have hlk : meth.locks = false := by first | assumption | exact BodyLoose.notSynchronized (by assumption) | exact Body.notSynchronized (by assumption)
 have X0 : Stand p l e R1_4 s m #[(.ref a0), (.int (2 : Int32)), (.int (4 : Int32))] below meth c s₁ [] 0 0 := Stand.of_body Bd
 have e0 : s₁.heap = h0 := by rw [← hh, Bd.state]; rfl
 have N0 := Fr.nil n0
 have Z0 : n0 ≤ h0.size := Nat.le_trans (Nat.le_of_eq O0.1.symm) O0.2.1
 obtain ⟨S0, hS0⟩ : ∃ z, z = s₁.setTop (entryFrame m #[(.ref a0), (.int (2 : Int32)), (.int (4 : Int32))] 3) := ⟨_, rfl⟩
 have pre0 : ∀ tg, AT p e below s₁ m 0 #[rv a0, iv (2 : Int32), iv (4 : Int32)] [] tg → Steps p.tables e below S0 tg := fun tg kg => by rw [hS0]; exact castTop (ef_1_4 m a0) kg
 obtain ⟨_, _, ⟨T1, L1, k1, n1⟩, -, X1, ⟨Lc1, hQ1, l1, y1, z1⟩, st1⟩ := X0.specialBack hx (y := y2) rfl hown (mvT hZ (ow hw 11 rfl)) (mvT hZ (ow hw 12 rfl)) (mvT hZ (ow hw 15 rfl)) (by decide) (backOf (W := 0) (rm2 l Z ar hw [] a0 h0 n0 O0) hZ (ow hw 15 rfl) (ow hw 14 rfl) (by decide) (by decide)) (g := (mkF m 1 #[rv a0, iv (2 : Int32), iv (4 : Int32)] [(.ref a0)])) rfl (by rw [hml]; rfl) (Steps.refl _) (a := a0) (argsL := []) (rest := []) (lenOf pd_0 rfl) rfl (by show 2 * 0 + _ ≤ _; exact Nat.le_of_eq rfl) (hb hby d1_1) (fun _ _ => ⟨rfl, e0, (by decide : 0 + 0 ≤ _), (by decide : 0 + 0 ≤ _)⟩)
 dsimp only [Pt.U, Pt.locs, Pt.cells, Pt.slots] at X1 l1 y1 z1 st1 hQ1
 subst l1 y1 z1
 obtain ⟨rfl, N1q, e1⟩ := hQ1
 have N1 := Fr.app N0 N1q
 obtain ⟨T2, h2, X2, e2, W2, st2⟩ := putF X1 hx hZ hown (host := "") (Or.inl (ow hw 20 rfl)) Via.refl e1 pf1 pf0 (Or.inr ⟨(ow hw 21 rfl), rfl, hnm⟩) (ow hw 6 rfl) (ty := .int) (by decide) rfl rfl (g := (mkF m 71 #[rv a0, iv (2 : Int32), iv (4 : Int32)] [(.int (2 : Int32)), (.ref a0)])) rfl rfl (hb hby d1_71)
 have E2_3 := pf0.wr W2
 have F2_4 : Fld Z h2 a0 "com/example/filters_under_siege/filtersundersiege/SketchShape" "rows" "I" (.int (2 : Int32)) := pf1.same W2
 have F2_5 := pf2.other W2 (Or.inr (slot_ne (Or.inr (ow hw 23 rfl)) (Or.inr (ow hw 21 rfl)) (by decide) (t := .int) (t' := .int) (by decide) (by decide)))
 have K2 := (Keep.refl h0 [a0]).wr W2 (Or.inl (List.mem_of_getElem? (i := 0) rfl))
 have O2 := O0.wr W2 pf3
 have N2 := Fr.snoc X2 N1 pf3
 obtain ⟨T6, h6, X6, e6, W6, st6⟩ := putF X2 hx hZ hown (host := "") (Or.inl (ow hw 22 rfl)) Via.refl e2 F2_5 E2_3 (Or.inr ⟨(ow hw 23 rfl), rfl, hnm⟩) (ow hw 6 rfl) (ty := .int) (by decide) rfl rfl (g := (mkF m 76 #[rv a0, iv (2 : Int32), iv (4 : Int32)] [(.int (4 : Int32)), (.ref a0)])) rfl rfl (hb hby d1_76)
 have E6_7 := E2_3.wr W6
 have F6_8 := F2_4.other W6 (Or.inr (slot_ne (Or.inr (ow hw 21 rfl)) (Or.inr (ow hw 23 rfl)) (by decide) (t := .int) (t' := .int) (by decide) (by decide)))
 have F6_9 : Fld Z h6 a0 "com/example/filters_under_siege/filtersundersiege/SketchShape" "width" "I" (.int (4 : Int32)) := F2_5.same W6
 have K6 := K2.wr W6 (Or.inl (List.mem_of_getElem? (i := 0) rfl))
 have O6 := O2.wr W6 pf3
 have N6 := Fr.snoc X6 N2 pf3
 obtain ⟨fs, hr, hrun, hended, hW, hsame⟩ := X6.leave (v := none) (fun _ => rfl) hlk
 subst hS0
 refine ⟨_, _, pre0 _ ?_, hrun, hended, _, _, rfl, ?_, ⟨_, rfl⟩, hW, hsame.mono (by decide) (by decide)⟩
 ·
  refine XS.aloadN X0.here hx rfl (hb hby d1_0) rfl rfl ?_
  refine st1.trans ?_
  refine XS.iloadN X1.here hx rfl (hb hby d1_4) rfl ?_
  refine XS.iconst X1.here hx rfl (hb hby d1_5) ?_
  show AT p e below T1 m 6 #[rv a0, iv (2 : Int32), iv (4 : Int32)] [(.int (1 : Int32)), (.int (2 : Int32))] _
  refine XS.icmpYes X1.here hx rfl (pc0 := 6) (pc' := 23) rfl (hb hby d1_6) rfl (XT.ii_ge_t ((by decide) : ¬ ((2 : Int32) < (1 : Int32)))) (by decide) (by decide) ?_
  refine XS.iloadN X1.here hx rfl (hb hby d1_23) rfl ?_
  refine XS.iconst X1.here hx rfl (hb hby d1_24) ?_
  show AT p e below T1 m 25 #[rv a0, iv (2 : Int32), iv (4 : Int32)] [(.int (1 : Int32)), (.int (4 : Int32))] _
  refine XS.icmpYes X1.here hx rfl (pc0 := 25) (pc' := 42) rfl (hb hby d1_25) rfl (XT.ii_ge_t ((by decide) : ¬ ((4 : Int32) < (1 : Int32)))) (by decide) (by decide) ?_
  refine XS.iloadN X1.here hx rfl (hb hby d1_42) rfl ?_
  refine XS.i2l X1.here hx rfl (hb hby d1_43) rfl ?_
  refine XS.iloadN X1.here hx rfl (hb hby d1_44) rfl ?_
  refine XS.i2l X1.here hx rfl (hb hby d1_45) rfl ?_
  refine XS.lmul X1.here hx rfl (hb hby d1_46) rfl ?_
  refine X1.ldc2Long hx hown (mvT hZ (ow hw 19 rfl)) (g := (mkF m 47 #[rv a0, iv (2 : Int32), iv (4 : Int32)] [(.long (8 : Int64))])) rfl (hb hby d1_47) _ ?_
  refine XS.lcmp X1.here hx rfl (hb hby d1_50) rfl ?_
  show AT p e below T1 m 51 #[rv a0, iv (2 : Int32), iv (4 : Int32)] [(.int (XT.cmpL (8 : Int64) (1073741824 : Int64)))] _
  refine XS.ifYes X1.here hx rfl (pc0 := 51) (pc' := 69) rfl (hb hby d1_51) rfl (XT.ll_le_t ((by decide) : ¬ ((1073741824 : Int64) < (8 : Int64)))) (by decide) (by decide) ?_
  refine XS.aloadN X1.here hx rfl (hb hby d1_69) rfl rfl ?_
  refine XS.iloadN X1.here hx rfl (hb hby d1_70) rfl ?_
  refine st2 _ ?_
  refine XS.aloadN X2.here hx rfl (hb hby d1_74) rfl rfl ?_
  refine XS.iloadN X2.here hx rfl (hb hby d1_75) rfl ?_
  refine st6 _ ?_
  exact X6.returnOut hx Bd.returns (hb hby d1_79) hr
 ·
  show Q1_4 Z a0 h0 n0 _ T6.heap _
  rw [e6]
  exact ⟨rfl, N6, K6, E6_7, F6_8, F6_9⟩

theorem ef_7_4 (m : MethodId) (a0 : Addr) : entryFrame m #[(.ref a0)] 1 = mkF m 0 #[rv a0] [] := by first | (simp [entryFrame, mkF, argsToLocals, Value.category]; done) | rfl
def Q7_4 (Z : State) (a0 : Addr) (h0 : Heap) (n0 : Nat) (v : Option Value) (h : Heap) (L : List Loc) : Prop := v = some (.int (8 : Int32)) ∧ Fr n0 L ∧ h = h0
abbrev R7_4 : Room := ({ frames := 0, cells := 0, slots := 0, locals := 0 } : Room)
set_option maxRecDepth 65536 in
set_option maxHeartbeats 40000000 in
theorem rm7_4 (l : Launch) (Z : State) (ar : Array Value) (hw : ∀ d ∈ tables_1, d.before ar Z = true) (ws : List Jvm.Cond) (a0 : Addr) (h0 : Heap) (n0 : Nat) (O0 : Old Z n0 h0) (pf0 : Fld Z h0 a0 "com/example/filters_under_siege/filtersundersiege/SketchShape" "rows" "I" (.int (2 : Int32))) (pf1 : Fld Z h0 a0 "com/example/filters_under_siege/filtersundersiege/SketchShape" "width" "I" (.int (4 : Int32))) :
    MetFree l y7 (head1 (Jvm.Cond.code y7 prog_39_method_2_code 1 (some .int) :: ws) R7_4) (fun a U => a = #[(.ref a0)] ∧ Z.Warmed39 U.vm ∧ U.heap = h0) (fun _ _ _ _ _ => True) (fun _ U o U' => ∃ v L, o = .returned v ∧ Q7_4 Z a0 h0 n0 v U'.heap L ∧ FrameEnd U o U' L R7_4.cells R7_4.slots) := by
 refine MetFree.of_bodySF (plainFor_of_name pn_2) hisR ?_
 intro p e s m args below meth c s₁ Bd hml0 hP hK
 obtain ⟨rfl, hZ, hh⟩ := hP
 have hx := Bd.exec
 have hby := Bd.bytes
 have hml : c.maxLocals = 1 := hml0
 have hown : s.vm.findClass "com/example/filters_under_siege/filtersundersiege/SketchShape" = some m.cls := findClass_of_methodNamed Bd.named
 have hnm := (name_of_methodNamed Bd.named Bd.method).1
 have hlk : meth.locks = false := by first | assumption | exact BodyLoose.notSynchronized (by assumption) | exact Body.notSynchronized (by assumption)
 have X0 : Stand p l e R7_4 s m #[(.ref a0)] below meth c s₁ [] 0 0 := Stand.of_body Bd
 have e0 : s₁.heap = h0 := by rw [← hh, Bd.state]; rfl
 have N0 := Fr.nil n0
 have Z0 : n0 ≤ h0.size := Nat.le_trans (Nat.le_of_eq O0.1.symm) O0.2.1
 obtain ⟨S0, hS0⟩ : ∃ z, z = s₁.setTop (entryFrame m #[(.ref a0)] 1) := ⟨_, rfl⟩
 have pre0 : ∀ tg, AT p e below s₁ m 0 #[rv a0] [] tg → Steps p.tables e below S0 tg := fun tg kg => by rw [hS0]; exact castTop (ef_7_4 m a0) kg
 obtain ⟨T1, X1, e1, st1⟩ := getF X0 hx hZ hown (host := "") (Or.inl (ow hw 20 rfl)) Via.refl e0 pf0 (g := (mkF m 1 #[rv a0] [(.ref a0)])) rfl rfl (hb hby d7_1)
 obtain ⟨T2, X2, e2, st2⟩ := getF X1 hx hZ hown (host := "") (Or.inl (ow hw 22 rfl)) Via.refl e1 pf1 (g := (mkF m 5 #[rv a0] [(.ref a0), (.int (2 : Int32))])) rfl rfl (hb hby d7_5)
 obtain ⟨fs, hr, hrun, hended, hW, hsame⟩ := X2.leave (v := some (.int (8 : Int32))) (fun h => by rw [Bd.returns] at h; cases h) hlk
 subst hS0
 refine ⟨_, _, pre0 _ ?_, hrun, hended, _, _, rfl, ?_, ⟨_, rfl⟩, hW, hsame.mono (by decide) (by decide)⟩
 ·
  refine XS.aloadN X0.here hx rfl (hb hby d7_0) rfl rfl ?_
  refine st1 _ ?_
  refine XS.aloadN X1.here hx rfl (hb hby d7_4) rfl rfl ?_
  refine st2 _ ?_
  refine XS.imul X2.here hx rfl (hb hby d7_8) rfl ?_
  exact retOut X2 hx (t := .int) (i := .ireturn) Bd.returns rfl (Or.inl ⟨rfl, Or.inl rfl, _, rfl⟩) (hb hby d7_9) hr
 ·
  show Q7_4 Z a0 h0 n0 _ T2.heap _
  rw [e2]
  exact ⟨rfl, N0, rfl⟩

theorem ef_5_4 (m : MethodId) (a0 : Addr) (a1 : Addr) (a2 : Addr) : entryFrame m #[(.ref a0), (.ref a1), (.ref a2)] 3 = mkF m 0 #[rv a0, rv a1, rv a2] [] := by first | (simp [entryFrame, mkF, argsToLocals, Value.category]; done) | rfl
def Q5_4 (Z : State) (a0 : Addr) (a1 : Addr) (a2 : Addr) (h0 : Heap) (n0 : Nat) (v : Option Value) (h : Heap) (L : List Loc) : Prop := ∃ (fa : Addr) (ca : Addr) (kf : ClassId) (kc : ClassId), v = none ∧ Fr n0 L ∧ Keep h0 h [a0] ∧ Exa Z h a0 "com/example/filters_under_siege/filtersundersiege/KeeperPairs" ∧ Fld Z h a0 "com/example/filters_under_siege/filtersundersiege/KeeperPairs" "shape" "Lcom/example/filters_under_siege/filtersundersiege/SketchShape;" (.ref a1) ∧ Fld Z h a0 "com/example/filters_under_siege/filtersundersiege/KeeperPairs" "knocksDown" "Ljava/util/function/LongPredicate;" (.ref a2) ∧ Fld Z h a0 "com/example/filters_under_siege/filtersundersiege/KeeperPairs" "fingerprints" "[I" (.ref fa) ∧ Fld Z h a0 "com/example/filters_under_siege/filtersundersiege/KeeperPairs" "counts" "[J" (.ref ca) ∧ Arv Z h fa kf .int (8 : Int32) [(.int (0 : Int32)), (.int (0 : Int32)), (.int (0 : Int32)), (.int (0 : Int32)), (.int (0 : Int32)), (.int (0 : Int32)), (.int (0 : Int32)), (.int (0 : Int32))] (.int (0 : Int32)) ∧ Arv Z h ca kc .long (8 : Int32) [(.long (0 : Int64)), (.long (0 : Int64)), (.long (0 : Int64)), (.long (0 : Int64)), (.long (0 : Int64)), (.long (0 : Int64)), (.long (0 : Int64)), (.long (0 : Int64))] (.long (0 : Int64)) ∧ h0.size ≤ fa ∧ h0.size ≤ ca ∧ Exa Z h fa "[I" ∧ Exa Z h ca "[J"
abbrev R5_4 : Room := ({ frames := 1, cells := 4, slots := 40, locals := 14 } : Room)
set_option maxRecDepth 65536 in
set_option maxHeartbeats 40000000 in
theorem rm5_4 (l : Launch) (Z : State) (ar : Array Value) (hw : ∀ d ∈ tables_1, d.before ar Z = true) (ws : List Jvm.Cond) (a0 : Addr) (a1 : Addr) (a2 : Addr) (h0 : Heap) (n0 : Nat) (O0 : Old Z n0 h0) (hEL : EW Z ar EL0) (pf0 : Exa Z h0 a0 "com/example/filters_under_siege/filtersundersiege/KeeperPairs") (pf1 : Fld Z h0 a0 "com/example/filters_under_siege/filtersundersiege/KeeperPairs" "shape" "Lcom/example/filters_under_siege/filtersundersiege/SketchShape;" .null) (pf2 : Fld Z h0 a0 "com/example/filters_under_siege/filtersundersiege/KeeperPairs" "fingerprints" "[I" .null) (pf3 : Fld Z h0 a0 "com/example/filters_under_siege/filtersundersiege/KeeperPairs" "counts" "[J" .null) (pf4 : Fld Z h0 a0 "com/example/filters_under_siege/filtersundersiege/KeeperPairs" "knocksDown" "Ljava/util/function/LongPredicate;" .null) (pf5 : n0 ≤ a0) (pf6 : Exa Z h0 a1 "com/example/filters_under_siege/filtersundersiege/SketchShape") (pf7 : Fld Z h0 a1 "com/example/filters_under_siege/filtersundersiege/SketchShape" "rows" "I" (.int (2 : Int32))) (pf8 : Fld Z h0 a1 "com/example/filters_under_siege/filtersundersiege/SketchShape" "width" "I" (.int (4 : Int32))) (pf9 : a0 ≠ a1) :
    MetFree l y5 (head1 (Jvm.Cond.code y5 prog_26_method_3_code 3 none :: ws) R5_4) (fun a U => a = #[(.ref a0), (.ref a1), (.ref a2)] ∧ Z.Warmed39 U.vm ∧ U.heap = h0 ∧ CHv Z EL0 U.vm h0) (fun _ _ _ _ _ => True) (fun _ U o U' => ∃ v L, o = .returned v ∧ Q5_4 Z a0 a1 a2 h0 n0 v U'.heap L ∧ CHr Z EL0 U.vm U.heap U'.vm U'.heap ∧ ReturnedEndW U o U' L R5_4.cells R5_4.slots) := by
 refine MetFree.of_bodySF (plainFor_of_name pn_3) hisR ?_
 intro p e s m args below meth c s₁ Bd hml0 hP hK
 obtain ⟨rfl, hZ, hh, hCH⟩ := hP
 have hx := Bd.exec
 have hby := Bd.bytes
 have hml : c.maxLocals = 3 := hml0
 have hown : s.vm.findClass "com/example/filters_under_siege/filtersundersiege/KeeperPairs" = some m.cls := findClass_of_methodNamed Bd.named
 have hnm := (name_of_methodNamed Bd.named Bd.method).1
 have hlk : meth.locks = false := by first | assumption | exact BodyLoose.notSynchronized (by assumption) | exact Body.notSynchronized (by assumption)
 have X0 : Stand p l e R5_4 (s.setVm s.vm) m #[(.ref a0), (.ref a1), (.ref a2)] below meth c s₁ [] 0 0 := Stand.of_body Bd
 have e0 : s₁.heap = h0 := by rw [← hh, Bd.state]; rfl
 have N0 := Fr.nil n0
 have Z0 : n0 ≤ h0.size := Nat.le_trans (Nat.le_of_eq O0.1.symm) O0.2.1
 obtain ⟨S0, hS0⟩ : ∃ z, z = s₁.setTop (entryFrame m #[(.ref a0), (.ref a1), (.ref a2)] 3) := ⟨_, rfl⟩
 have pre0 : ∀ tg, AT p e below s₁ m 0 #[rv a0, rv a1, rv a2] [] tg → Steps p.tables e below S0 tg := fun tg kg => by rw [hS0]; exact castTop (ef_5_4 m a0 a1 a2) kg
 have hS : s.Since s.vm 0 := (State.WarmedH.refl s).since 0
 have hk : 0 ≤ h0.size := Nat.zero_le _
 have CR0 : CHr Z EL0 s.vm h0 s.vm h0 := CHr.refl hCH
 obtain ⟨T1, X1, e1, st1⟩ := initO X0 hx hZ hown (ow hw 33 rfl) (ow hw 17 rfl) (ow hw 18 rfl) e0 (g := (mkF m 1 #[rv a0, rv a1, rv a2] [(.ref a0)])) rfl (by rw [hml]; rfl) rfl (hb hby d5_1) (by decide) (W := 0) (by show 2 * 0 + _ ≤ _; exact Nat.le_of_eq rfl) (by decide)
 obtain ⟨al2, T2, h2, q2, X2, e2, E2, hS, hk, hZ, hown, CRq2, Li2, st2⟩ := ldcOH X1 hx hZ hown (ow hw 34 rfl) (own_sa hw) e1 hS hk hEL CR0.1 (g := (mkF m 6 #[rv a0, rv a1, rv a2] [(.ref a1), (.ref a0)])) rfl (hb hby d5_6) (n := 20) (by decide) (by decide) (by decide) (by decide)
 have E2_3 := pf0.ext E2
 have F2_4 := pf1.ext E2
 have F2_5 := pf2.ext E2
 have F2_6 := pf3.ext E2
 have F2_7 := pf4.ext E2
 have E2_8 := pf6.ext E2
 have F2_9 := pf7.ext E2
 have F2_10 := pf8.ext E2
 have K2 := (Keep.refl h0 [a0]).ext E2
 have O2 : Old Z n0 h2 := O0.ext E2
 have CR2 : CHr Z EL0 s.vm h0 T2.vm h2 := CR0.trans CRq2
 obtain ⟨_, _, ⟨T11, L11, k11, n11⟩, -, X11, ⟨Lc11, hQ11, l11, y11, z11⟩, st11⟩ := Jvm.LawKit.callS X2 hx (y := y6) hown (mvT hZ (ow hw 42 rfl)) (mvT hZ (ow hw 43 rfl)) (mvT hZ (ow hw 44 rfl)) (mvT hZ (ow hw 45 rfl)) (by decide) (backOf (W := 1) (rm6 l Z ar hw [] a1 al2 h2 n0 O2) hZ (ow hw 45 rfl) (ow hw 44 rfl) (by decide) (by decide)) (g := (mkF m 8 #[rv a0, rv a1, rv a2] [(.ref al2), (.ref a1), (.ref a0)])) rfl (by rw [hml]; rfl) (argsL := [(.ref a1), (.ref al2)]) (rest := [(.ref a0)]) (lenOf pd_1 rfl) rfl (by show 2 * 0 + _ ≤ _; exact Nat.le_of_eq rfl) (hb hby d5_8) (fun _ _ => ⟨rfl, e2, (by decide : 2 + 0 ≤ _), (by decide : 24 + 0 ≤ _)⟩)
 dsimp only [Pt.U, Pt.locs, Pt.cells, Pt.slots] at X11 l11 y11 z11 st11 hQ11
 subst l11 y11 z11
 obtain ⟨rfl, N11q, e11⟩ := hQ11
 have N11 := Fr.app N0 N11q
 obtain ⟨T12, X12, e12, st12⟩ := castY X11 hx hZ hown (ow hw 46 rfl) e11 (Ins.self E2_8) (g := (mkF m 11 #[rv a0, rv a1, rv a2] [(.ref a1), (.ref a0)])) rfl rfl (hb hby d5_11)
 obtain ⟨T13, h13, X13, e13, W13, st13⟩ := putF X12 hx hZ hown (host := "") (Or.inl (ow hw 48 rfl)) Via.refl e12 F2_4 E2_3 (Or.inr ⟨(ow hw 49 rfl), rfl, hnm⟩) (ow hw 3 rfl) (ty := (.object "com/example/filters_under_siege/filtersundersiege/SketchShape")) (by decide) rfl rfl (g := (mkF m 14 #[rv a0, rv a1, rv a2] [(.ref a1), (.ref a0)])) rfl rfl (hb hby d5_14)
 have E13_14 := E2_3.wr W13
 have F13_15 : Fld Z h13 a0 "com/example/filters_under_siege/filtersundersiege/KeeperPairs" "shape" "Lcom/example/filters_under_siege/filtersundersiege/SketchShape;" (.ref a1) := F2_4.same W13
 have F13_16 := F2_5.other W13 (Or.inr (slot_ne (Or.inr (ow hw 58 rfl)) (Or.inr (ow hw 49 rfl)) (by decide) (t := (.array .int)) (t' := (.object "com/example/filters_under_siege/filtersundersiege/SketchShape")) (by decide) (by decide)))
 have F13_17 := F2_6.other W13 (Or.inr (slot_ne (Or.inr (ow hw 61 rfl)) (Or.inr (ow hw 49 rfl)) (by decide) (t := (.array .long)) (t' := (.object "com/example/filters_under_siege/filtersundersiege/SketchShape")) (by decide) (by decide)))
 have F13_18 := F2_7.other W13 (Or.inr (slot_ne (Or.inr (ow hw 51 rfl)) (Or.inr (ow hw 49 rfl)) (by decide) (t := (.object "java/util/function/LongPredicate")) (t' := (.object "com/example/filters_under_siege/filtersundersiege/SketchShape")) (by decide) (by decide)))
 have E13_19 := E2_8.wr W13
 have F13_20 := F2_9.other W13 (Or.inl (Ne.symm pf9))
 have F13_21 := F2_10.other W13 (Or.inl (Ne.symm pf9))
 have K13 := K2.wr W13 (Or.inl (List.mem_of_getElem? (i := 0) rfl))
 have O13 := O2.wr W13 pf5
 have CR13 : CHr Z EL0 s.vm h0 T2.vm h13 := CR2.trans (CHr.wr W13 own_sf0 CR2.1)
 have hk := Nat.le_trans hk (Keep.of_wr W13).1
 have N13 := Fr.snoc X13 N11 pf5
 obtain ⟨T22, h22, X22, e22, W22, st22⟩ := putF X13 hx hZ hown (host := "") (Or.inl (ow hw 50 rfl)) Via.refl e13 F13_18 E13_14 (Or.inr ⟨(ow hw 51 rfl), rfl, hnm⟩) (ow hw 3 rfl) (ty := (.object "java/util/function/LongPredicate")) (by decide) rfl rfl (g := (mkF m 19 #[rv a0, rv a1, rv a2] [(.ref a2), (.ref a0)])) rfl rfl (hb hby d5_19)
 have E22_23 := E13_14.wr W22
 have F22_24 := F13_15.other W22 (Or.inr (slot_ne (Or.inr (ow hw 49 rfl)) (Or.inr (ow hw 51 rfl)) (by decide) (t := (.object "com/example/filters_under_siege/filtersundersiege/SketchShape")) (t' := (.object "java/util/function/LongPredicate")) (by decide) (by decide)))
 have F22_25 := F13_16.other W22 (Or.inr (slot_ne (Or.inr (ow hw 58 rfl)) (Or.inr (ow hw 51 rfl)) (by decide) (t := (.array .int)) (t' := (.object "java/util/function/LongPredicate")) (by decide) (by decide)))
 have F22_26 := F13_17.other W22 (Or.inr (slot_ne (Or.inr (ow hw 61 rfl)) (Or.inr (ow hw 51 rfl)) (by decide) (t := (.array .long)) (t' := (.object "java/util/function/LongPredicate")) (by decide) (by decide)))
 have F22_27 : Fld Z h22 a0 "com/example/filters_under_siege/filtersundersiege/KeeperPairs" "knocksDown" "Ljava/util/function/LongPredicate;" (.ref a2) := F13_18.same W22
 have E22_28 := E13_19.wr W22
 have F22_29 := F13_20.other W22 (Or.inl (Ne.symm pf9))
 have F22_30 := F13_21.other W22 (Or.inl (Ne.symm pf9))
 have K22 := K13.wr W22 (Or.inl (List.mem_of_getElem? (i := 0) rfl))
 have O22 := O13.wr W22 pf5
 have CR22 : CHr Z EL0 s.vm h0 T2.vm h22 := CR13.trans (CHr.wr W22 own_sf0 CR13.1)
 have hk := Nat.le_trans hk (Keep.of_wr W22).1
 have N22 := Fr.snoc X22 N13 pf5
 obtain ⟨cq31, kq31, q31a, q31b, q31c⟩ := isOf hZ e22 E22_28
 obtain ⟨_, _, ⟨T31, L31, k31, n31⟩, -, X31, ⟨Lc31, hQ31, l31, y31, z31⟩, st31⟩ := X22.virtualBack hx (y := y7) (z := y7) hown (mvT hZ (ow hw 52 rfl)) (mvT hZ (ow hw 53 rfl)) (notFace_of_selects (args := #[]) (mvT hZ (ow hw 55 rfl))) (mvT hZ (ow hw 55 rfl)) (mvT hZ (ow hw 54 rfl)) (by decide) (backOf (W := 1) (rm7_4 l Z ar hw [] a1 h22 n0 O22 F22_29 F22_30) hZ (ow hw 56 rfl) (ow hw 7 rfl) (by decide) (by decide)) q31a q31c (g := (mkF m 24 #[rv a0, rv a1, rv a2] [(.ref a1), (.ref a0)])) rfl (by rw [hml]; rfl) (Steps.refl _) (argsL := []) (rest := [(.ref a0)]) (lenOf pd_2 rfl) rfl (by show 2 * 0 + _ ≤ _; exact Nat.le_of_eq rfl) (hb hby d5_24) (fun _ _ => ⟨rfl, e22, (by decide : 2 + 0 ≤ _), (by decide : 24 + 0 ≤ _)⟩)
 dsimp only [Pt.U, Pt.locs, Pt.cells, Pt.slots] at X31 l31 y31 z31 st31 hQ31
 subst l31 y31 z31
 obtain ⟨rfl, N31q, e31⟩ := hQ31
 have N31 := Fr.app N22 N31q
 obtain ⟨T32, h32, k32, X32, e32, E32, A32, B32, st32⟩ := newPE X31 hx hZ (ow hw 1 rfl) e31 (g := (mkF m 27 #[rv a0, rv a1, rv a2] [(.int (8 : Int32)), (.ref a0)])) rfl (hb hby d5_27) rfl (by decide) (cap := 8) (by decide) (by decide) (by decide) (by decide) (ad := "[I") (by decide)
 obtain ⟨b32, g32⟩ : ∃ z, z = h22.size := ⟨_, rfl⟩
 rw [← g32] at A32 B32 st32
 have ne32_33 : a0 ≠ b32 := Nat.ne_of_lt (Nat.lt_of_lt_of_le (E22_23).lt (Nat.le_of_eq g32.symm))
 have ne32_34 : a1 ≠ b32 := Nat.ne_of_lt (Nat.lt_of_lt_of_le (E22_28).lt (Nat.le_of_eq g32.symm))
 have gn32 : n0 ≤ b32 := Nat.le_trans (Nat.le_trans (Nat.le_of_eq O22.1.symm) O22.2.1) (Nat.le_of_eq g32.symm)
 have sz32 : h0.size ≤ b32 := Nat.le_trans K22.1 (Nat.le_of_eq g32.symm)
 have E32_35 := E22_23.ext E32
 have F32_36 := F22_24.ext E32
 have F32_37 := F22_25.ext E32
 have F32_38 := F22_26.ext E32
 have F32_39 := F22_27.ext E32
 have E32_40 := E22_28.ext E32
 have F32_41 := F22_29.ext E32
 have F32_42 := F22_30.ext E32
 have K32 := K22.ext E32
 have O32 := O22.ext E32
 have CR32 : CHr Z EL0 s.vm h0 T2.vm h32 := CR22.trans (CHr.ext E32 CR22.1)
 have hk := Nat.le_trans hk E32.1
 have V32_43 : Arv Z h32 b32 k32 .int (8 : Int32) [(.int (0 : Int32)), (.int (0 : Int32)), (.int (0 : Int32)), (.int (0 : Int32)), (.int (0 : Int32)), (.int (0 : Int32)), (.int (0 : Int32)), (.int (0 : Int32))] (.int (0 : Int32)) := (Arv.new A32 (by decide)).pad (pad_rep [] (.int (0 : Int32)) 8)
 obtain ⟨T44, h44, X44, e44, W44, st44⟩ := putF X32 hx hZ hown (host := "") (Or.inl (ow hw 57 rfl)) Via.refl e32 F32_37 E32_35 (Or.inr ⟨(ow hw 58 rfl), rfl, hnm⟩) (ow hw 3 rfl) (ty := (.array .int)) (by decide) rfl rfl (g := (mkF m 29 #[rv a0, rv a1, rv a2] [(.ref b32), (.ref a0)])) rfl rfl (hb hby d5_29)
 have E44_45 := E32_35.wr W44
 have F44_46 := F32_36.other W44 (Or.inr (slot_ne (Or.inr (ow hw 49 rfl)) (Or.inr (ow hw 58 rfl)) (by decide) (t := (.object "com/example/filters_under_siege/filtersundersiege/SketchShape")) (t' := (.array .int)) (by decide) (by decide)))
 have F44_47 : Fld Z h44 a0 "com/example/filters_under_siege/filtersundersiege/KeeperPairs" "fingerprints" "[I" (.ref b32) := F32_37.same W44
 have F44_48 := F32_38.other W44 (Or.inr (slot_ne (Or.inr (ow hw 61 rfl)) (Or.inr (ow hw 58 rfl)) (by decide) (t := (.array .long)) (t' := (.array .int)) (by decide) (by decide)))
 have F44_49 := F32_39.other W44 (Or.inr (slot_ne (Or.inr (ow hw 51 rfl)) (Or.inr (ow hw 58 rfl)) (by decide) (t := (.object "java/util/function/LongPredicate")) (t' := (.array .int)) (by decide) (by decide)))
 have E44_50 := E32_40.wr W44
 have F44_51 := F32_41.other W44 (Or.inl (Ne.symm pf9))
 have F44_52 := F32_42.other W44 (Or.inl (Ne.symm pf9))
 have V44_53 := V32_43.other W44 (Ne.symm ne32_33)
 have E44_54 := B32.wr W44
 have K44 := K32.wr W44 (Or.inl (List.mem_of_getElem? (i := 0) rfl))
 have O44 := O32.wr W44 pf5
 have CR44 : CHr Z EL0 s.vm h0 T2.vm h44 := CR32.trans (CHr.wr W44 own_sf0 CR32.1)
 have hk := Nat.le_trans hk (Keep.of_wr W44).1
 have N44 := Fr.snoc X44 N31 pf5
 obtain ⟨cq55, kq55, q55a, q55b, q55c⟩ := isOf hZ e44 E44_50
 obtain ⟨_, _, ⟨T55, L55, k55, n55⟩, -, X55, ⟨Lc55, hQ55, l55, y55, z55⟩, st55⟩ := X44.virtualBack hx (y := y7) (z := y7) hown (mvT hZ (ow hw 52 rfl)) (mvT hZ (ow hw 53 rfl)) (notFace_of_selects (args := #[]) (mvT hZ (ow hw 55 rfl))) (mvT hZ (ow hw 55 rfl)) (mvT hZ (ow hw 54 rfl)) (by decide) (backOf (W := 1) (rm7_4 l Z ar hw [] a1 h44 n0 O44 F44_51 F44_52) hZ (ow hw 56 rfl) (ow hw 7 rfl) (by decide) (by decide)) q55a q55c (g := (mkF m 34 #[rv a0, rv a1, rv a2] [(.ref a1), (.ref a0)])) rfl (by rw [hml]; rfl) (Steps.refl _) (argsL := []) (rest := [(.ref a0)]) (lenOf pd_2 rfl) rfl (by show 2 * 0 + _ ≤ _; exact Nat.le_of_eq rfl) (hb hby d5_34) (fun _ _ => ⟨rfl, e44, (by decide : 3 + 0 ≤ _), (by decide : 32 + 0 ≤ _)⟩)
 dsimp only [Pt.U, Pt.locs, Pt.cells, Pt.slots] at X55 l55 y55 z55 st55 hQ55
 subst l55 y55 z55
 obtain ⟨rfl, N55q, e55⟩ := hQ55
 have N55 := Fr.app N44 N55q
 obtain ⟨T56, h56, k56, X56, e56, E56, A56, B56, st56⟩ := newPE X55 hx hZ (ow hw 59 rfl) e55 (g := (mkF m 37 #[rv a0, rv a1, rv a2] [(.int (8 : Int32)), (.ref a0)])) rfl (hb hby d5_37) rfl (by decide) (cap := 8) (by decide) (by decide) (by decide) (by decide) (ad := "[J") (by decide)
 obtain ⟨b56, g56⟩ : ∃ z, z = h44.size := ⟨_, rfl⟩
 rw [← g56] at A56 B56 st56
 have ne56_57 : a0 ≠ b56 := Nat.ne_of_lt (Nat.lt_of_lt_of_le (E44_45).lt (Nat.le_of_eq g56.symm))
 have ne56_58 : a1 ≠ b56 := Nat.ne_of_lt (Nat.lt_of_lt_of_le (E44_50).lt (Nat.le_of_eq g56.symm))
 have ne56_59 : b32 ≠ b56 := Nat.ne_of_lt (Nat.lt_of_lt_of_le (V44_53).lt (Nat.le_of_eq g56.symm))
 have gn56 : n0 ≤ b56 := Nat.le_trans (Nat.le_trans (Nat.le_of_eq O44.1.symm) O44.2.1) (Nat.le_of_eq g56.symm)
 have sz56 : h0.size ≤ b56 := Nat.le_trans K44.1 (Nat.le_of_eq g56.symm)
 have E56_60 := E44_45.ext E56
 have F56_61 := F44_46.ext E56
 have F56_62 := F44_47.ext E56
 have F56_63 := F44_48.ext E56
 have F56_64 := F44_49.ext E56
 have E56_65 := E44_50.ext E56
 have F56_66 := F44_51.ext E56
 have F56_67 := F44_52.ext E56
 have V56_68 := V44_53.ext E56
 have E56_69 := E44_54.ext E56
 have K56 := K44.ext E56
 have O56 := O44.ext E56
 have CR56 : CHr Z EL0 s.vm h0 T2.vm h56 := CR44.trans (CHr.ext E56 CR44.1)
 have hk := Nat.le_trans hk E56.1
 have V56_70 : Arv Z h56 b56 k56 .long (8 : Int32) [(.long (0 : Int64)), (.long (0 : Int64)), (.long (0 : Int64)), (.long (0 : Int64)), (.long (0 : Int64)), (.long (0 : Int64)), (.long (0 : Int64)), (.long (0 : Int64))] (.long (0 : Int64)) := (Arv.new A56 (by decide)).pad (pad_rep [] (.long (0 : Int64)) 8)
 obtain ⟨T71, h71, X71, e71, W71, st71⟩ := putF X56 hx hZ hown (host := "") (Or.inl (ow hw 60 rfl)) Via.refl e56 F56_63 E56_60 (Or.inr ⟨(ow hw 61 rfl), rfl, hnm⟩) (ow hw 3 rfl) (ty := (.array .long)) (by decide) rfl rfl (g := (mkF m 39 #[rv a0, rv a1, rv a2] [(.ref b56), (.ref a0)])) rfl rfl (hb hby d5_39)
 have E71_72 := E56_60.wr W71
 have F71_73 := F56_61.other W71 (Or.inr (slot_ne (Or.inr (ow hw 49 rfl)) (Or.inr (ow hw 61 rfl)) (by decide) (t := (.object "com/example/filters_under_siege/filtersundersiege/SketchShape")) (t' := (.array .long)) (by decide) (by decide)))
 have F71_74 := F56_62.other W71 (Or.inr (slot_ne (Or.inr (ow hw 58 rfl)) (Or.inr (ow hw 61 rfl)) (by decide) (t := (.array .int)) (t' := (.array .long)) (by decide) (by decide)))
 have F71_75 : Fld Z h71 a0 "com/example/filters_under_siege/filtersundersiege/KeeperPairs" "counts" "[J" (.ref b56) := F56_63.same W71
 have F71_76 := F56_64.other W71 (Or.inr (slot_ne (Or.inr (ow hw 51 rfl)) (Or.inr (ow hw 61 rfl)) (by decide) (t := (.object "java/util/function/LongPredicate")) (t' := (.array .long)) (by decide) (by decide)))
 have E71_77 := E56_65.wr W71
 have F71_78 := F56_66.other W71 (Or.inl (Ne.symm pf9))
 have F71_79 := F56_67.other W71 (Or.inl (Ne.symm pf9))
 have V71_80 := V56_68.other W71 (Ne.symm ne32_33)
 have E71_81 := E56_69.wr W71
 have V71_82 := V56_70.other W71 (Ne.symm ne56_57)
 have E71_83 := B56.wr W71
 have K71 := K56.wr W71 (Or.inl (List.mem_of_getElem? (i := 0) rfl))
 have O71 := O56.wr W71 pf5
 have CR71 : CHr Z EL0 s.vm h0 T2.vm h71 := CR56.trans (CHr.wr W71 own_sf0 CR56.1)
 have hk := Nat.le_trans hk (Keep.of_wr W71).1
 have N71 := Fr.snoc X71 N55 pf5
 obtain ⟨fs, hr, hrun, hended, hRE⟩ := X71.leaveW hS (by rw [e71]; exact hk) (v := none) (fun _ => rfl)
 have CRf : CHr Z EL0 s.vm s.heap (T71.setFrames fs).vm (T71.setFrames fs).heap := by
   show CHr Z EL0 s.vm s.heap T71.vm T71.heap
   rw [hh, e71]
   exact CR71.trans (CHv.at X71 hZ hEL CR71.1)
 subst hS0
 refine ⟨_, _, pre0 _ ?_, hrun, hended, _, _, rfl, ?_, CRf, hRE.1, hRE.2.1, hRE.2.2.1, hRE.2.2.2.mono (by decide) (by decide)⟩
 ·
  refine XS.aloadN X0.here hx rfl (hb hby d5_0) rfl rfl ?_
  refine st1 _ ?_
  refine XS.aloadN X1.here hx rfl (hb hby d5_4) rfl rfl ?_
  refine XS.aloadN X1.here hx rfl (hb hby d5_5) rfl rfl ?_
  refine st2 _ ?_
  refine st11 _ ?_
  refine st12 _ ?_
  refine st13 _ ?_
  refine XS.aloadN X13.here hx rfl (hb hby d5_17) rfl rfl ?_
  refine XS.aloadN X13.here hx rfl (hb hby d5_18) rfl rfl ?_
  refine st22 _ ?_
  refine XS.aloadN X22.here hx rfl (hb hby d5_22) rfl rfl ?_
  refine XS.aloadN X22.here hx rfl (hb hby d5_23) rfl rfl ?_
  refine st31.trans ?_
  refine st32 _ ?_
  refine st44 _ ?_
  refine XS.aloadN X44.here hx rfl (hb hby d5_32) rfl rfl ?_
  refine XS.aloadN X44.here hx rfl (hb hby d5_33) rfl rfl ?_
  refine st55.trans ?_
  refine st56 _ ?_
  refine st71 _ ?_
  exact X71.returnOut hx Bd.returns (hb hby d5_42) hr
 ·
  show Q5_4 Z a0 a1 a2 h0 n0 _ T71.heap _
  rw [e71]
  exact ⟨b32, b56, k32, k56, rfl, N71, K71, E71_72, F71_73, F71_76, F71_74, F71_75, V71_80, V71_82, sz32, sz56, E71_81, E71_83⟩

theorem ef_4_4 (m : MethodId) (a0 : Addr) (a1 : Addr) : entryFrame m #[(.ref a0), (.ref a1)] 2 = mkF m 0 #[rv a0, rv a1] [] := by first | (simp [entryFrame, mkF, argsToLocals, Value.category]; done) | rfl
def Q4_4 (Z : State) (a0 : Addr) (a1 : Addr) (w_lam : Addr) (h0 : Heap) (n0 : Nat) (v : Option Value) (h : Heap) (L : List Loc) : Prop := ∃ (fa : Addr) (ca : Addr) (kf : ClassId) (kc : ClassId), v = none ∧ Fr n0 L ∧ Keep h0 h [a0] ∧ Exa Z h a0 "com/example/filters_under_siege/filtersundersiege/KeeperPairs" ∧ Fld Z h a0 "com/example/filters_under_siege/filtersundersiege/KeeperPairs" "shape" "Lcom/example/filters_under_siege/filtersundersiege/SketchShape;" (.ref a1) ∧ Fld Z h a0 "com/example/filters_under_siege/filtersundersiege/KeeperPairs" "knocksDown" "Ljava/util/function/LongPredicate;" (.ref w_lam) ∧ Fld Z h a0 "com/example/filters_under_siege/filtersundersiege/KeeperPairs" "fingerprints" "[I" (.ref fa) ∧ Fld Z h a0 "com/example/filters_under_siege/filtersundersiege/KeeperPairs" "counts" "[J" (.ref ca) ∧ Arv Z h fa kf .int (8 : Int32) [(.int (0 : Int32)), (.int (0 : Int32)), (.int (0 : Int32)), (.int (0 : Int32)), (.int (0 : Int32)), (.int (0 : Int32)), (.int (0 : Int32)), (.int (0 : Int32))] (.int (0 : Int32)) ∧ Arv Z h ca kc .long (8 : Int32) [(.long (0 : Int64)), (.long (0 : Int64)), (.long (0 : Int64)), (.long (0 : Int64)), (.long (0 : Int64)), (.long (0 : Int64)), (.long (0 : Int64)), (.long (0 : Int64))] (.long (0 : Int64)) ∧ h0.size ≤ fa ∧ h0.size ≤ ca ∧ Exa Z h fa "[I" ∧ Exa Z h ca "[J"
abbrev R4_4 : Room := ({ frames := 2, cells := 4, slots := 40, locals := 3074 } : Room)
set_option maxRecDepth 65536 in
set_option maxHeartbeats 40000000 in
theorem rm4_4 (l : Launch) (Z : State) (ar : Array Value) (hw : ∀ d ∈ tables_1, d.before ar Z = true) (ws : List Jvm.Cond) (a0 : Addr) (a1 : Addr) (h0 : Heap) (n0 : Nat) (O0 : Old Z n0 h0) (hEL : EW Z ar EL0) (HW : Wd Z w_lam k_lam) (pf0 : Exa Z h0 a0 "com/example/filters_under_siege/filtersundersiege/KeeperPairs") (pf1 : Fld Z h0 a0 "com/example/filters_under_siege/filtersundersiege/KeeperPairs" "shape" "Lcom/example/filters_under_siege/filtersundersiege/SketchShape;" .null) (pf2 : Fld Z h0 a0 "com/example/filters_under_siege/filtersundersiege/KeeperPairs" "fingerprints" "[I" .null) (pf3 : Fld Z h0 a0 "com/example/filters_under_siege/filtersundersiege/KeeperPairs" "counts" "[J" .null) (pf4 : Fld Z h0 a0 "com/example/filters_under_siege/filtersundersiege/KeeperPairs" "knocksDown" "Ljava/util/function/LongPredicate;" .null) (pf5 : n0 ≤ a0) (pf6 : Exa Z h0 a1 "com/example/filters_under_siege/filtersundersiege/SketchShape") (pf7 : Fld Z h0 a1 "com/example/filters_under_siege/filtersundersiege/SketchShape" "rows" "I" (.int (2 : Int32))) (pf8 : Fld Z h0 a1 "com/example/filters_under_siege/filtersundersiege/SketchShape" "width" "I" (.int (4 : Int32))) (pf9 : a0 ≠ a1) :
    MetFree l y4 (head1 (Jvm.Cond.code y4 prog_26_method_1_code 2 none :: ws) R4_4) (fun a U => a = #[(.ref a0), (.ref a1)] ∧ Z.Warmed39 U.vm ∧ U.heap = h0 ∧ CHv Z EL0 U.vm h0) (fun _ _ _ _ _ => True) (fun _ U o U' => ∃ v L, o = .returned v ∧ Q4_4 Z a0 a1 w_lam h0 n0 v U'.heap L ∧ CHr Z EL0 U.vm U.heap U'.vm U'.heap ∧ ReturnedEndW U o U' L R4_4.cells R4_4.slots) := by
 refine MetFree.of_bodySF (plainFor_of_name pn_3) hisR ?_
 intro p e s m args below meth c s₁ Bd hml0 hP hK
 obtain ⟨rfl, hZ, hh, hCH⟩ := hP
 have hx := Bd.exec
 have hby := Bd.bytes
 have hml : c.maxLocals = 2 := hml0
 have hown : s.vm.findClass "com/example/filters_under_siege/filtersundersiege/KeeperPairs" = some m.cls := findClass_of_methodNamed Bd.named
 have hnm := (name_of_methodNamed Bd.named Bd.method).1
 have hlk : meth.locks = false := by first | assumption | exact BodyLoose.notSynchronized (by assumption) | exact Body.notSynchronized (by assumption)
 have X0 : Stand p l e R4_4 (s.setVm s.vm) m #[(.ref a0), (.ref a1)] below meth c s₁ [] 0 0 := Stand.of_body Bd
 have e0 : s₁.heap = h0 := by rw [← hh, Bd.state]; rfl
 have N0 := Fr.nil n0
 have Z0 : n0 ≤ h0.size := Nat.le_trans (Nat.le_of_eq O0.1.symm) O0.2.1
 obtain ⟨S0, hS0⟩ : ∃ z, z = s₁.setTop (entryFrame m #[(.ref a0), (.ref a1)] 2) := ⟨_, rfl⟩
 have pre0 : ∀ tg, AT p e below s₁ m 0 #[rv a0, rv a1] [] tg → Steps p.tables e below S0 tg := fun tg kg => by rw [hS0]; exact castTop (ef_4_4 m a0 a1) kg
 have hS : s.Since s.vm 0 := (State.WarmedH.refl s).since 0
 have hk : 0 ≤ h0.size := Nat.zero_le _
 have CR0 : CHr Z EL0 s.vm h0 s.vm h0 := CHr.refl hCH
 obtain ⟨HLm, -⟩ := id HW
 have st1 := own_site X0 hx HLm hZ Bd.named (g := (mkF m 2 #[rv a0, rv a1] [(.ref a1), (.ref a0)])) rfl rfl (by rw [hml]; rfl) (hb hby d4_2) (W := 2) (by show 2 * 0 + _ ≤ _; exact Nat.le_of_eq rfl) (by decide)
 obtain ⟨_, _, ⟨T2, L2, k2, n2⟩, -, X2, hS2, hg2, ⟨Lc2, hQ2, l2, y2, z2, CRq2⟩, st2⟩ := X0.specialBackS hx (y := y5) rfl hown (mvT hZ (ow hw 30 rfl)) (mvT hZ (ow hw 31 rfl)) (mvT hZ (ow hw 32 rfl)) (by decide) (backOfSH (W := 0) (rm5_4 l Z ar hw [] a0 a1 w_lam h0 n0 O0 hEL pf0 pf1 pf2 pf3 pf4 pf5 pf6 pf7 pf8 pf9) hZ (ow hw 32 rfl) (ow hw 4 rfl) (by decide) (by decide) hEL CR0.1) (g := (mkF m 7 #[rv a0, rv a1] [(.ref w_lam), (.ref a1), (.ref a0)])) rfl (by rw [hml]; rfl) (Steps.refl _) (a := a0) (argsL := [(.ref a1), (.ref w_lam)]) (rest := []) (lenOf pd_3 rfl) rfl (by show 2 * 0 + _ ≤ _; exact Nat.le_of_eq rfl) (hb hby d4_7) (fun _ _ => ⟨rfl, e0, (by decide : 0 + 4 ≤ _), (by decide : 0 + 40 ≤ _)⟩)
 dsimp only [Pt.U, Pt.locs, Pt.cells, Pt.slots] at X2 l2 y2 z2 st2 hQ2 hS2 hg2 CRq2
 subst l2 y2 z2
 obtain ⟨X2, hS, hZ, hown⟩ := rebS hS (by rw [e0]; exact hk) X2 hS2 hg2 hZ hown
 have CR2 : CHr Z EL0 s.vm h0 T2.vm T2.heap := CR0.trans CRq2
 obtain ⟨fa_2, ca_2, kf_2, kc_2, rfl, N2q, Kq2, u2_0, u2_1, u2_2, u2_3, u2_4, u2_5, u2_6, u2_7, u2_8, u2_9, u2_10⟩ := hQ2
 have N2 := Fr.app N0 N2q
 have E2_3 := pf0.keep Kq2
 have E2_4 := pf6.keep Kq2
 have F2_5 := pf7.keep Kq2 (ninS (Ne.symm pf9) nin0)
 have F2_6 := pf8.keep Kq2 (ninS (Ne.symm pf9) nin0)
 have K2 := (Keep.refl h0 [a0]).trans Kq2 (allS (Or.inl (List.mem_of_getElem? (i := 0) rfl)) all0)
 have O2 := O0.keep Kq2 (allS pf5 all0)
 have hk := Nat.le_trans hk Kq2.1
 have hk := Nat.le_refl (Array.size T2.heap)
 have sz7 : h0.size ≤ fa_2 := Nat.le_trans (Keep.refl h0 [a0]).1 u2_7
 have gn7 : n0 ≤ fa_2 := Nat.le_trans (Nat.le_trans (Nat.le_of_eq O0.1.symm) O0.2.1) u2_7
 have ne8 : a0 ≠ fa_2 := Nat.ne_of_lt (Nat.lt_of_lt_of_le (pf0).lt u2_7)
 have ne9 : a1 ≠ fa_2 := Nat.ne_of_lt (Nat.lt_of_lt_of_le (pf6).lt u2_7)
 have sz10 : h0.size ≤ ca_2 := Nat.le_trans (Keep.refl h0 [a0]).1 u2_8
 have gn10 : n0 ≤ ca_2 := Nat.le_trans (Nat.le_trans (Nat.le_of_eq O0.1.symm) O0.2.1) u2_8
 have ne11 : a0 ≠ ca_2 := Nat.ne_of_lt (Nat.lt_of_lt_of_le (pf0).lt u2_8)
 have ne12 : a1 ≠ ca_2 := Nat.ne_of_lt (Nat.lt_of_lt_of_le (pf6).lt u2_8)
 obtain ⟨fs, hr, hrun, hended, hRE⟩ := X2.leaveW hS hk (v := none) (fun _ => rfl)
 have CRf : CHr Z EL0 s.vm s.heap (T2.setFrames fs).vm (T2.setFrames fs).heap := by
   show CHr Z EL0 s.vm s.heap T2.vm T2.heap
   rw [hh]
   exact CR2.trans (CHv.at X2 hZ hEL CR2.1)
 subst hS0
 refine ⟨_, _, pre0 _ ?_, hrun, hended, _, _, rfl, ?_, CRf, hRE.1, hRE.2.1, hRE.2.2.1, hRE.2.2.2.mono (by decide) (by decide)⟩
 ·
  refine XS.aloadN X0.here hx rfl (hb hby d4_0) rfl rfl ?_
  refine XS.aloadN X0.here hx rfl (hb hby d4_1) rfl rfl ?_
  refine st1 _ ?_
  refine st2.trans ?_
  exact X2.returnOut hx Bd.returns (hb hby d4_10) hr
 ·
  show Q4_4 Z a0 a1 w_lam h0 n0 _ T2.heap _
  exact ⟨fa_2, ca_2, kf_2, kc_2, rfl, N2, K2, E2_3, u2_1, u2_2, u2_3, u2_4, u2_5, u2_6, sz7, sz10, u2_9, u2_10⟩

theorem ef_8_4 (m : MethodId) (a0 : Addr) (a1 : Addr) (p2 : Int32) : entryFrame m #[(.ref a0), (.ref a1), (.int p2)] 5 = mkF m 0 #[rv a0, rv a1, iv p2, un, un] [] := by first | (simp [entryFrame, mkF, argsToLocals, Value.category]; done) | rfl
def Q8_4 (Z : State) (a0 : Addr) (a1 : Addr) (p2 : Int32) (sh : Addr) (kk : ClassId) (c0 : Int32) (c1 : Int32) (fa : Addr) (ca : Addr) (kf : ClassId) (kc : ClassId) (f0 : Int32) (f1 : Int32) (f2 : Int32) (f3 : Int32) (f4 : Int32) (f5 : Int32) (f6 : Int32) (f7 : Int32) (k0 : Int64) (k1 : Int64) (k2 : Int64) (k3 : Int64) (k4 : Int64) (k5 : Int64) (k6 : Int64) (k7 : Int64) (h0 : Heap) (n0 : Nat) (v : Option Value) (h : Heap) (L : List Loc) : Prop := v = none ∧ Fr n0 L ∧ Keep h0 h [fa, ca] ∧ Arv Z h fa kf .int (8 : Int32) [(.int (pI c0 (0 : Int32) (nf (sJ4 c0 k0 k1 k2 k3) (sI4 c0 f0 f1 f2 f3) p2) f0)), (.int (pI c0 (1 : Int32) (nf (sJ4 c0 k0 k1 k2 k3) (sI4 c0 f0 f1 f2 f3) p2) f1)), (.int (pI c0 (2 : Int32) (nf (sJ4 c0 k0 k1 k2 k3) (sI4 c0 f0 f1 f2 f3) p2) f2)), (.int (pI c0 (3 : Int32) (nf (sJ4 c0 k0 k1 k2 k3) (sI4 c0 f0 f1 f2 f3) p2) f3)), (.int (pI c1 (0 : Int32) (nf (sJ4 c1 k4 k5 k6 k7) (sI4 c1 f4 f5 f6 f7) p2) f4)), (.int (pI c1 (1 : Int32) (nf (sJ4 c1 k4 k5 k6 k7) (sI4 c1 f4 f5 f6 f7) p2) f5)), (.int (pI c1 (2 : Int32) (nf (sJ4 c1 k4 k5 k6 k7) (sI4 c1 f4 f5 f6 f7) p2) f6)), (.int (pI c1 (3 : Int32) (nf (sJ4 c1 k4 k5 k6 k7) (sI4 c1 f4 f5 f6 f7) p2) f7))] (.int (0 : Int32)) ∧ Arv Z h ca kc .long (8 : Int32) [(.long (pJ c0 (0 : Int32) (nc (sJ4 c0 k0 k1 k2 k3) (sI4 c0 f0 f1 f2 f3) p2) k0)), (.long (pJ c0 (1 : Int32) (nc (sJ4 c0 k0 k1 k2 k3) (sI4 c0 f0 f1 f2 f3) p2) k1)), (.long (pJ c0 (2 : Int32) (nc (sJ4 c0 k0 k1 k2 k3) (sI4 c0 f0 f1 f2 f3) p2) k2)), (.long (pJ c0 (3 : Int32) (nc (sJ4 c0 k0 k1 k2 k3) (sI4 c0 f0 f1 f2 f3) p2) k3)), (.long (pJ c1 (0 : Int32) (nc (sJ4 c1 k4 k5 k6 k7) (sI4 c1 f4 f5 f6 f7) p2) k4)), (.long (pJ c1 (1 : Int32) (nc (sJ4 c1 k4 k5 k6 k7) (sI4 c1 f4 f5 f6 f7) p2) k5)), (.long (pJ c1 (2 : Int32) (nc (sJ4 c1 k4 k5 k6 k7) (sI4 c1 f4 f5 f6 f7) p2) k6)), (.long (pJ c1 (3 : Int32) (nc (sJ4 c1 k4 k5 k6 k7) (sI4 c1 f4 f5 f6 f7) p2) k7))] (.long (0 : Int64))
abbrev R8_4 : Room := ({ frames := 2, cells := 0, slots := 0, locals := 27 } : Room)
set_option maxRecDepth 65536 in
set_option maxHeartbeats 40000000 in
theorem rm8_4 (l : Launch) (Z : State) (ar : Array Value) (hw : ∀ d ∈ tables_1, d.before ar Z = true) (ws : List Jvm.Cond) (a0 : Addr) (a1 : Addr) (p2 : Int32) (sh : Addr) (kk : ClassId) (c0 : Int32) (c1 : Int32) (fa : Addr) (ca : Addr) (kf : ClassId) (kc : ClassId) (f0 : Int32) (f1 : Int32) (f2 : Int32) (f3 : Int32) (f4 : Int32) (f5 : Int32) (f6 : Int32) (f7 : Int32) (k0 : Int64) (k1 : Int64) (k2 : Int64) (k3 : Int64) (k4 : Int64) (k5 : Int64) (k6 : Int64) (k7 : Int64) (h0 : Heap) (n0 : Nat) (O0 : Old Z n0 h0) (HW : Wd Z w_lam k_lam) (pf0 : Exa Z h0 a0 "com/example/filters_under_siege/filtersundersiege/KeeperPairs") (pf1 : Fld Z h0 a0 "com/example/filters_under_siege/filtersundersiege/KeeperPairs" "shape" "Lcom/example/filters_under_siege/filtersundersiege/SketchShape;" (.ref sh)) (pf2 : Exa Z h0 sh "com/example/filters_under_siege/filtersundersiege/SketchShape") (pf3 : Fld Z h0 sh "com/example/filters_under_siege/filtersundersiege/SketchShape" "width" "I" (.int (4 : Int32))) (pf4 : Fld Z h0 a0 "com/example/filters_under_siege/filtersundersiege/KeeperPairs" "fingerprints" "[I" (.ref fa)) (pf5 : Fld Z h0 a0 "com/example/filters_under_siege/filtersundersiege/KeeperPairs" "counts" "[J" (.ref ca)) (pf6 : Fld Z h0 a0 "com/example/filters_under_siege/filtersundersiege/KeeperPairs" "knocksDown" "Ljava/util/function/LongPredicate;" (.ref w_lam)) (pf7 : Exa Z h0 a1 "[I") (pf8 : Arv Z h0 a1 kk .int (2 : Int32) [(.int c0), (.int c1)] (.int (0 : Int32))) (pf9 : Exa Z h0 fa "[I") (pf10 : Exa Z h0 ca "[J") (pf11 : Arv Z h0 fa kf .int (8 : Int32) [(.int f0), (.int f1), (.int f2), (.int f3), (.int f4), (.int f5), (.int f6), (.int f7)] (.int (0 : Int32))) (pf12 : Arv Z h0 ca kc .long (8 : Int32) [(.long k0), (.long k1), (.long k2), (.long k3), (.long k4), (.long k5), (.long k6), (.long k7)] (.long (0 : Int64))) (pf13 : n0 ≤ fa) (pf14 : n0 ≤ ca) (pf15 : a1 ≠ fa) (hc0 : c0 = (0 : Int32) ∨ c0 = (1 : Int32) ∨ c0 = (2 : Int32) ∨ c0 = (3 : Int32)) (hc1 : c1 = (0 : Int32) ∨ c1 = (1 : Int32) ∨ c1 = (2 : Int32) ∨ c1 = (3 : Int32)) :
    MetFree l y8 (head1 (Jvm.Cond.code y8 prog_26_method_4_code 5 none :: ws) R8_4) (fun a U => a = #[(.ref a0), (.ref a1), (.int p2)] ∧ Z.Warmed39 U.vm ∧ U.heap = h0) (fun _ _ _ _ _ => True) (fun _ U o U' => ∃ v L, o = .returned v ∧ Q8_4 Z a0 a1 p2 sh kk c0 c1 fa ca kf kc f0 f1 f2 f3 f4 f5 f6 f7 k0 k1 k2 k3 k4 k5 k6 k7 h0 n0 v U'.heap L ∧ FrameEnd U o U' L R8_4.cells R8_4.slots) := by
 refine MetFree.of_bodySF (plainFor_of_name pn_3) hisR ?_
 intro p e s m args below meth c s₁ Bd hml0 hP hK
 obtain ⟨rfl, hZ, hh⟩ := hP
 have hx := Bd.exec
 have hby := Bd.bytes
 have hml : c.maxLocals = 5 := hml0
 have hown : s.vm.findClass "com/example/filters_under_siege/filtersundersiege/KeeperPairs" = some m.cls := findClass_of_methodNamed Bd.named
 have hnm := (name_of_methodNamed Bd.named Bd.method).1
 have hlk : meth.locks = false := by first | assumption | exact BodyLoose.notSynchronized (by assumption) | exact Body.notSynchronized (by assumption)
 have X0 : Stand p l e R8_4 s m #[(.ref a0), (.ref a1), (.int p2)] below meth c s₁ [] 0 0 := Stand.of_body Bd
 have e0 : s₁.heap = h0 := by rw [← hh, Bd.state]; rfl
 have N0 := Fr.nil n0
 have Z0 : n0 ≤ h0.size := Nat.le_trans (Nat.le_of_eq O0.1.symm) O0.2.1
 obtain ⟨S0, hS0⟩ : ∃ z, z = s₁.setTop (entryFrame m #[(.ref a0), (.ref a1), (.int p2)] 5) := ⟨_, rfl⟩
 have pre0 : ∀ tg, AT p e below s₁ m 0 #[rv a0, rv a1, iv p2, un, un] [] tg → Steps p.tables e below S0 tg := fun tg kg => by rw [hS0]; exact castTop (ef_8_4 m a0 a1 p2) kg
 obtain ⟨HLm, -⟩ := id HW
 have n_a0_fa : a0 ≠ fa := (ne_exa pf0 pf9 (by decide))
 have n_a0_ca : a0 ≠ ca := (ne_exa pf0 pf10 (by decide))
 have n_sh_fa : sh ≠ fa := (ne_exa pf2 pf9 (by decide))
 have n_sh_ca : sh ≠ ca := (ne_exa pf2 pf10 (by decide))
 have n_a1_ca : a1 ≠ ca := (ne_exa pf7 pf10 (by decide))
 have n_fa_ca : fa ≠ ca := (ne_exa pf9 pf10 (by decide))
 obtain ⟨cl1, Ar1, q1, S1, N1, H1, G1⟩ := id pf8
 obtain ⟨T2, X2, e2, st2⟩ := getF X0 hx hZ hown (host := "") (Or.inl (ow hw 48 rfl)) Via.refl e0 pf1 (g := (mkF m 10 #[rv a0, rv a1, iv p2, iv (0 : Int32), un] [(.ref a0), (.int (0 : Int32))])) rfl rfl (hb hby d8_10)
 obtain ⟨cq3, kq3, q3a, q3b, q3c⟩ := isOf hZ e2 pf2
 obtain ⟨_, _, ⟨T3, L3, k3, n3⟩, -, X3, ⟨Lc3, hQ3, l3, y3, z3⟩, st3⟩ := X2.virtualBack hx (y := y9) (z := y9) hown (mvT hZ (ow hw 67 rfl)) (mvT hZ (ow hw 68 rfl)) (notFace_of_selects (args := #[]) (mvT hZ (ow hw 70 rfl))) (mvT hZ (ow hw 70 rfl)) (mvT hZ (ow hw 69 rfl)) (by decide) (backOf (W := 1) (rm9 l Z ar hw [] sh _ h0 n0 O0 pf3) hZ (ow hw 71 rfl) (ow hw 7 rfl) (by decide) (by decide)) q3a q3c (g := (mkF m 13 #[rv a0, rv a1, iv p2, iv (0 : Int32), un] [(.ref sh), (.int (0 : Int32))])) rfl (by rw [hml]; rfl) (Steps.refl _) (argsL := []) (rest := [(.int (0 : Int32))]) (lenOf pd_2 rfl) rfl (by show 2 * 0 + _ ≤ _; exact Nat.le_of_eq rfl) (hb hby d8_13) (fun _ _ => ⟨rfl, e2, (by decide : 0 + 0 ≤ _), (by decide : 0 + 0 ≤ _)⟩)
 dsimp only [Pt.U, Pt.locs, Pt.cells, Pt.slots] at X3 l3 y3 z3 st3 hQ3
 subst l3 y3 z3
 obtain ⟨rfl, N3q, e3⟩ := hQ3
 have N3 := Fr.app N0 N3q
 obtain ⟨cl4, Ar4, q4, S4, N4, H4, G4⟩ := id pf8
 have hin4 := own_in (0 : Int32) S4 ⟨by decide, by decide⟩
 have hat4 : cl4.slots[((0 : Int32)).toNatClampNeg]? = some (.int c0) := Has.at H4 hin4 rfl
 have pre5 : ∀ tg, AT p e below T3 m 23 #[rv a0, rv a1, iv p2, iv (0 : Int32), iv ((0 : Int32) + c0)] [] tg → Steps p.tables e below S0 tg := fun tg kg => pre0 tg (by
  refine XS.iconst X0.here hx rfl (hb hby d8_0) ?_
  refine XS.istoreN X0.here hx rfl (hb hby d8_1) rfl (l' := #[rv a0, rv a1, iv p2, iv (0 : Int32), un]) rfl ?_
  refine XS.iloadN X0.here hx rfl (hb hby d8_2) rfl ?_
  refine XS.aloadN X0.here hx rfl (hb hby d8_3) rfl rfl ?_
  refine X0.arraylength hx (by rw [e0]; exact Ar1.1) (State.isArrayOf_alike hZ.alike Ar1.2.1) (g := (mkF m 4 #[rv a0, rv a1, iv p2, iv (0 : Int32), un] [(.ref a1), (.int (0 : Int32))])) rfl rfl (hb hby d8_4) _ ?_
  rw [len_of S1 N1]
  show AT p e below s₁ m 5 #[rv a0, rv a1, iv p2, iv (0 : Int32), un] [(.int (2 : Int32)), (.int (0 : Int32))] _
  refine XS.icmpNo X0.here hx rfl (hb hby d8_5) rfl (XT.ii_ge_f ((by decide) : (0 : Int32) < (2 : Int32))) ?_
  refine XS.iloadN X0.here hx rfl (hb hby d8_8) rfl ?_
  refine XS.aloadN X0.here hx rfl (hb hby d8_9) rfl rfl ?_
  refine st2 _ ?_
  refine st3.trans ?_
  refine XS.imul X3.here hx rfl (hb hby d8_16) rfl ?_
  refine XS.aloadN X3.here hx rfl (hb hby d8_17) rfl rfl ?_
  refine XS.iloadN X3.here hx rfl (hb hby d8_18) rfl ?_
  refine X3.iaload hx (j := (0 : Int32)) (v := (.int c0)) (by rw [e3]; exact Ar4.1) (State.isArrayOf_alike hZ.alike Ar4.2.1) Ar4.2.2 hin4 hat4 (g := (mkF m 19 #[rv a0, rv a1, iv p2, iv (0 : Int32), un] [(.int (0 : Int32)), (.ref a1), (.int (0 : Int32))])) rfl rfl (hb hby d8_19) _ ?_
  refine XS.iadd X3.here hx rfl (hb hby d8_20) rfl ?_
  refine XS.istore X3.here hx rfl (hb hby d8_21) rfl (l' := #[rv a0, rv a1, iv p2, iv (0 : Int32), iv ((0 : Int32) + c0)]) rfl ?_
  exact kg)
 obtain ⟨Kz0, hKz0⟩ : ∃ z, z = (sJ4 c0 k0 k1 k2 k3) := ⟨_, rfl⟩
 obtain ⟨Fz0, hFz0⟩ : ∃ z, z = (sI4 c0 f0 f1 f2 f3) := ⟨_, rfl⟩
 obtain ⟨T6, h6, L6, X6, e6, N6, K6, O6, J6_0, J6_1, J6_2, J6_3, J6_4, J6_5, J6_6, J6_7, J6_8, J6_9, J6_10, J6_11, J6_12, pre6⟩ : ∃ (T6 : State) (h6 : Heap) (L6 : List Loc), Stand p l e R8_4 s m #[(.ref a0), (.ref a1), (.int p2)] below meth c T6 L6 (0 + 0) (0 + 0) ∧ T6.heap = h6 ∧ Fr n0 L6 ∧ Keep h0 h6 [fa, ca] ∧ Old Z n0 h6 ∧ Exa Z h6 a0 "com/example/filters_under_siege/filtersundersiege/KeeperPairs" ∧ Fld Z h6 a0 "com/example/filters_under_siege/filtersundersiege/KeeperPairs" "shape" "Lcom/example/filters_under_siege/filtersundersiege/SketchShape;" (.ref sh) ∧ Exa Z h6 sh "com/example/filters_under_siege/filtersundersiege/SketchShape" ∧ Fld Z h6 sh "com/example/filters_under_siege/filtersundersiege/SketchShape" "width" "I" (.int (4 : Int32)) ∧ Fld Z h6 a0 "com/example/filters_under_siege/filtersundersiege/KeeperPairs" "fingerprints" "[I" (.ref fa) ∧ Fld Z h6 a0 "com/example/filters_under_siege/filtersundersiege/KeeperPairs" "counts" "[J" (.ref ca) ∧ Fld Z h6 a0 "com/example/filters_under_siege/filtersundersiege/KeeperPairs" "knocksDown" "Ljava/util/function/LongPredicate;" (.ref w_lam) ∧ Exa Z h6 a1 "[I" ∧ Arv Z h6 a1 kk .int (2 : Int32) [(.int c0), (.int c1)] (.int (0 : Int32)) ∧ Exa Z h6 fa "[I" ∧ Exa Z h6 ca "[J" ∧ Arv Z h6 fa kf .int (8 : Int32) [(.int (pI c0 (0 : Int32) (nf Kz0 Fz0 p2) f0)), (.int (pI c0 (1 : Int32) (nf Kz0 Fz0 p2) f1)), (.int (pI c0 (2 : Int32) (nf Kz0 Fz0 p2) f2)), (.int (pI c0 (3 : Int32) (nf Kz0 Fz0 p2) f3)), (.int f4), (.int f5), (.int f6), (.int f7)] (.int (0 : Int32)) ∧ Arv Z h6 ca kc .long (8 : Int32) [(.long (pJ c0 (0 : Int32) (nc Kz0 Fz0 p2) k0)), (.long (pJ c0 (1 : Int32) (nc Kz0 Fz0 p2) k1)), (.long (pJ c0 (2 : Int32) (nc Kz0 Fz0 p2) k2)), (.long (pJ c0 (3 : Int32) (nc Kz0 Fz0 p2) k3)), (.long k4), (.long k5), (.long k6), (.long k7)] (.long (0 : Int64)) ∧ (∀ tg, AT p e below T6 m 126 #[rv a0, rv a1, iv p2, iv (0 : Int32), iv ((0 : Int32) + c0)] [] tg → Steps p.tables e below S0 tg) := by
  obtain ⟨T7, X7, e7, st7⟩ := getF X3 hx hZ hown (host := "") (Or.inl (ow hw 60 rfl)) Via.refl e3 pf5 (g := (mkF m 24 #[rv a0, rv a1, iv p2, iv (0 : Int32), iv ((0 : Int32) + c0)] [(.ref a0)])) rfl rfl (hb hby d8_24)
  obtain ⟨cl8, Ar8, q8, S8, N8, H8, G8⟩ := id pf12
  have hin8 := own_in ((0 : Int32) + c0) S8 (own_b4_0 hc0)
  have hat8 : cl8.slots[(((0 : Int32) + c0)).toNatClampNeg]? = some (.long Kz0) := Has.at H8 hin8 ((own_gJ4_0 hc0).trans (congrArg Value.long hKz0.symm))
  have pre9 : ∀ tg, AT p e below T7 m 32 #[rv a0, rv a1, iv p2, iv (0 : Int32), iv ((0 : Int32) + c0)] [(.int (XT.cmpL Kz0 (0 : Int64)))] tg → Steps p.tables e below S0 tg := fun tg kg => pre5 tg (by
   refine XS.aloadN X3.here hx rfl (hb hby d8_23) rfl rfl ?_
   refine st7 _ ?_
   refine XS.iload X7.here hx rfl (hb hby d8_27) rfl ?_
   refine X7.laload hx (j := ((0 : Int32) + c0)) (v := (.long Kz0)) (by rw [e7]; exact Ar8.1) (State.isArrayOf_alike hZ.alike Ar8.2.1) Ar8.2.2 hin8 hat8 (g := (mkF m 29 #[rv a0, rv a1, iv p2, iv (0 : Int32), iv ((0 : Int32) + c0)] [(.int ((0 : Int32) + c0)), (.ref ca)])) rfl rfl (hb hby d8_29) _ ?_
   refine XS.lconst X7.here hx rfl (hb hby d8_30) ?_
   refine XS.lcmp X7.here hx rfl (hb hby d8_31) rfl ?_
   exact kg)
  rcases Decidable.em (Kz0 = (0 : Int64)) with hc10 | hc10
  ·
   obtain ⟨T11, X11, e11, st11⟩ := getF X7 hx hZ hown (host := "") (Or.inl (ow hw 57 rfl)) Via.refl e7 pf4 (g := (mkF m 47 #[rv a0, rv a1, iv p2, iv (0 : Int32), iv ((0 : Int32) + c0)] [(.ref a0)])) rfl rfl (hb hby d8_47)
   obtain ⟨cl12, Ar12, q12, S12, M12, H12, G12⟩ := id pf11
   have hin12 := own_in ((0 : Int32) + c0) S12 (own_b4_0 hc0)
   obtain ⟨T12, h12, X12, e12, W12, st12⟩ := stI X11 hx hZ e11 Ar12 (j := ((0 : Int32) + c0)) hin12 (g := (mkF m 53 #[rv a0, rv a1, iv p2, iv (0 : Int32), iv ((0 : Int32) + c0)] [(.int p2), (.int ((0 : Int32) + c0)), (.ref fa)])) rfl rfl (hb hby d8_53)
   have V12_13 : Arv Z h12 fa kf .int (8 : Int32) [(.int (pI c0 (0 : Int32) p2 f0)), (.int (pI c0 (1 : Int32) p2 f1)), (.int (pI c0 (2 : Int32) p2 f2)), (.int (pI c0 (3 : Int32) p2 f3)), (.int f4), (.int f5), (.int f6), (.int f7)] (.int (0 : Int32)) := by have q := Arv.set Ar12 q12 S12 M12 H12 G12 rfl W12 (((0 : Int32) + c0)).toNatClampNeg rfl (own_k4_0 hc0); rw [own_sI4_0 hc0] at q; exact q
   have E12_14 := pf0.wr W12
   have F12_15 := pf1.other W12 (Or.inl n_a0_fa)
   have E12_16 := pf2.wr W12
   have F12_17 := pf3.other W12 (Or.inl n_sh_fa)
   have F12_18 := pf4.other W12 (Or.inl n_a0_fa)
   have F12_19 := pf5.other W12 (Or.inl n_a0_fa)
   have F12_20 := pf6.other W12 (Or.inl n_a0_fa)
   have E12_21 := pf7.wr W12
   have V12_22 := pf8.other W12 pf15
   have E12_23 := pf9.wr W12
   have E12_24 := pf10.wr W12
   have V12_25 := pf12.other W12 (Ne.symm n_fa_ca)
   have K12 := (Keep.refl h0 [fa, ca]).wr W12 (Or.inl (List.mem_of_getElem? (i := 0) rfl))
   have O12 := O0.wr W12 pf13
   have N12 := Fr.snoc X12 N3 pf13
   obtain ⟨T26, X26, e26, st26⟩ := getF X12 hx hZ hown (host := "") (Or.inl (ow hw 60 rfl)) Via.refl e12 F12_19 (g := (mkF m 55 #[rv a0, rv a1, iv p2, iv (0 : Int32), iv ((0 : Int32) + c0)] [(.ref a0)])) rfl rfl (hb hby d8_55)
   obtain ⟨cl27, Ar27, q27, S27, N27, H27, G27⟩ := id V12_25
   have hin27 := own_in ((0 : Int32) + c0) S27 (own_b4_0 hc0)
   have hat27 : cl27.slots[(((0 : Int32) + c0)).toNatClampNeg]? = some (.long Kz0) := Has.at H27 hin27 ((own_gJ4_0 hc0).trans (congrArg Value.long hKz0.symm))
   obtain ⟨cl28, Ar28, q28, S28, M28, H28, G28⟩ := id V12_25
   have hin28 := own_in ((0 : Int32) + c0) S28 (own_b4_0 hc0)
   obtain ⟨T28, h28, X28, e28, W28, st28⟩ := stJ X26 hx hZ e26 Ar28 (j := ((0 : Int32) + c0)) hin28 (g := (mkF m 64 #[rv a0, rv a1, iv p2, iv (0 : Int32), iv ((0 : Int32) + c0)] [(.long (Kz0 + (1 : Int64))), (.int ((0 : Int32) + c0)), (.ref ca)])) rfl rfl (hb hby d8_64)
   have V28_29 : Arv Z h28 ca kc .long (8 : Int32) [(.long (pJ c0 (0 : Int32) (Kz0 + (1 : Int64)) k0)), (.long (pJ c0 (1 : Int32) (Kz0 + (1 : Int64)) k1)), (.long (pJ c0 (2 : Int32) (Kz0 + (1 : Int64)) k2)), (.long (pJ c0 (3 : Int32) (Kz0 + (1 : Int64)) k3)), (.long k4), (.long k5), (.long k6), (.long k7)] (.long (0 : Int64)) := by have q := Arv.set Ar28 q28 S28 M28 H28 G28 rfl W28 (((0 : Int32) + c0)).toNatClampNeg rfl (own_k4_0 hc0); rw [own_sJ4_0 hc0] at q; exact q
   have E28_30 := E12_14.wr W28
   have F28_31 := F12_15.other W28 (Or.inl n_a0_ca)
   have E28_32 := E12_16.wr W28
   have F28_33 := F12_17.other W28 (Or.inl n_sh_ca)
   have F28_34 := F12_18.other W28 (Or.inl n_a0_ca)
   have F28_35 := F12_19.other W28 (Or.inl n_a0_ca)
   have F28_36 := F12_20.other W28 (Or.inl n_a0_ca)
   have E28_37 := E12_21.wr W28
   have V28_38 := V12_22.other W28 n_a1_ca
   have E28_39 := E12_23.wr W28
   have E28_40 := E12_24.wr W28
   have V28_41 := V12_13.other W28 n_fa_ca
   have K28 := K12.wr W28 (Or.inl (List.mem_of_getElem? (i := 1) rfl))
   have O28 := O12.wr W28 pf14
   have N28 := Fr.snoc X28 N12 pf14
   have pre42 : ∀ tg, AT p e below T28 m 126 #[rv a0, rv a1, iv p2, iv (0 : Int32), iv ((0 : Int32) + c0)] [] tg → Steps p.tables e below S0 tg := fun tg kg => pre9 tg (by
    refine XS.ifYes X7.here hx rfl (pc0 := 32) (pc' := 46) rfl (hb hby d8_32) rfl (XT.ll_eq_t hc10) (by decide) (by decide) ?_
    refine XS.aloadN X7.here hx rfl (hb hby d8_46) rfl rfl ?_
    refine st11 _ ?_
    refine XS.iload X11.here hx rfl (hb hby d8_50) rfl ?_
    refine XS.iloadN X11.here hx rfl (hb hby d8_52) rfl ?_
    refine st12 _ ?_
    refine XS.aloadN X12.here hx rfl (hb hby d8_54) rfl rfl ?_
    refine st26 _ ?_
    refine XS.iload X26.here hx rfl (hb hby d8_58) rfl ?_
    refine XT.dup2 X26.here hx rfl (hb hby d8_60) rfl rfl rfl ?_
    refine X26.laload hx (j := ((0 : Int32) + c0)) (v := (.long Kz0)) (by rw [e26]; exact Ar27.1) (State.isArrayOf_alike hZ.alike Ar27.2.1) Ar27.2.2 hin27 hat27 (g := (mkF m 61 #[rv a0, rv a1, iv p2, iv (0 : Int32), iv ((0 : Int32) + c0)] [(.int ((0 : Int32) + c0)), (.ref ca), (.int ((0 : Int32) + c0)), (.ref ca)])) rfl rfl (hb hby d8_61) _ ?_
    refine XS.lconst X26.here hx rfl (hb hby d8_62) ?_
    refine XS.ladd X26.here hx rfl (hb hby d8_63) rfl ?_
    refine st28 _ ?_
    refine XS.goto X28.here hx rfl (pc0 := 65) (pc' := 126) rfl (hb hby d8_65) (by decide) (by decide) ?_
    exact kg)
   have hj43 : (pI c0 (0 : Int32) (nf Kz0 Fz0 p2) f0) = (pI c0 (0 : Int32) p2 f0) := by simp only [nf, if_pos hc10]
   have hj44 : (pI c0 (1 : Int32) (nf Kz0 Fz0 p2) f1) = (pI c0 (1 : Int32) p2 f1) := by simp only [nf, if_pos hc10]
   have hj45 : (pI c0 (2 : Int32) (nf Kz0 Fz0 p2) f2) = (pI c0 (2 : Int32) p2 f2) := by simp only [nf, if_pos hc10]
   have hj46 : (pI c0 (3 : Int32) (nf Kz0 Fz0 p2) f3) = (pI c0 (3 : Int32) p2 f3) := by simp only [nf, if_pos hc10]
   have hj47 : (pJ c0 (0 : Int32) (nc Kz0 Fz0 p2) k0) = (pJ c0 (0 : Int32) (Kz0 + (1 : Int64)) k0) := by simp only [nc, if_pos hc10]
   have hj48 : (pJ c0 (1 : Int32) (nc Kz0 Fz0 p2) k1) = (pJ c0 (1 : Int32) (Kz0 + (1 : Int64)) k1) := by simp only [nc, if_pos hc10]
   have hj49 : (pJ c0 (2 : Int32) (nc Kz0 Fz0 p2) k2) = (pJ c0 (2 : Int32) (Kz0 + (1 : Int64)) k2) := by simp only [nc, if_pos hc10]
   have hj50 : (pJ c0 (3 : Int32) (nc Kz0 Fz0 p2) k3) = (pJ c0 (3 : Int32) (Kz0 + (1 : Int64)) k3) := by simp only [nc, if_pos hc10]
   exact ⟨_, _, _, X28, e28, N28, K28, O28, E28_30, F28_31, E28_32, F28_33, F28_34, F28_35, F28_36, E28_37, V28_38, E28_39, E28_40, (by rw [hj43, hj44, hj45, hj46]; exact V28_41), (by rw [hj47, hj48, hj49, hj50]; exact V28_29), pre42⟩
  ·
   obtain ⟨T51, X51, e51, st51⟩ := getF X7 hx hZ hown (host := "") (Or.inl (ow hw 57 rfl)) Via.refl e7 pf4 (g := (mkF m 36 #[rv a0, rv a1, iv p2, iv (0 : Int32), iv ((0 : Int32) + c0)] [(.ref a0)])) rfl rfl (hb hby d8_36)
   obtain ⟨cl52, Ar52, q52, S52, N52, H52, G52⟩ := id pf11
   have hin52 := own_in ((0 : Int32) + c0) S52 (own_b4_0 hc0)
   have hat52 : cl52.slots[(((0 : Int32) + c0)).toNatClampNeg]? = some (.int Fz0) := Has.at H52 hin52 ((own_gI4_0 hc0).trans (congrArg Value.int hFz0.symm))
   have pre53 : ∀ tg, AT p e below T51 m 43 #[rv a0, rv a1, iv p2, iv (0 : Int32), iv ((0 : Int32) + c0)] [(.int p2), (.int Fz0)] tg → Steps p.tables e below S0 tg := fun tg kg => pre9 tg (by
    refine XS.ifNo X7.here hx rfl (hb hby d8_32) rfl (XT.ll_eq_f hc10) ?_
    refine XS.aloadN X7.here hx rfl (hb hby d8_35) rfl rfl ?_
    refine st51 _ ?_
    refine XS.iload X51.here hx rfl (hb hby d8_39) rfl ?_
    refine X51.iaload hx (j := ((0 : Int32) + c0)) (v := (.int Fz0)) (by rw [e51]; exact Ar52.1) (State.isArrayOf_alike hZ.alike Ar52.2.1) Ar52.2.2 hin52 hat52 (g := (mkF m 41 #[rv a0, rv a1, iv p2, iv (0 : Int32), iv ((0 : Int32) + c0)] [(.int ((0 : Int32) + c0)), (.ref fa)])) rfl rfl (hb hby d8_41) _ ?_
    refine XS.iloadN X51.here hx rfl (hb hby d8_42) rfl ?_
    exact kg)
   rcases Decidable.em (Fz0 = p2) with hc54 | hc54
   ·
    obtain ⟨T55, X55, e55, st55⟩ := getF X51 hx hZ hown (host := "") (Or.inl (ow hw 57 rfl)) Via.refl e51 pf4 (g := (mkF m 47 #[rv a0, rv a1, iv p2, iv (0 : Int32), iv ((0 : Int32) + c0)] [(.ref a0)])) rfl rfl (hb hby d8_47)
    obtain ⟨cl56, Ar56, q56, S56, M56, H56, G56⟩ := id pf11
    have hin56 := own_in ((0 : Int32) + c0) S56 (own_b4_0 hc0)
    obtain ⟨T56, h56, X56, e56, W56, st56⟩ := stI X55 hx hZ e55 Ar56 (j := ((0 : Int32) + c0)) hin56 (g := (mkF m 53 #[rv a0, rv a1, iv p2, iv (0 : Int32), iv ((0 : Int32) + c0)] [(.int p2), (.int ((0 : Int32) + c0)), (.ref fa)])) rfl rfl (hb hby d8_53)
    have V56_57 : Arv Z h56 fa kf .int (8 : Int32) [(.int (pI c0 (0 : Int32) p2 f0)), (.int (pI c0 (1 : Int32) p2 f1)), (.int (pI c0 (2 : Int32) p2 f2)), (.int (pI c0 (3 : Int32) p2 f3)), (.int f4), (.int f5), (.int f6), (.int f7)] (.int (0 : Int32)) := by have q := Arv.set Ar56 q56 S56 M56 H56 G56 rfl W56 (((0 : Int32) + c0)).toNatClampNeg rfl (own_k4_0 hc0); rw [own_sI4_0 hc0] at q; exact q
    have E56_58 := pf0.wr W56
    have F56_59 := pf1.other W56 (Or.inl n_a0_fa)
    have E56_60 := pf2.wr W56
    have F56_61 := pf3.other W56 (Or.inl n_sh_fa)
    have F56_62 := pf4.other W56 (Or.inl n_a0_fa)
    have F56_63 := pf5.other W56 (Or.inl n_a0_fa)
    have F56_64 := pf6.other W56 (Or.inl n_a0_fa)
    have E56_65 := pf7.wr W56
    have V56_66 := pf8.other W56 pf15
    have E56_67 := pf9.wr W56
    have E56_68 := pf10.wr W56
    have V56_69 := pf12.other W56 (Ne.symm n_fa_ca)
    have K56 := (Keep.refl h0 [fa, ca]).wr W56 (Or.inl (List.mem_of_getElem? (i := 0) rfl))
    have O56 := O0.wr W56 pf13
    have N56 := Fr.snoc X56 N3 pf13
    obtain ⟨T70, X70, e70, st70⟩ := getF X56 hx hZ hown (host := "") (Or.inl (ow hw 60 rfl)) Via.refl e56 F56_63 (g := (mkF m 55 #[rv a0, rv a1, iv p2, iv (0 : Int32), iv ((0 : Int32) + c0)] [(.ref a0)])) rfl rfl (hb hby d8_55)
    obtain ⟨cl71, Ar71, q71, S71, N71, H71, G71⟩ := id V56_69
    have hin71 := own_in ((0 : Int32) + c0) S71 (own_b4_0 hc0)
    have hat71 : cl71.slots[(((0 : Int32) + c0)).toNatClampNeg]? = some (.long Kz0) := Has.at H71 hin71 ((own_gJ4_0 hc0).trans (congrArg Value.long hKz0.symm))
    obtain ⟨cl72, Ar72, q72, S72, M72, H72, G72⟩ := id V56_69
    have hin72 := own_in ((0 : Int32) + c0) S72 (own_b4_0 hc0)
    obtain ⟨T72, h72, X72, e72, W72, st72⟩ := stJ X70 hx hZ e70 Ar72 (j := ((0 : Int32) + c0)) hin72 (g := (mkF m 64 #[rv a0, rv a1, iv p2, iv (0 : Int32), iv ((0 : Int32) + c0)] [(.long (Kz0 + (1 : Int64))), (.int ((0 : Int32) + c0)), (.ref ca)])) rfl rfl (hb hby d8_64)
    have V72_73 : Arv Z h72 ca kc .long (8 : Int32) [(.long (pJ c0 (0 : Int32) (Kz0 + (1 : Int64)) k0)), (.long (pJ c0 (1 : Int32) (Kz0 + (1 : Int64)) k1)), (.long (pJ c0 (2 : Int32) (Kz0 + (1 : Int64)) k2)), (.long (pJ c0 (3 : Int32) (Kz0 + (1 : Int64)) k3)), (.long k4), (.long k5), (.long k6), (.long k7)] (.long (0 : Int64)) := by have q := Arv.set Ar72 q72 S72 M72 H72 G72 rfl W72 (((0 : Int32) + c0)).toNatClampNeg rfl (own_k4_0 hc0); rw [own_sJ4_0 hc0] at q; exact q
    have E72_74 := E56_58.wr W72
    have F72_75 := F56_59.other W72 (Or.inl n_a0_ca)
    have E72_76 := E56_60.wr W72
    have F72_77 := F56_61.other W72 (Or.inl n_sh_ca)
    have F72_78 := F56_62.other W72 (Or.inl n_a0_ca)
    have F72_79 := F56_63.other W72 (Or.inl n_a0_ca)
    have F72_80 := F56_64.other W72 (Or.inl n_a0_ca)
    have E72_81 := E56_65.wr W72
    have V72_82 := V56_66.other W72 n_a1_ca
    have E72_83 := E56_67.wr W72
    have E72_84 := E56_68.wr W72
    have V72_85 := V56_57.other W72 n_fa_ca
    have K72 := K56.wr W72 (Or.inl (List.mem_of_getElem? (i := 1) rfl))
    have O72 := O56.wr W72 pf14
    have N72 := Fr.snoc X72 N56 pf14
    have pre86 : ∀ tg, AT p e below T72 m 126 #[rv a0, rv a1, iv p2, iv (0 : Int32), iv ((0 : Int32) + c0)] [] tg → Steps p.tables e below S0 tg := fun tg kg => pre53 tg (by
     refine XS.icmpNo X51.here hx rfl (hb hby d8_43) rfl (XT.ii_ne_f hc54) ?_
     refine XS.aloadN X51.here hx rfl (hb hby d8_46) rfl rfl ?_
     refine st55 _ ?_
     refine XS.iload X55.here hx rfl (hb hby d8_50) rfl ?_
     refine XS.iloadN X55.here hx rfl (hb hby d8_52) rfl ?_
     refine st56 _ ?_
     refine XS.aloadN X56.here hx rfl (hb hby d8_54) rfl rfl ?_
     refine st70 _ ?_
     refine XS.iload X70.here hx rfl (hb hby d8_58) rfl ?_
     refine XT.dup2 X70.here hx rfl (hb hby d8_60) rfl rfl rfl ?_
     refine X70.laload hx (j := ((0 : Int32) + c0)) (v := (.long Kz0)) (by rw [e70]; exact Ar71.1) (State.isArrayOf_alike hZ.alike Ar71.2.1) Ar71.2.2 hin71 hat71 (g := (mkF m 61 #[rv a0, rv a1, iv p2, iv (0 : Int32), iv ((0 : Int32) + c0)] [(.int ((0 : Int32) + c0)), (.ref ca), (.int ((0 : Int32) + c0)), (.ref ca)])) rfl rfl (hb hby d8_61) _ ?_
     refine XS.lconst X70.here hx rfl (hb hby d8_62) ?_
     refine XS.ladd X70.here hx rfl (hb hby d8_63) rfl ?_
     refine st72 _ ?_
     refine XS.goto X72.here hx rfl (pc0 := 65) (pc' := 126) rfl (hb hby d8_65) (by decide) (by decide) ?_
     exact kg)
    have hj87 : (pI c0 (0 : Int32) (nf Kz0 Fz0 p2) f0) = (pI c0 (0 : Int32) p2 f0) := by simp only [nf, if_neg hc10, if_pos hc54]
    have hj88 : (pI c0 (1 : Int32) (nf Kz0 Fz0 p2) f1) = (pI c0 (1 : Int32) p2 f1) := by simp only [nf, if_neg hc10, if_pos hc54]
    have hj89 : (pI c0 (2 : Int32) (nf Kz0 Fz0 p2) f2) = (pI c0 (2 : Int32) p2 f2) := by simp only [nf, if_neg hc10, if_pos hc54]
    have hj90 : (pI c0 (3 : Int32) (nf Kz0 Fz0 p2) f3) = (pI c0 (3 : Int32) p2 f3) := by simp only [nf, if_neg hc10, if_pos hc54]
    have hj91 : (pJ c0 (0 : Int32) (nc Kz0 Fz0 p2) k0) = (pJ c0 (0 : Int32) (Kz0 + (1 : Int64)) k0) := by simp only [nc, if_neg hc10, if_pos hc54]
    have hj92 : (pJ c0 (1 : Int32) (nc Kz0 Fz0 p2) k1) = (pJ c0 (1 : Int32) (Kz0 + (1 : Int64)) k1) := by simp only [nc, if_neg hc10, if_pos hc54]
    have hj93 : (pJ c0 (2 : Int32) (nc Kz0 Fz0 p2) k2) = (pJ c0 (2 : Int32) (Kz0 + (1 : Int64)) k2) := by simp only [nc, if_neg hc10, if_pos hc54]
    have hj94 : (pJ c0 (3 : Int32) (nc Kz0 Fz0 p2) k3) = (pJ c0 (3 : Int32) (Kz0 + (1 : Int64)) k3) := by simp only [nc, if_neg hc10, if_pos hc54]
    exact ⟨_, _, _, X72, e72, N72, K72, O72, E72_74, F72_75, E72_76, F72_77, F72_78, F72_79, F72_80, E72_81, V72_82, E72_83, E72_84, (by rw [hj87, hj88, hj89, hj90]; exact V72_85), (by rw [hj91, hj92, hj93, hj94]; exact V72_73), pre86⟩
   ·
    obtain ⟨T95, X95, e95, st95⟩ := getF X51 hx hZ hown (host := "") (Or.inl (ow hw 50 rfl)) Via.refl e51 pf6 (g := (mkF m 69 #[rv a0, rv a1, iv p2, iv (0 : Int32), iv ((0 : Int32) + c0)] [(.ref a0)])) rfl rfl (hb hby d8_69)
    obtain ⟨T96, X96, e96, st96⟩ := getF X95 hx hZ hown (host := "") (Or.inl (ow hw 60 rfl)) Via.refl e95 pf5 (g := (mkF m 73 #[rv a0, rv a1, iv p2, iv (0 : Int32), iv ((0 : Int32) + c0)] [(.ref a0), (.ref w_lam)])) rfl rfl (hb hby d8_73)
    obtain ⟨cl97, Ar97, q97, S97, N97, H97, G97⟩ := id pf12
    have hin97 := own_in ((0 : Int32) + c0) S97 (own_b4_0 hc0)
    have hat97 : cl97.slots[(((0 : Int32) + c0)).toNatClampNeg]? = some (.long Kz0) := Has.at H97 hin97 ((own_gJ4_0 hc0).trans (congrArg Value.long hKz0.symm))
    obtain ⟨T98, X98, e98, st98⟩ := own_test X96 hx hw hZ hown HLm O0 e96 (g := (mkF m 79 #[rv a0, rv a1, iv p2, iv (0 : Int32), iv ((0 : Int32) + c0)] [(.long Kz0), (.ref w_lam)])) rfl (by rw [hml]; rfl) rfl (hb hby d8_79) (W := 0) (by show 2 * 0 + _ ≤ _; exact Nat.le_of_eq rfl) (by decide) (by decide) (by decide) (by decide)
    obtain ⟨T99, X99, e99, st99⟩ := getF X98 hx hZ hown (host := "") (Or.inl (ow hw 60 rfl)) Via.refl e98 pf5 (g := (mkF m 88 #[rv a0, rv a1, iv p2, iv (0 : Int32), iv ((0 : Int32) + c0)] [(.ref a0)])) rfl rfl (hb hby d8_88)
    obtain ⟨cl100, Ar100, q100, S100, N100, H100, G100⟩ := id pf12
    have hin100 := own_in ((0 : Int32) + c0) S100 (own_b4_0 hc0)
    have hat100 : cl100.slots[(((0 : Int32) + c0)).toNatClampNeg]? = some (.long Kz0) := Has.at H100 hin100 ((own_gJ4_0 hc0).trans (congrArg Value.long hKz0.symm))
    obtain ⟨cl101, Ar101, q101, S101, M101, H101, G101⟩ := id pf12
    have hin101 := own_in ((0 : Int32) + c0) S101 (own_b4_0 hc0)
    obtain ⟨T101, h101, X101, e101, W101, st101⟩ := stJ X99 hx hZ e99 Ar101 (j := ((0 : Int32) + c0)) hin101 (g := (mkF m 97 #[rv a0, rv a1, iv p2, iv (0 : Int32), iv ((0 : Int32) + c0)] [(.long (Kz0 - (1 : Int64))), (.int ((0 : Int32) + c0)), (.ref ca)])) rfl rfl (hb hby d8_97)
    have V101_102 : Arv Z h101 ca kc .long (8 : Int32) [(.long (pJ c0 (0 : Int32) (Kz0 - (1 : Int64)) k0)), (.long (pJ c0 (1 : Int32) (Kz0 - (1 : Int64)) k1)), (.long (pJ c0 (2 : Int32) (Kz0 - (1 : Int64)) k2)), (.long (pJ c0 (3 : Int32) (Kz0 - (1 : Int64)) k3)), (.long k4), (.long k5), (.long k6), (.long k7)] (.long (0 : Int64)) := by have q := Arv.set Ar101 q101 S101 M101 H101 G101 rfl W101 (((0 : Int32) + c0)).toNatClampNeg rfl (own_k4_0 hc0); rw [own_sJ4_0 hc0] at q; exact q
    have E101_103 := pf0.wr W101
    have F101_104 := pf1.other W101 (Or.inl n_a0_ca)
    have E101_105 := pf2.wr W101
    have F101_106 := pf3.other W101 (Or.inl n_sh_ca)
    have F101_107 := pf4.other W101 (Or.inl n_a0_ca)
    have F101_108 := pf5.other W101 (Or.inl n_a0_ca)
    have F101_109 := pf6.other W101 (Or.inl n_a0_ca)
    have E101_110 := pf7.wr W101
    have V101_111 := pf8.other W101 n_a1_ca
    have E101_112 := pf9.wr W101
    have E101_113 := pf10.wr W101
    have V101_114 := pf11.other W101 n_fa_ca
    have K101 := (Keep.refl h0 [fa, ca]).wr W101 (Or.inl (List.mem_of_getElem? (i := 1) rfl))
    have O101 := O0.wr W101 pf14
    have N101 := Fr.snoc X101 N3 pf14
    obtain ⟨T115, X115, e115, st115⟩ := getF X101 hx hZ hown (host := "") (Or.inl (ow hw 60 rfl)) Via.refl e101 F101_108 (g := (mkF m 99 #[rv a0, rv a1, iv p2, iv (0 : Int32), iv ((0 : Int32) + c0)] [(.ref a0)])) rfl rfl (hb hby d8_99)
    obtain ⟨cl116, Ar116, q116, S116, N116, H116, G116⟩ := id V101_102
    have hin116 := own_in ((0 : Int32) + c0) S116 (own_b4_0 hc0)
    have hat116 : cl116.slots[(((0 : Int32) + c0)).toNatClampNeg]? = some (.long (Kz0 - (1 : Int64))) := Has.at H116 hin116 ((own_gJ4_0 hc0).trans (congrArg Value.long (own_spJ4 hc0)))
    have pre117 : ∀ tg, AT p e below T115 m 107 #[rv a0, rv a1, iv p2, iv (0 : Int32), iv ((0 : Int32) + c0)] [(.int (XT.cmpL (Kz0 - (1 : Int64)) (0 : Int64)))] tg → Steps p.tables e below S0 tg := fun tg kg => pre53 tg (by
     refine XS.icmpYes X51.here hx rfl (pc0 := 43) (pc' := 68) rfl (hb hby d8_43) rfl (XT.ii_ne_t hc54) (by decide) (by decide) ?_
     refine XS.aloadN X51.here hx rfl (hb hby d8_68) rfl rfl ?_
     refine st95 _ ?_
     refine XS.aloadN X95.here hx rfl (hb hby d8_72) rfl rfl ?_
     refine st96 _ ?_
     refine XS.iload X96.here hx rfl (hb hby d8_76) rfl ?_
     refine X96.laload hx (j := ((0 : Int32) + c0)) (v := (.long Kz0)) (by rw [e96]; exact Ar97.1) (State.isArrayOf_alike hZ.alike Ar97.2.1) Ar97.2.2 hin97 hat97 (g := (mkF m 78 #[rv a0, rv a1, iv p2, iv (0 : Int32), iv ((0 : Int32) + c0)] [(.int ((0 : Int32) + c0)), (.ref ca), (.ref w_lam)])) rfl rfl (hb hby d8_78) _ ?_
     refine st98 _ ?_
     show AT p e below T98 m 84 #[rv a0, rv a1, iv p2, iv (0 : Int32), iv ((0 : Int32) + c0)] [(.int (1 : Int32))] _
     refine XS.ifNo X98.here hx rfl (hb hby d8_84) rfl (XT.i0_eq_f ((by decide) : ¬ ((1 : Int32) = (0 : Int32)))) ?_
     refine XS.aloadN X98.here hx rfl (hb hby d8_87) rfl rfl ?_
     refine st99 _ ?_
     refine XS.iload X99.here hx rfl (hb hby d8_91) rfl ?_
     refine XT.dup2 X99.here hx rfl (hb hby d8_93) rfl rfl rfl ?_
     refine X99.laload hx (j := ((0 : Int32) + c0)) (v := (.long Kz0)) (by rw [e99]; exact Ar100.1) (State.isArrayOf_alike hZ.alike Ar100.2.1) Ar100.2.2 hin100 hat100 (g := (mkF m 94 #[rv a0, rv a1, iv p2, iv (0 : Int32), iv ((0 : Int32) + c0)] [(.int ((0 : Int32) + c0)), (.ref ca), (.int ((0 : Int32) + c0)), (.ref ca)])) rfl rfl (hb hby d8_94) _ ?_
     refine XS.lconst X99.here hx rfl (hb hby d8_95) ?_
     refine XS.lsub X99.here hx rfl (hb hby d8_96) rfl ?_
     refine st101 _ ?_
     refine XS.aloadN X101.here hx rfl (hb hby d8_98) rfl rfl ?_
     refine st115 _ ?_
     refine XS.iload X115.here hx rfl (hb hby d8_102) rfl ?_
     refine X115.laload hx (j := ((0 : Int32) + c0)) (v := (.long (Kz0 - (1 : Int64)))) (by rw [e115]; exact Ar116.1) (State.isArrayOf_alike hZ.alike Ar116.2.1) Ar116.2.2 hin116 hat116 (g := (mkF m 104 #[rv a0, rv a1, iv p2, iv (0 : Int32), iv ((0 : Int32) + c0)] [(.int ((0 : Int32) + c0)), (.ref ca)])) rfl rfl (hb hby d8_104) _ ?_
     refine XS.lconst X115.here hx rfl (hb hby d8_105) ?_
     refine XS.lcmp X115.here hx rfl (hb hby d8_106) rfl ?_
     exact kg)
    rcases Decidable.em ((Kz0 - (1 : Int64)) = (0 : Int64)) with hc118 | hc118
    ·
     obtain ⟨T119, X119, e119, st119⟩ := getF X115 hx hZ hown (host := "") (Or.inl (ow hw 57 rfl)) Via.refl e115 F101_107 (g := (mkF m 111 #[rv a0, rv a1, iv p2, iv (0 : Int32), iv ((0 : Int32) + c0)] [(.ref a0)])) rfl rfl (hb hby d8_111)
     obtain ⟨cl120, Ar120, q120, S120, M120, H120, G120⟩ := id V101_114
     have hin120 := own_in ((0 : Int32) + c0) S120 (own_b4_0 hc0)
     obtain ⟨T120, h120, X120, e120, W120, st120⟩ := stI X119 hx hZ e119 Ar120 (j := ((0 : Int32) + c0)) hin120 (g := (mkF m 117 #[rv a0, rv a1, iv p2, iv (0 : Int32), iv ((0 : Int32) + c0)] [(.int p2), (.int ((0 : Int32) + c0)), (.ref fa)])) rfl rfl (hb hby d8_117)
     have V120_121 : Arv Z h120 fa kf .int (8 : Int32) [(.int (pI c0 (0 : Int32) p2 f0)), (.int (pI c0 (1 : Int32) p2 f1)), (.int (pI c0 (2 : Int32) p2 f2)), (.int (pI c0 (3 : Int32) p2 f3)), (.int f4), (.int f5), (.int f6), (.int f7)] (.int (0 : Int32)) := by have q := Arv.set Ar120 q120 S120 M120 H120 G120 rfl W120 (((0 : Int32) + c0)).toNatClampNeg rfl (own_k4_0 hc0); rw [own_sI4_0 hc0] at q; exact q
     have E120_122 := E101_103.wr W120
     have F120_123 := F101_104.other W120 (Or.inl n_a0_fa)
     have E120_124 := E101_105.wr W120
     have F120_125 := F101_106.other W120 (Or.inl n_sh_fa)
     have F120_126 := F101_107.other W120 (Or.inl n_a0_fa)
     have F120_127 := F101_108.other W120 (Or.inl n_a0_fa)
     have F120_128 := F101_109.other W120 (Or.inl n_a0_fa)
     have E120_129 := E101_110.wr W120
     have V120_130 := V101_111.other W120 pf15
     have E120_131 := E101_112.wr W120
     have E120_132 := E101_113.wr W120
     have V120_133 := V101_102.other W120 (Ne.symm n_fa_ca)
     have K120 := K101.wr W120 (Or.inl (List.mem_of_getElem? (i := 0) rfl))
     have O120 := O101.wr W120 pf13
     have N120 := Fr.snoc X120 N101 pf13
     obtain ⟨T134, X134, e134, st134⟩ := getF X120 hx hZ hown (host := "") (Or.inl (ow hw 60 rfl)) Via.refl e120 F120_127 (g := (mkF m 119 #[rv a0, rv a1, iv p2, iv (0 : Int32), iv ((0 : Int32) + c0)] [(.ref a0)])) rfl rfl (hb hby d8_119)
     obtain ⟨cl135, Ar135, q135, S135, M135, H135, G135⟩ := id V120_133
     have hin135 := own_in ((0 : Int32) + c0) S135 (own_b4_0 hc0)
     obtain ⟨T135, h135, X135, e135, W135, st135⟩ := stJ X134 hx hZ e134 Ar135 (j := ((0 : Int32) + c0)) hin135 (g := (mkF m 125 #[rv a0, rv a1, iv p2, iv (0 : Int32), iv ((0 : Int32) + c0)] [(.long (1 : Int64)), (.int ((0 : Int32) + c0)), (.ref ca)])) rfl rfl (hb hby d8_125)
     have V135_136 : Arv Z h135 ca kc .long (8 : Int32) [(.long (pJ c0 (0 : Int32) (1 : Int64) k0)), (.long (pJ c0 (1 : Int32) (1 : Int64) k1)), (.long (pJ c0 (2 : Int32) (1 : Int64) k2)), (.long (pJ c0 (3 : Int32) (1 : Int64) k3)), (.long k4), (.long k5), (.long k6), (.long k7)] (.long (0 : Int64)) := by have q := Arv.set Ar135 q135 S135 M135 H135 G135 rfl W135 (((0 : Int32) + c0)).toNatClampNeg rfl (own_k4_0 hc0); rw [own_sJ4_0 hc0] at q; simp only [own_ppJ] at q; exact q
     have E135_137 := E120_122.wr W135
     have F135_138 := F120_123.other W135 (Or.inl n_a0_ca)
     have E135_139 := E120_124.wr W135
     have F135_140 := F120_125.other W135 (Or.inl n_sh_ca)
     have F135_141 := F120_126.other W135 (Or.inl n_a0_ca)
     have F135_142 := F120_127.other W135 (Or.inl n_a0_ca)
     have F135_143 := F120_128.other W135 (Or.inl n_a0_ca)
     have E135_144 := E120_129.wr W135
     have V135_145 := V120_130.other W135 n_a1_ca
     have E135_146 := E120_131.wr W135
     have E135_147 := E120_132.wr W135
     have V135_148 := V120_121.other W135 n_fa_ca
     have K135 := K120.wr W135 (Or.inl (List.mem_of_getElem? (i := 1) rfl))
     have O135 := O120.wr W135 pf14
     have N135 := Fr.snoc X135 N120 pf14
     have pre149 : ∀ tg, AT p e below T135 m 126 #[rv a0, rv a1, iv p2, iv (0 : Int32), iv ((0 : Int32) + c0)] [] tg → Steps p.tables e below S0 tg := fun tg kg => pre117 tg (by
      refine XS.ifNo X115.here hx rfl (hb hby d8_107) rfl (XT.ll_ne_f hc118) ?_
      refine XS.aloadN X115.here hx rfl (hb hby d8_110) rfl rfl ?_
      refine st119 _ ?_
      refine XS.iload X119.here hx rfl (hb hby d8_114) rfl ?_
      refine XS.iloadN X119.here hx rfl (hb hby d8_116) rfl ?_
      refine st120 _ ?_
      refine XS.aloadN X120.here hx rfl (hb hby d8_118) rfl rfl ?_
      refine st134 _ ?_
      refine XS.iload X134.here hx rfl (hb hby d8_122) rfl ?_
      show AT p e below T134 m 124 #[rv a0, rv a1, iv p2, iv (0 : Int32), iv ((0 : Int32) + c0)] [(.int ((0 : Int32) + c0)), (.ref ca)] _
      refine XS.lconst X134.here hx rfl (hb hby d8_124) ?_
      refine st135 _ ?_
      exact kg)
     have hj150 : (pI c0 (0 : Int32) (nf Kz0 Fz0 p2) f0) = (pI c0 (0 : Int32) p2 f0) := by simp only [nf, if_neg hc10, if_neg hc54, if_pos hc118]
     have hj151 : (pI c0 (1 : Int32) (nf Kz0 Fz0 p2) f1) = (pI c0 (1 : Int32) p2 f1) := by simp only [nf, if_neg hc10, if_neg hc54, if_pos hc118]
     have hj152 : (pI c0 (2 : Int32) (nf Kz0 Fz0 p2) f2) = (pI c0 (2 : Int32) p2 f2) := by simp only [nf, if_neg hc10, if_neg hc54, if_pos hc118]
     have hj153 : (pI c0 (3 : Int32) (nf Kz0 Fz0 p2) f3) = (pI c0 (3 : Int32) p2 f3) := by simp only [nf, if_neg hc10, if_neg hc54, if_pos hc118]
     have hj154 : (pJ c0 (0 : Int32) (nc Kz0 Fz0 p2) k0) = (pJ c0 (0 : Int32) (1 : Int64) k0) := by simp only [nc, if_neg hc10, if_neg hc54, if_pos hc118]
     have hj155 : (pJ c0 (1 : Int32) (nc Kz0 Fz0 p2) k1) = (pJ c0 (1 : Int32) (1 : Int64) k1) := by simp only [nc, if_neg hc10, if_neg hc54, if_pos hc118]
     have hj156 : (pJ c0 (2 : Int32) (nc Kz0 Fz0 p2) k2) = (pJ c0 (2 : Int32) (1 : Int64) k2) := by simp only [nc, if_neg hc10, if_neg hc54, if_pos hc118]
     have hj157 : (pJ c0 (3 : Int32) (nc Kz0 Fz0 p2) k3) = (pJ c0 (3 : Int32) (1 : Int64) k3) := by simp only [nc, if_neg hc10, if_neg hc54, if_pos hc118]
     exact ⟨_, _, _, X135, e135, N135, K135, O135, E135_137, F135_138, E135_139, F135_140, F135_141, F135_142, F135_143, E135_144, V135_145, E135_146, E135_147, (by rw [hj150, hj151, hj152, hj153]; exact V135_148), (by rw [hj154, hj155, hj156, hj157]; exact V135_136), pre149⟩
    ·
     have pre158 : ∀ tg, AT p e below T115 m 126 #[rv a0, rv a1, iv p2, iv (0 : Int32), iv ((0 : Int32) + c0)] [] tg → Steps p.tables e below S0 tg := fun tg kg => pre117 tg (by
      refine XS.ifYes X115.here hx rfl (pc0 := 107) (pc' := 126) rfl (hb hby d8_107) rfl (XT.ll_ne_t hc118) (by decide) (by decide) ?_
      exact kg)
     have hj159 : (pI c0 (0 : Int32) (nf Kz0 Fz0 p2) f0) = f0 := by rw [nf, if_neg hc10, if_neg hc54, if_neg hc118, hFz0]; exact own_psI4_0 hc0
     have hj160 : (pI c0 (1 : Int32) (nf Kz0 Fz0 p2) f1) = f1 := by rw [nf, if_neg hc10, if_neg hc54, if_neg hc118, hFz0]; exact own_psI4_1 hc0
     have hj161 : (pI c0 (2 : Int32) (nf Kz0 Fz0 p2) f2) = f2 := by rw [nf, if_neg hc10, if_neg hc54, if_neg hc118, hFz0]; exact own_psI4_2 hc0
     have hj162 : (pI c0 (3 : Int32) (nf Kz0 Fz0 p2) f3) = f3 := by rw [nf, if_neg hc10, if_neg hc54, if_neg hc118, hFz0]; exact own_psI4_3 hc0
     have hj163 : (pJ c0 (0 : Int32) (nc Kz0 Fz0 p2) k0) = (pJ c0 (0 : Int32) (Kz0 - (1 : Int64)) k0) := by simp only [nc, if_neg hc10, if_neg hc54, if_neg hc118]
     have hj164 : (pJ c0 (1 : Int32) (nc Kz0 Fz0 p2) k1) = (pJ c0 (1 : Int32) (Kz0 - (1 : Int64)) k1) := by simp only [nc, if_neg hc10, if_neg hc54, if_neg hc118]
     have hj165 : (pJ c0 (2 : Int32) (nc Kz0 Fz0 p2) k2) = (pJ c0 (2 : Int32) (Kz0 - (1 : Int64)) k2) := by simp only [nc, if_neg hc10, if_neg hc54, if_neg hc118]
     have hj166 : (pJ c0 (3 : Int32) (nc Kz0 Fz0 p2) k3) = (pJ c0 (3 : Int32) (Kz0 - (1 : Int64)) k3) := by simp only [nc, if_neg hc10, if_neg hc54, if_neg hc118]
     exact ⟨_, _, _, X115, e115, N101, K101, O101, E101_103, F101_104, E101_105, F101_106, F101_107, F101_108, F101_109, E101_110, V101_111, E101_112, E101_113, (by rw [hj159, hj160, hj161, hj162]; exact V101_114), (by rw [hj163, hj164, hj165, hj166]; exact V101_102), pre158⟩
 obtain ⟨cl167, Ar167, q167, S167, N167, H167, G167⟩ := id J6_8
 obtain ⟨T168, X168, e168, st168⟩ := getF X6 hx hZ hown (host := "") (Or.inl (ow hw 48 rfl)) Via.refl e6 J6_1 (g := (mkF m 10 #[rv a0, rv a1, iv p2, iv (1 : Int32), iv ((0 : Int32) + c0)] [(.ref a0), (.int (1 : Int32))])) rfl rfl (hb hby d8_10)
 obtain ⟨cq169, kq169, q169a, q169b, q169c⟩ := isOf hZ e168 J6_2
 obtain ⟨_, _, ⟨T169, L169, k169, n169⟩, -, X169, ⟨Lc169, hQ169, l169, y169, z169⟩, st169⟩ := X168.virtualBack hx (y := y9) (z := y9) hown (mvT hZ (ow hw 67 rfl)) (mvT hZ (ow hw 68 rfl)) (notFace_of_selects (args := #[]) (mvT hZ (ow hw 70 rfl))) (mvT hZ (ow hw 70 rfl)) (mvT hZ (ow hw 69 rfl)) (by decide) (backOf (W := 1) (rm9 l Z ar hw [] sh _ h6 n0 O6 J6_3) hZ (ow hw 71 rfl) (ow hw 7 rfl) (by decide) (by decide)) q169a q169c (g := (mkF m 13 #[rv a0, rv a1, iv p2, iv (1 : Int32), iv ((0 : Int32) + c0)] [(.ref sh), (.int (1 : Int32))])) rfl (by rw [hml]; rfl) (Steps.refl _) (argsL := []) (rest := [(.int (1 : Int32))]) (lenOf pd_2 rfl) rfl (by show 2 * 0 + _ ≤ _; exact Nat.le_of_eq rfl) (hb hby d8_13) (fun _ _ => ⟨rfl, e168, (by decide : 0 + 0 ≤ _), (by decide : 0 + 0 ≤ _)⟩)
 dsimp only [Pt.U, Pt.locs, Pt.cells, Pt.slots] at X169 l169 y169 z169 st169 hQ169
 subst l169 y169 z169
 obtain ⟨rfl, N169q, e169⟩ := hQ169
 have N169 := Fr.app N6 N169q
 obtain ⟨cl170, Ar170, q170, S170, N170, H170, G170⟩ := id J6_8
 have hin170 := own_in (1 : Int32) S170 ⟨by decide, by decide⟩
 have hat170 : cl170.slots[((1 : Int32)).toNatClampNeg]? = some (.int c1) := Has.at H170 hin170 rfl
 have pre171 : ∀ tg, AT p e below T169 m 23 #[rv a0, rv a1, iv p2, iv (1 : Int32), iv ((4 : Int32) + c1)] [] tg → Steps p.tables e below S0 tg := fun tg kg => pre6 tg (by
  refine XS.iinc X6.here hx rfl (hb hby d8_126) rfl (l' := #[rv a0, rv a1, iv p2, iv (1 : Int32), iv ((0 : Int32) + c0)]) rfl ?_
  refine XS.goto X6.here hx rfl (pc0 := 129) (pc' := 2) rfl (hb hby d8_129) (by decide) (by decide) ?_
  refine XS.iloadN X6.here hx rfl (hb hby d8_2) rfl ?_
  refine XS.aloadN X6.here hx rfl (hb hby d8_3) rfl rfl ?_
  refine X6.arraylength hx (by rw [e6]; exact Ar167.1) (State.isArrayOf_alike hZ.alike Ar167.2.1) (g := (mkF m 4 #[rv a0, rv a1, iv p2, iv (1 : Int32), iv ((0 : Int32) + c0)] [(.ref a1), (.int (1 : Int32))])) rfl rfl (hb hby d8_4) _ ?_
  rw [len_of S167 N167]
  show AT p e below T6 m 5 #[rv a0, rv a1, iv p2, iv (1 : Int32), iv ((0 : Int32) + c0)] [(.int (2 : Int32)), (.int (1 : Int32))] _
  refine XS.icmpNo X6.here hx rfl (hb hby d8_5) rfl (XT.ii_ge_f ((by decide) : (1 : Int32) < (2 : Int32))) ?_
  refine XS.iloadN X6.here hx rfl (hb hby d8_8) rfl ?_
  refine XS.aloadN X6.here hx rfl (hb hby d8_9) rfl rfl ?_
  refine st168 _ ?_
  refine st169.trans ?_
  refine XS.imul X169.here hx rfl (hb hby d8_16) rfl ?_
  refine XS.aloadN X169.here hx rfl (hb hby d8_17) rfl rfl ?_
  refine XS.iloadN X169.here hx rfl (hb hby d8_18) rfl ?_
  refine X169.iaload hx (j := (1 : Int32)) (v := (.int c1)) (by rw [e169]; exact Ar170.1) (State.isArrayOf_alike hZ.alike Ar170.2.1) Ar170.2.2 hin170 hat170 (g := (mkF m 19 #[rv a0, rv a1, iv p2, iv (1 : Int32), iv ((0 : Int32) + c0)] [(.int (1 : Int32)), (.ref a1), (.int (4 : Int32))])) rfl rfl (hb hby d8_19) _ ?_
  refine XS.iadd X169.here hx rfl (hb hby d8_20) rfl ?_
  refine XS.istore X169.here hx rfl (hb hby d8_21) rfl (l' := #[rv a0, rv a1, iv p2, iv (1 : Int32), iv ((4 : Int32) + c1)]) rfl ?_
  exact kg)
 obtain ⟨Kz1, hKz1⟩ : ∃ z, z = (sJ4 c1 k4 k5 k6 k7) := ⟨_, rfl⟩
 obtain ⟨Fz1, hFz1⟩ : ∃ z, z = (sI4 c1 f4 f5 f6 f7) := ⟨_, rfl⟩
 obtain ⟨T172, h172, L172, X172, e172, N172, K172, O172, J172_0, J172_1, J172_2, J172_3, J172_4, J172_5, J172_6, J172_7, J172_8, J172_9, J172_10, J172_11, J172_12, pre172⟩ : ∃ (T172 : State) (h172 : Heap) (L172 : List Loc), Stand p l e R8_4 s m #[(.ref a0), (.ref a1), (.int p2)] below meth c T172 L172 ((0 + 0) + 0) ((0 + 0) + 0) ∧ T172.heap = h172 ∧ Fr n0 L172 ∧ Keep h0 h172 [fa, ca] ∧ Old Z n0 h172 ∧ Exa Z h172 a0 "com/example/filters_under_siege/filtersundersiege/KeeperPairs" ∧ Fld Z h172 a0 "com/example/filters_under_siege/filtersundersiege/KeeperPairs" "shape" "Lcom/example/filters_under_siege/filtersundersiege/SketchShape;" (.ref sh) ∧ Exa Z h172 sh "com/example/filters_under_siege/filtersundersiege/SketchShape" ∧ Fld Z h172 sh "com/example/filters_under_siege/filtersundersiege/SketchShape" "width" "I" (.int (4 : Int32)) ∧ Fld Z h172 a0 "com/example/filters_under_siege/filtersundersiege/KeeperPairs" "fingerprints" "[I" (.ref fa) ∧ Fld Z h172 a0 "com/example/filters_under_siege/filtersundersiege/KeeperPairs" "counts" "[J" (.ref ca) ∧ Fld Z h172 a0 "com/example/filters_under_siege/filtersundersiege/KeeperPairs" "knocksDown" "Ljava/util/function/LongPredicate;" (.ref w_lam) ∧ Exa Z h172 a1 "[I" ∧ Arv Z h172 a1 kk .int (2 : Int32) [(.int c0), (.int c1)] (.int (0 : Int32)) ∧ Exa Z h172 fa "[I" ∧ Exa Z h172 ca "[J" ∧ Arv Z h172 fa kf .int (8 : Int32) [(.int (pI c0 (0 : Int32) (nf Kz0 Fz0 p2) f0)), (.int (pI c0 (1 : Int32) (nf Kz0 Fz0 p2) f1)), (.int (pI c0 (2 : Int32) (nf Kz0 Fz0 p2) f2)), (.int (pI c0 (3 : Int32) (nf Kz0 Fz0 p2) f3)), (.int (pI c1 (0 : Int32) (nf Kz1 Fz1 p2) f4)), (.int (pI c1 (1 : Int32) (nf Kz1 Fz1 p2) f5)), (.int (pI c1 (2 : Int32) (nf Kz1 Fz1 p2) f6)), (.int (pI c1 (3 : Int32) (nf Kz1 Fz1 p2) f7))] (.int (0 : Int32)) ∧ Arv Z h172 ca kc .long (8 : Int32) [(.long (pJ c0 (0 : Int32) (nc Kz0 Fz0 p2) k0)), (.long (pJ c0 (1 : Int32) (nc Kz0 Fz0 p2) k1)), (.long (pJ c0 (2 : Int32) (nc Kz0 Fz0 p2) k2)), (.long (pJ c0 (3 : Int32) (nc Kz0 Fz0 p2) k3)), (.long (pJ c1 (0 : Int32) (nc Kz1 Fz1 p2) k4)), (.long (pJ c1 (1 : Int32) (nc Kz1 Fz1 p2) k5)), (.long (pJ c1 (2 : Int32) (nc Kz1 Fz1 p2) k6)), (.long (pJ c1 (3 : Int32) (nc Kz1 Fz1 p2) k7))] (.long (0 : Int64)) ∧ (∀ tg, AT p e below T172 m 126 #[rv a0, rv a1, iv p2, iv (1 : Int32), iv ((4 : Int32) + c1)] [] tg → Steps p.tables e below S0 tg) := by
  obtain ⟨T173, X173, e173, st173⟩ := getF X169 hx hZ hown (host := "") (Or.inl (ow hw 60 rfl)) Via.refl e169 J6_5 (g := (mkF m 24 #[rv a0, rv a1, iv p2, iv (1 : Int32), iv ((4 : Int32) + c1)] [(.ref a0)])) rfl rfl (hb hby d8_24)
  obtain ⟨cl174, Ar174, q174, S174, N174, H174, G174⟩ := id J6_12
  have hin174 := own_in ((4 : Int32) + c1) S174 (own_b4_4 hc1)
  have hat174 : cl174.slots[(((4 : Int32) + c1)).toNatClampNeg]? = some (.long Kz1) := Has.at H174 hin174 ((own_gJ4_4 hc1).trans (congrArg Value.long hKz1.symm))
  have pre175 : ∀ tg, AT p e below T173 m 32 #[rv a0, rv a1, iv p2, iv (1 : Int32), iv ((4 : Int32) + c1)] [(.int (XT.cmpL Kz1 (0 : Int64)))] tg → Steps p.tables e below S0 tg := fun tg kg => pre171 tg (by
   refine XS.aloadN X169.here hx rfl (hb hby d8_23) rfl rfl ?_
   refine st173 _ ?_
   refine XS.iload X173.here hx rfl (hb hby d8_27) rfl ?_
   refine X173.laload hx (j := ((4 : Int32) + c1)) (v := (.long Kz1)) (by rw [e173]; exact Ar174.1) (State.isArrayOf_alike hZ.alike Ar174.2.1) Ar174.2.2 hin174 hat174 (g := (mkF m 29 #[rv a0, rv a1, iv p2, iv (1 : Int32), iv ((4 : Int32) + c1)] [(.int ((4 : Int32) + c1)), (.ref ca)])) rfl rfl (hb hby d8_29) _ ?_
   refine XS.lconst X173.here hx rfl (hb hby d8_30) ?_
   refine XS.lcmp X173.here hx rfl (hb hby d8_31) rfl ?_
   exact kg)
  rcases Decidable.em (Kz1 = (0 : Int64)) with hc176 | hc176
  ·
   obtain ⟨T177, X177, e177, st177⟩ := getF X173 hx hZ hown (host := "") (Or.inl (ow hw 57 rfl)) Via.refl e173 J6_4 (g := (mkF m 47 #[rv a0, rv a1, iv p2, iv (1 : Int32), iv ((4 : Int32) + c1)] [(.ref a0)])) rfl rfl (hb hby d8_47)
   obtain ⟨cl178, Ar178, q178, S178, M178, H178, G178⟩ := id J6_11
   have hin178 := own_in ((4 : Int32) + c1) S178 (own_b4_4 hc1)
   obtain ⟨T178, h178, X178, e178, W178, st178⟩ := stI X177 hx hZ e177 Ar178 (j := ((4 : Int32) + c1)) hin178 (g := (mkF m 53 #[rv a0, rv a1, iv p2, iv (1 : Int32), iv ((4 : Int32) + c1)] [(.int p2), (.int ((4 : Int32) + c1)), (.ref fa)])) rfl rfl (hb hby d8_53)
   have V178_179 : Arv Z h178 fa kf .int (8 : Int32) [(.int (pI c0 (0 : Int32) (nf Kz0 Fz0 p2) f0)), (.int (pI c0 (1 : Int32) (nf Kz0 Fz0 p2) f1)), (.int (pI c0 (2 : Int32) (nf Kz0 Fz0 p2) f2)), (.int (pI c0 (3 : Int32) (nf Kz0 Fz0 p2) f3)), (.int (pI c1 (0 : Int32) p2 f4)), (.int (pI c1 (1 : Int32) p2 f5)), (.int (pI c1 (2 : Int32) p2 f6)), (.int (pI c1 (3 : Int32) p2 f7))] (.int (0 : Int32)) := by have q := Arv.set Ar178 q178 S178 M178 H178 G178 rfl W178 (((4 : Int32) + c1)).toNatClampNeg rfl (own_k4_4 hc1); rw [own_sI4_4 hc1] at q; exact q
   have E178_180 := J6_0.wr W178
   have F178_181 := J6_1.other W178 (Or.inl n_a0_fa)
   have E178_182 := J6_2.wr W178
   have F178_183 := J6_3.other W178 (Or.inl n_sh_fa)
   have F178_184 := J6_4.other W178 (Or.inl n_a0_fa)
   have F178_185 := J6_5.other W178 (Or.inl n_a0_fa)
   have F178_186 := J6_6.other W178 (Or.inl n_a0_fa)
   have E178_187 := J6_7.wr W178
   have V178_188 := J6_8.other W178 pf15
   have E178_189 := J6_9.wr W178
   have E178_190 := J6_10.wr W178
   have V178_191 := J6_12.other W178 (Ne.symm n_fa_ca)
   have K178 := K6.wr W178 (Or.inl (List.mem_of_getElem? (i := 0) rfl))
   have O178 := O6.wr W178 pf13
   have N178 := Fr.snoc X178 N169 pf13
   obtain ⟨T192, X192, e192, st192⟩ := getF X178 hx hZ hown (host := "") (Or.inl (ow hw 60 rfl)) Via.refl e178 F178_185 (g := (mkF m 55 #[rv a0, rv a1, iv p2, iv (1 : Int32), iv ((4 : Int32) + c1)] [(.ref a0)])) rfl rfl (hb hby d8_55)
   obtain ⟨cl193, Ar193, q193, S193, N193, H193, G193⟩ := id V178_191
   have hin193 := own_in ((4 : Int32) + c1) S193 (own_b4_4 hc1)
   have hat193 : cl193.slots[(((4 : Int32) + c1)).toNatClampNeg]? = some (.long Kz1) := Has.at H193 hin193 ((own_gJ4_4 hc1).trans (congrArg Value.long hKz1.symm))
   obtain ⟨cl194, Ar194, q194, S194, M194, H194, G194⟩ := id V178_191
   have hin194 := own_in ((4 : Int32) + c1) S194 (own_b4_4 hc1)
   obtain ⟨T194, h194, X194, e194, W194, st194⟩ := stJ X192 hx hZ e192 Ar194 (j := ((4 : Int32) + c1)) hin194 (g := (mkF m 64 #[rv a0, rv a1, iv p2, iv (1 : Int32), iv ((4 : Int32) + c1)] [(.long (Kz1 + (1 : Int64))), (.int ((4 : Int32) + c1)), (.ref ca)])) rfl rfl (hb hby d8_64)
   have V194_195 : Arv Z h194 ca kc .long (8 : Int32) [(.long (pJ c0 (0 : Int32) (nc Kz0 Fz0 p2) k0)), (.long (pJ c0 (1 : Int32) (nc Kz0 Fz0 p2) k1)), (.long (pJ c0 (2 : Int32) (nc Kz0 Fz0 p2) k2)), (.long (pJ c0 (3 : Int32) (nc Kz0 Fz0 p2) k3)), (.long (pJ c1 (0 : Int32) (Kz1 + (1 : Int64)) k4)), (.long (pJ c1 (1 : Int32) (Kz1 + (1 : Int64)) k5)), (.long (pJ c1 (2 : Int32) (Kz1 + (1 : Int64)) k6)), (.long (pJ c1 (3 : Int32) (Kz1 + (1 : Int64)) k7))] (.long (0 : Int64)) := by have q := Arv.set Ar194 q194 S194 M194 H194 G194 rfl W194 (((4 : Int32) + c1)).toNatClampNeg rfl (own_k4_4 hc1); rw [own_sJ4_4 hc1] at q; exact q
   have E194_196 := E178_180.wr W194
   have F194_197 := F178_181.other W194 (Or.inl n_a0_ca)
   have E194_198 := E178_182.wr W194
   have F194_199 := F178_183.other W194 (Or.inl n_sh_ca)
   have F194_200 := F178_184.other W194 (Or.inl n_a0_ca)
   have F194_201 := F178_185.other W194 (Or.inl n_a0_ca)
   have F194_202 := F178_186.other W194 (Or.inl n_a0_ca)
   have E194_203 := E178_187.wr W194
   have V194_204 := V178_188.other W194 n_a1_ca
   have E194_205 := E178_189.wr W194
   have E194_206 := E178_190.wr W194
   have V194_207 := V178_179.other W194 n_fa_ca
   have K194 := K178.wr W194 (Or.inl (List.mem_of_getElem? (i := 1) rfl))
   have O194 := O178.wr W194 pf14
   have N194 := Fr.snoc X194 N178 pf14
   have pre208 : ∀ tg, AT p e below T194 m 126 #[rv a0, rv a1, iv p2, iv (1 : Int32), iv ((4 : Int32) + c1)] [] tg → Steps p.tables e below S0 tg := fun tg kg => pre175 tg (by
    refine XS.ifYes X173.here hx rfl (pc0 := 32) (pc' := 46) rfl (hb hby d8_32) rfl (XT.ll_eq_t hc176) (by decide) (by decide) ?_
    refine XS.aloadN X173.here hx rfl (hb hby d8_46) rfl rfl ?_
    refine st177 _ ?_
    refine XS.iload X177.here hx rfl (hb hby d8_50) rfl ?_
    refine XS.iloadN X177.here hx rfl (hb hby d8_52) rfl ?_
    refine st178 _ ?_
    refine XS.aloadN X178.here hx rfl (hb hby d8_54) rfl rfl ?_
    refine st192 _ ?_
    refine XS.iload X192.here hx rfl (hb hby d8_58) rfl ?_
    refine XT.dup2 X192.here hx rfl (hb hby d8_60) rfl rfl rfl ?_
    refine X192.laload hx (j := ((4 : Int32) + c1)) (v := (.long Kz1)) (by rw [e192]; exact Ar193.1) (State.isArrayOf_alike hZ.alike Ar193.2.1) Ar193.2.2 hin193 hat193 (g := (mkF m 61 #[rv a0, rv a1, iv p2, iv (1 : Int32), iv ((4 : Int32) + c1)] [(.int ((4 : Int32) + c1)), (.ref ca), (.int ((4 : Int32) + c1)), (.ref ca)])) rfl rfl (hb hby d8_61) _ ?_
    refine XS.lconst X192.here hx rfl (hb hby d8_62) ?_
    refine XS.ladd X192.here hx rfl (hb hby d8_63) rfl ?_
    refine st194 _ ?_
    refine XS.goto X194.here hx rfl (pc0 := 65) (pc' := 126) rfl (hb hby d8_65) (by decide) (by decide) ?_
    exact kg)
   have hj209 : (pI c1 (0 : Int32) (nf Kz1 Fz1 p2) f4) = (pI c1 (0 : Int32) p2 f4) := by simp only [nf, if_pos hc176]
   have hj210 : (pI c1 (1 : Int32) (nf Kz1 Fz1 p2) f5) = (pI c1 (1 : Int32) p2 f5) := by simp only [nf, if_pos hc176]
   have hj211 : (pI c1 (2 : Int32) (nf Kz1 Fz1 p2) f6) = (pI c1 (2 : Int32) p2 f6) := by simp only [nf, if_pos hc176]
   have hj212 : (pI c1 (3 : Int32) (nf Kz1 Fz1 p2) f7) = (pI c1 (3 : Int32) p2 f7) := by simp only [nf, if_pos hc176]
   have hj213 : (pJ c1 (0 : Int32) (nc Kz1 Fz1 p2) k4) = (pJ c1 (0 : Int32) (Kz1 + (1 : Int64)) k4) := by simp only [nc, if_pos hc176]
   have hj214 : (pJ c1 (1 : Int32) (nc Kz1 Fz1 p2) k5) = (pJ c1 (1 : Int32) (Kz1 + (1 : Int64)) k5) := by simp only [nc, if_pos hc176]
   have hj215 : (pJ c1 (2 : Int32) (nc Kz1 Fz1 p2) k6) = (pJ c1 (2 : Int32) (Kz1 + (1 : Int64)) k6) := by simp only [nc, if_pos hc176]
   have hj216 : (pJ c1 (3 : Int32) (nc Kz1 Fz1 p2) k7) = (pJ c1 (3 : Int32) (Kz1 + (1 : Int64)) k7) := by simp only [nc, if_pos hc176]
   exact ⟨_, _, _, X194, e194, N194, K194, O194, E194_196, F194_197, E194_198, F194_199, F194_200, F194_201, F194_202, E194_203, V194_204, E194_205, E194_206, (by rw [hj209, hj210, hj211, hj212]; exact V194_207), (by rw [hj213, hj214, hj215, hj216]; exact V194_195), pre208⟩
  ·
   obtain ⟨T217, X217, e217, st217⟩ := getF X173 hx hZ hown (host := "") (Or.inl (ow hw 57 rfl)) Via.refl e173 J6_4 (g := (mkF m 36 #[rv a0, rv a1, iv p2, iv (1 : Int32), iv ((4 : Int32) + c1)] [(.ref a0)])) rfl rfl (hb hby d8_36)
   obtain ⟨cl218, Ar218, q218, S218, N218, H218, G218⟩ := id J6_11
   have hin218 := own_in ((4 : Int32) + c1) S218 (own_b4_4 hc1)
   have hat218 : cl218.slots[(((4 : Int32) + c1)).toNatClampNeg]? = some (.int Fz1) := Has.at H218 hin218 ((own_gI4_4 hc1).trans (congrArg Value.int hFz1.symm))
   have pre219 : ∀ tg, AT p e below T217 m 43 #[rv a0, rv a1, iv p2, iv (1 : Int32), iv ((4 : Int32) + c1)] [(.int p2), (.int Fz1)] tg → Steps p.tables e below S0 tg := fun tg kg => pre175 tg (by
    refine XS.ifNo X173.here hx rfl (hb hby d8_32) rfl (XT.ll_eq_f hc176) ?_
    refine XS.aloadN X173.here hx rfl (hb hby d8_35) rfl rfl ?_
    refine st217 _ ?_
    refine XS.iload X217.here hx rfl (hb hby d8_39) rfl ?_
    refine X217.iaload hx (j := ((4 : Int32) + c1)) (v := (.int Fz1)) (by rw [e217]; exact Ar218.1) (State.isArrayOf_alike hZ.alike Ar218.2.1) Ar218.2.2 hin218 hat218 (g := (mkF m 41 #[rv a0, rv a1, iv p2, iv (1 : Int32), iv ((4 : Int32) + c1)] [(.int ((4 : Int32) + c1)), (.ref fa)])) rfl rfl (hb hby d8_41) _ ?_
    refine XS.iloadN X217.here hx rfl (hb hby d8_42) rfl ?_
    exact kg)
   rcases Decidable.em (Fz1 = p2) with hc220 | hc220
   ·
    obtain ⟨T221, X221, e221, st221⟩ := getF X217 hx hZ hown (host := "") (Or.inl (ow hw 57 rfl)) Via.refl e217 J6_4 (g := (mkF m 47 #[rv a0, rv a1, iv p2, iv (1 : Int32), iv ((4 : Int32) + c1)] [(.ref a0)])) rfl rfl (hb hby d8_47)
    obtain ⟨cl222, Ar222, q222, S222, M222, H222, G222⟩ := id J6_11
    have hin222 := own_in ((4 : Int32) + c1) S222 (own_b4_4 hc1)
    obtain ⟨T222, h222, X222, e222, W222, st222⟩ := stI X221 hx hZ e221 Ar222 (j := ((4 : Int32) + c1)) hin222 (g := (mkF m 53 #[rv a0, rv a1, iv p2, iv (1 : Int32), iv ((4 : Int32) + c1)] [(.int p2), (.int ((4 : Int32) + c1)), (.ref fa)])) rfl rfl (hb hby d8_53)
    have V222_223 : Arv Z h222 fa kf .int (8 : Int32) [(.int (pI c0 (0 : Int32) (nf Kz0 Fz0 p2) f0)), (.int (pI c0 (1 : Int32) (nf Kz0 Fz0 p2) f1)), (.int (pI c0 (2 : Int32) (nf Kz0 Fz0 p2) f2)), (.int (pI c0 (3 : Int32) (nf Kz0 Fz0 p2) f3)), (.int (pI c1 (0 : Int32) p2 f4)), (.int (pI c1 (1 : Int32) p2 f5)), (.int (pI c1 (2 : Int32) p2 f6)), (.int (pI c1 (3 : Int32) p2 f7))] (.int (0 : Int32)) := by have q := Arv.set Ar222 q222 S222 M222 H222 G222 rfl W222 (((4 : Int32) + c1)).toNatClampNeg rfl (own_k4_4 hc1); rw [own_sI4_4 hc1] at q; exact q
    have E222_224 := J6_0.wr W222
    have F222_225 := J6_1.other W222 (Or.inl n_a0_fa)
    have E222_226 := J6_2.wr W222
    have F222_227 := J6_3.other W222 (Or.inl n_sh_fa)
    have F222_228 := J6_4.other W222 (Or.inl n_a0_fa)
    have F222_229 := J6_5.other W222 (Or.inl n_a0_fa)
    have F222_230 := J6_6.other W222 (Or.inl n_a0_fa)
    have E222_231 := J6_7.wr W222
    have V222_232 := J6_8.other W222 pf15
    have E222_233 := J6_9.wr W222
    have E222_234 := J6_10.wr W222
    have V222_235 := J6_12.other W222 (Ne.symm n_fa_ca)
    have K222 := K6.wr W222 (Or.inl (List.mem_of_getElem? (i := 0) rfl))
    have O222 := O6.wr W222 pf13
    have N222 := Fr.snoc X222 N169 pf13
    obtain ⟨T236, X236, e236, st236⟩ := getF X222 hx hZ hown (host := "") (Or.inl (ow hw 60 rfl)) Via.refl e222 F222_229 (g := (mkF m 55 #[rv a0, rv a1, iv p2, iv (1 : Int32), iv ((4 : Int32) + c1)] [(.ref a0)])) rfl rfl (hb hby d8_55)
    obtain ⟨cl237, Ar237, q237, S237, N237, H237, G237⟩ := id V222_235
    have hin237 := own_in ((4 : Int32) + c1) S237 (own_b4_4 hc1)
    have hat237 : cl237.slots[(((4 : Int32) + c1)).toNatClampNeg]? = some (.long Kz1) := Has.at H237 hin237 ((own_gJ4_4 hc1).trans (congrArg Value.long hKz1.symm))
    obtain ⟨cl238, Ar238, q238, S238, M238, H238, G238⟩ := id V222_235
    have hin238 := own_in ((4 : Int32) + c1) S238 (own_b4_4 hc1)
    obtain ⟨T238, h238, X238, e238, W238, st238⟩ := stJ X236 hx hZ e236 Ar238 (j := ((4 : Int32) + c1)) hin238 (g := (mkF m 64 #[rv a0, rv a1, iv p2, iv (1 : Int32), iv ((4 : Int32) + c1)] [(.long (Kz1 + (1 : Int64))), (.int ((4 : Int32) + c1)), (.ref ca)])) rfl rfl (hb hby d8_64)
    have V238_239 : Arv Z h238 ca kc .long (8 : Int32) [(.long (pJ c0 (0 : Int32) (nc Kz0 Fz0 p2) k0)), (.long (pJ c0 (1 : Int32) (nc Kz0 Fz0 p2) k1)), (.long (pJ c0 (2 : Int32) (nc Kz0 Fz0 p2) k2)), (.long (pJ c0 (3 : Int32) (nc Kz0 Fz0 p2) k3)), (.long (pJ c1 (0 : Int32) (Kz1 + (1 : Int64)) k4)), (.long (pJ c1 (1 : Int32) (Kz1 + (1 : Int64)) k5)), (.long (pJ c1 (2 : Int32) (Kz1 + (1 : Int64)) k6)), (.long (pJ c1 (3 : Int32) (Kz1 + (1 : Int64)) k7))] (.long (0 : Int64)) := by have q := Arv.set Ar238 q238 S238 M238 H238 G238 rfl W238 (((4 : Int32) + c1)).toNatClampNeg rfl (own_k4_4 hc1); rw [own_sJ4_4 hc1] at q; exact q
    have E238_240 := E222_224.wr W238
    have F238_241 := F222_225.other W238 (Or.inl n_a0_ca)
    have E238_242 := E222_226.wr W238
    have F238_243 := F222_227.other W238 (Or.inl n_sh_ca)
    have F238_244 := F222_228.other W238 (Or.inl n_a0_ca)
    have F238_245 := F222_229.other W238 (Or.inl n_a0_ca)
    have F238_246 := F222_230.other W238 (Or.inl n_a0_ca)
    have E238_247 := E222_231.wr W238
    have V238_248 := V222_232.other W238 n_a1_ca
    have E238_249 := E222_233.wr W238
    have E238_250 := E222_234.wr W238
    have V238_251 := V222_223.other W238 n_fa_ca
    have K238 := K222.wr W238 (Or.inl (List.mem_of_getElem? (i := 1) rfl))
    have O238 := O222.wr W238 pf14
    have N238 := Fr.snoc X238 N222 pf14
    have pre252 : ∀ tg, AT p e below T238 m 126 #[rv a0, rv a1, iv p2, iv (1 : Int32), iv ((4 : Int32) + c1)] [] tg → Steps p.tables e below S0 tg := fun tg kg => pre219 tg (by
     refine XS.icmpNo X217.here hx rfl (hb hby d8_43) rfl (XT.ii_ne_f hc220) ?_
     refine XS.aloadN X217.here hx rfl (hb hby d8_46) rfl rfl ?_
     refine st221 _ ?_
     refine XS.iload X221.here hx rfl (hb hby d8_50) rfl ?_
     refine XS.iloadN X221.here hx rfl (hb hby d8_52) rfl ?_
     refine st222 _ ?_
     refine XS.aloadN X222.here hx rfl (hb hby d8_54) rfl rfl ?_
     refine st236 _ ?_
     refine XS.iload X236.here hx rfl (hb hby d8_58) rfl ?_
     refine XT.dup2 X236.here hx rfl (hb hby d8_60) rfl rfl rfl ?_
     refine X236.laload hx (j := ((4 : Int32) + c1)) (v := (.long Kz1)) (by rw [e236]; exact Ar237.1) (State.isArrayOf_alike hZ.alike Ar237.2.1) Ar237.2.2 hin237 hat237 (g := (mkF m 61 #[rv a0, rv a1, iv p2, iv (1 : Int32), iv ((4 : Int32) + c1)] [(.int ((4 : Int32) + c1)), (.ref ca), (.int ((4 : Int32) + c1)), (.ref ca)])) rfl rfl (hb hby d8_61) _ ?_
     refine XS.lconst X236.here hx rfl (hb hby d8_62) ?_
     refine XS.ladd X236.here hx rfl (hb hby d8_63) rfl ?_
     refine st238 _ ?_
     refine XS.goto X238.here hx rfl (pc0 := 65) (pc' := 126) rfl (hb hby d8_65) (by decide) (by decide) ?_
     exact kg)
    have hj253 : (pI c1 (0 : Int32) (nf Kz1 Fz1 p2) f4) = (pI c1 (0 : Int32) p2 f4) := by simp only [nf, if_neg hc176, if_pos hc220]
    have hj254 : (pI c1 (1 : Int32) (nf Kz1 Fz1 p2) f5) = (pI c1 (1 : Int32) p2 f5) := by simp only [nf, if_neg hc176, if_pos hc220]
    have hj255 : (pI c1 (2 : Int32) (nf Kz1 Fz1 p2) f6) = (pI c1 (2 : Int32) p2 f6) := by simp only [nf, if_neg hc176, if_pos hc220]
    have hj256 : (pI c1 (3 : Int32) (nf Kz1 Fz1 p2) f7) = (pI c1 (3 : Int32) p2 f7) := by simp only [nf, if_neg hc176, if_pos hc220]
    have hj257 : (pJ c1 (0 : Int32) (nc Kz1 Fz1 p2) k4) = (pJ c1 (0 : Int32) (Kz1 + (1 : Int64)) k4) := by simp only [nc, if_neg hc176, if_pos hc220]
    have hj258 : (pJ c1 (1 : Int32) (nc Kz1 Fz1 p2) k5) = (pJ c1 (1 : Int32) (Kz1 + (1 : Int64)) k5) := by simp only [nc, if_neg hc176, if_pos hc220]
    have hj259 : (pJ c1 (2 : Int32) (nc Kz1 Fz1 p2) k6) = (pJ c1 (2 : Int32) (Kz1 + (1 : Int64)) k6) := by simp only [nc, if_neg hc176, if_pos hc220]
    have hj260 : (pJ c1 (3 : Int32) (nc Kz1 Fz1 p2) k7) = (pJ c1 (3 : Int32) (Kz1 + (1 : Int64)) k7) := by simp only [nc, if_neg hc176, if_pos hc220]
    exact ⟨_, _, _, X238, e238, N238, K238, O238, E238_240, F238_241, E238_242, F238_243, F238_244, F238_245, F238_246, E238_247, V238_248, E238_249, E238_250, (by rw [hj253, hj254, hj255, hj256]; exact V238_251), (by rw [hj257, hj258, hj259, hj260]; exact V238_239), pre252⟩
   ·
    obtain ⟨T261, X261, e261, st261⟩ := getF X217 hx hZ hown (host := "") (Or.inl (ow hw 50 rfl)) Via.refl e217 J6_6 (g := (mkF m 69 #[rv a0, rv a1, iv p2, iv (1 : Int32), iv ((4 : Int32) + c1)] [(.ref a0)])) rfl rfl (hb hby d8_69)
    obtain ⟨T262, X262, e262, st262⟩ := getF X261 hx hZ hown (host := "") (Or.inl (ow hw 60 rfl)) Via.refl e261 J6_5 (g := (mkF m 73 #[rv a0, rv a1, iv p2, iv (1 : Int32), iv ((4 : Int32) + c1)] [(.ref a0), (.ref w_lam)])) rfl rfl (hb hby d8_73)
    obtain ⟨cl263, Ar263, q263, S263, N263, H263, G263⟩ := id J6_12
    have hin263 := own_in ((4 : Int32) + c1) S263 (own_b4_4 hc1)
    have hat263 : cl263.slots[(((4 : Int32) + c1)).toNatClampNeg]? = some (.long Kz1) := Has.at H263 hin263 ((own_gJ4_4 hc1).trans (congrArg Value.long hKz1.symm))
    obtain ⟨T264, X264, e264, st264⟩ := own_test X262 hx hw hZ hown HLm O6 e262 (g := (mkF m 79 #[rv a0, rv a1, iv p2, iv (1 : Int32), iv ((4 : Int32) + c1)] [(.long Kz1), (.ref w_lam)])) rfl (by rw [hml]; rfl) rfl (hb hby d8_79) (W := 0) (by show 2 * 0 + _ ≤ _; exact Nat.le_of_eq rfl) (by decide) (by decide) (by decide) (by decide)
    obtain ⟨T265, X265, e265, st265⟩ := getF X264 hx hZ hown (host := "") (Or.inl (ow hw 60 rfl)) Via.refl e264 J6_5 (g := (mkF m 88 #[rv a0, rv a1, iv p2, iv (1 : Int32), iv ((4 : Int32) + c1)] [(.ref a0)])) rfl rfl (hb hby d8_88)
    obtain ⟨cl266, Ar266, q266, S266, N266, H266, G266⟩ := id J6_12
    have hin266 := own_in ((4 : Int32) + c1) S266 (own_b4_4 hc1)
    have hat266 : cl266.slots[(((4 : Int32) + c1)).toNatClampNeg]? = some (.long Kz1) := Has.at H266 hin266 ((own_gJ4_4 hc1).trans (congrArg Value.long hKz1.symm))
    obtain ⟨cl267, Ar267, q267, S267, M267, H267, G267⟩ := id J6_12
    have hin267 := own_in ((4 : Int32) + c1) S267 (own_b4_4 hc1)
    obtain ⟨T267, h267, X267, e267, W267, st267⟩ := stJ X265 hx hZ e265 Ar267 (j := ((4 : Int32) + c1)) hin267 (g := (mkF m 97 #[rv a0, rv a1, iv p2, iv (1 : Int32), iv ((4 : Int32) + c1)] [(.long (Kz1 - (1 : Int64))), (.int ((4 : Int32) + c1)), (.ref ca)])) rfl rfl (hb hby d8_97)
    have V267_268 : Arv Z h267 ca kc .long (8 : Int32) [(.long (pJ c0 (0 : Int32) (nc Kz0 Fz0 p2) k0)), (.long (pJ c0 (1 : Int32) (nc Kz0 Fz0 p2) k1)), (.long (pJ c0 (2 : Int32) (nc Kz0 Fz0 p2) k2)), (.long (pJ c0 (3 : Int32) (nc Kz0 Fz0 p2) k3)), (.long (pJ c1 (0 : Int32) (Kz1 - (1 : Int64)) k4)), (.long (pJ c1 (1 : Int32) (Kz1 - (1 : Int64)) k5)), (.long (pJ c1 (2 : Int32) (Kz1 - (1 : Int64)) k6)), (.long (pJ c1 (3 : Int32) (Kz1 - (1 : Int64)) k7))] (.long (0 : Int64)) := by have q := Arv.set Ar267 q267 S267 M267 H267 G267 rfl W267 (((4 : Int32) + c1)).toNatClampNeg rfl (own_k4_4 hc1); rw [own_sJ4_4 hc1] at q; exact q
    have E267_269 := J6_0.wr W267
    have F267_270 := J6_1.other W267 (Or.inl n_a0_ca)
    have E267_271 := J6_2.wr W267
    have F267_272 := J6_3.other W267 (Or.inl n_sh_ca)
    have F267_273 := J6_4.other W267 (Or.inl n_a0_ca)
    have F267_274 := J6_5.other W267 (Or.inl n_a0_ca)
    have F267_275 := J6_6.other W267 (Or.inl n_a0_ca)
    have E267_276 := J6_7.wr W267
    have V267_277 := J6_8.other W267 n_a1_ca
    have E267_278 := J6_9.wr W267
    have E267_279 := J6_10.wr W267
    have V267_280 := J6_11.other W267 n_fa_ca
    have K267 := K6.wr W267 (Or.inl (List.mem_of_getElem? (i := 1) rfl))
    have O267 := O6.wr W267 pf14
    have N267 := Fr.snoc X267 N169 pf14
    obtain ⟨T281, X281, e281, st281⟩ := getF X267 hx hZ hown (host := "") (Or.inl (ow hw 60 rfl)) Via.refl e267 F267_274 (g := (mkF m 99 #[rv a0, rv a1, iv p2, iv (1 : Int32), iv ((4 : Int32) + c1)] [(.ref a0)])) rfl rfl (hb hby d8_99)
    obtain ⟨cl282, Ar282, q282, S282, N282, H282, G282⟩ := id V267_268
    have hin282 := own_in ((4 : Int32) + c1) S282 (own_b4_4 hc1)
    have hat282 : cl282.slots[(((4 : Int32) + c1)).toNatClampNeg]? = some (.long (Kz1 - (1 : Int64))) := Has.at H282 hin282 ((own_gJ4_4 hc1).trans (congrArg Value.long (own_spJ4 hc1)))
    have pre283 : ∀ tg, AT p e below T281 m 107 #[rv a0, rv a1, iv p2, iv (1 : Int32), iv ((4 : Int32) + c1)] [(.int (XT.cmpL (Kz1 - (1 : Int64)) (0 : Int64)))] tg → Steps p.tables e below S0 tg := fun tg kg => pre219 tg (by
     refine XS.icmpYes X217.here hx rfl (pc0 := 43) (pc' := 68) rfl (hb hby d8_43) rfl (XT.ii_ne_t hc220) (by decide) (by decide) ?_
     refine XS.aloadN X217.here hx rfl (hb hby d8_68) rfl rfl ?_
     refine st261 _ ?_
     refine XS.aloadN X261.here hx rfl (hb hby d8_72) rfl rfl ?_
     refine st262 _ ?_
     refine XS.iload X262.here hx rfl (hb hby d8_76) rfl ?_
     refine X262.laload hx (j := ((4 : Int32) + c1)) (v := (.long Kz1)) (by rw [e262]; exact Ar263.1) (State.isArrayOf_alike hZ.alike Ar263.2.1) Ar263.2.2 hin263 hat263 (g := (mkF m 78 #[rv a0, rv a1, iv p2, iv (1 : Int32), iv ((4 : Int32) + c1)] [(.int ((4 : Int32) + c1)), (.ref ca), (.ref w_lam)])) rfl rfl (hb hby d8_78) _ ?_
     refine st264 _ ?_
     show AT p e below T264 m 84 #[rv a0, rv a1, iv p2, iv (1 : Int32), iv ((4 : Int32) + c1)] [(.int (1 : Int32))] _
     refine XS.ifNo X264.here hx rfl (hb hby d8_84) rfl (XT.i0_eq_f ((by decide) : ¬ ((1 : Int32) = (0 : Int32)))) ?_
     refine XS.aloadN X264.here hx rfl (hb hby d8_87) rfl rfl ?_
     refine st265 _ ?_
     refine XS.iload X265.here hx rfl (hb hby d8_91) rfl ?_
     refine XT.dup2 X265.here hx rfl (hb hby d8_93) rfl rfl rfl ?_
     refine X265.laload hx (j := ((4 : Int32) + c1)) (v := (.long Kz1)) (by rw [e265]; exact Ar266.1) (State.isArrayOf_alike hZ.alike Ar266.2.1) Ar266.2.2 hin266 hat266 (g := (mkF m 94 #[rv a0, rv a1, iv p2, iv (1 : Int32), iv ((4 : Int32) + c1)] [(.int ((4 : Int32) + c1)), (.ref ca), (.int ((4 : Int32) + c1)), (.ref ca)])) rfl rfl (hb hby d8_94) _ ?_
     refine XS.lconst X265.here hx rfl (hb hby d8_95) ?_
     refine XS.lsub X265.here hx rfl (hb hby d8_96) rfl ?_
     refine st267 _ ?_
     refine XS.aloadN X267.here hx rfl (hb hby d8_98) rfl rfl ?_
     refine st281 _ ?_
     refine XS.iload X281.here hx rfl (hb hby d8_102) rfl ?_
     refine X281.laload hx (j := ((4 : Int32) + c1)) (v := (.long (Kz1 - (1 : Int64)))) (by rw [e281]; exact Ar282.1) (State.isArrayOf_alike hZ.alike Ar282.2.1) Ar282.2.2 hin282 hat282 (g := (mkF m 104 #[rv a0, rv a1, iv p2, iv (1 : Int32), iv ((4 : Int32) + c1)] [(.int ((4 : Int32) + c1)), (.ref ca)])) rfl rfl (hb hby d8_104) _ ?_
     refine XS.lconst X281.here hx rfl (hb hby d8_105) ?_
     refine XS.lcmp X281.here hx rfl (hb hby d8_106) rfl ?_
     exact kg)
    rcases Decidable.em ((Kz1 - (1 : Int64)) = (0 : Int64)) with hc284 | hc284
    ·
     obtain ⟨T285, X285, e285, st285⟩ := getF X281 hx hZ hown (host := "") (Or.inl (ow hw 57 rfl)) Via.refl e281 F267_273 (g := (mkF m 111 #[rv a0, rv a1, iv p2, iv (1 : Int32), iv ((4 : Int32) + c1)] [(.ref a0)])) rfl rfl (hb hby d8_111)
     obtain ⟨cl286, Ar286, q286, S286, M286, H286, G286⟩ := id V267_280
     have hin286 := own_in ((4 : Int32) + c1) S286 (own_b4_4 hc1)
     obtain ⟨T286, h286, X286, e286, W286, st286⟩ := stI X285 hx hZ e285 Ar286 (j := ((4 : Int32) + c1)) hin286 (g := (mkF m 117 #[rv a0, rv a1, iv p2, iv (1 : Int32), iv ((4 : Int32) + c1)] [(.int p2), (.int ((4 : Int32) + c1)), (.ref fa)])) rfl rfl (hb hby d8_117)
     have V286_287 : Arv Z h286 fa kf .int (8 : Int32) [(.int (pI c0 (0 : Int32) (nf Kz0 Fz0 p2) f0)), (.int (pI c0 (1 : Int32) (nf Kz0 Fz0 p2) f1)), (.int (pI c0 (2 : Int32) (nf Kz0 Fz0 p2) f2)), (.int (pI c0 (3 : Int32) (nf Kz0 Fz0 p2) f3)), (.int (pI c1 (0 : Int32) p2 f4)), (.int (pI c1 (1 : Int32) p2 f5)), (.int (pI c1 (2 : Int32) p2 f6)), (.int (pI c1 (3 : Int32) p2 f7))] (.int (0 : Int32)) := by have q := Arv.set Ar286 q286 S286 M286 H286 G286 rfl W286 (((4 : Int32) + c1)).toNatClampNeg rfl (own_k4_4 hc1); rw [own_sI4_4 hc1] at q; exact q
     have E286_288 := E267_269.wr W286
     have F286_289 := F267_270.other W286 (Or.inl n_a0_fa)
     have E286_290 := E267_271.wr W286
     have F286_291 := F267_272.other W286 (Or.inl n_sh_fa)
     have F286_292 := F267_273.other W286 (Or.inl n_a0_fa)
     have F286_293 := F267_274.other W286 (Or.inl n_a0_fa)
     have F286_294 := F267_275.other W286 (Or.inl n_a0_fa)
     have E286_295 := E267_276.wr W286
     have V286_296 := V267_277.other W286 pf15
     have E286_297 := E267_278.wr W286
     have E286_298 := E267_279.wr W286
     have V286_299 := V267_268.other W286 (Ne.symm n_fa_ca)
     have K286 := K267.wr W286 (Or.inl (List.mem_of_getElem? (i := 0) rfl))
     have O286 := O267.wr W286 pf13
     have N286 := Fr.snoc X286 N267 pf13
     obtain ⟨T300, X300, e300, st300⟩ := getF X286 hx hZ hown (host := "") (Or.inl (ow hw 60 rfl)) Via.refl e286 F286_293 (g := (mkF m 119 #[rv a0, rv a1, iv p2, iv (1 : Int32), iv ((4 : Int32) + c1)] [(.ref a0)])) rfl rfl (hb hby d8_119)
     obtain ⟨cl301, Ar301, q301, S301, M301, H301, G301⟩ := id V286_299
     have hin301 := own_in ((4 : Int32) + c1) S301 (own_b4_4 hc1)
     obtain ⟨T301, h301, X301, e301, W301, st301⟩ := stJ X300 hx hZ e300 Ar301 (j := ((4 : Int32) + c1)) hin301 (g := (mkF m 125 #[rv a0, rv a1, iv p2, iv (1 : Int32), iv ((4 : Int32) + c1)] [(.long (1 : Int64)), (.int ((4 : Int32) + c1)), (.ref ca)])) rfl rfl (hb hby d8_125)
     have V301_302 : Arv Z h301 ca kc .long (8 : Int32) [(.long (pJ c0 (0 : Int32) (nc Kz0 Fz0 p2) k0)), (.long (pJ c0 (1 : Int32) (nc Kz0 Fz0 p2) k1)), (.long (pJ c0 (2 : Int32) (nc Kz0 Fz0 p2) k2)), (.long (pJ c0 (3 : Int32) (nc Kz0 Fz0 p2) k3)), (.long (pJ c1 (0 : Int32) (1 : Int64) k4)), (.long (pJ c1 (1 : Int32) (1 : Int64) k5)), (.long (pJ c1 (2 : Int32) (1 : Int64) k6)), (.long (pJ c1 (3 : Int32) (1 : Int64) k7))] (.long (0 : Int64)) := by have q := Arv.set Ar301 q301 S301 M301 H301 G301 rfl W301 (((4 : Int32) + c1)).toNatClampNeg rfl (own_k4_4 hc1); rw [own_sJ4_4 hc1] at q; simp only [own_ppJ] at q; exact q
     have E301_303 := E286_288.wr W301
     have F301_304 := F286_289.other W301 (Or.inl n_a0_ca)
     have E301_305 := E286_290.wr W301
     have F301_306 := F286_291.other W301 (Or.inl n_sh_ca)
     have F301_307 := F286_292.other W301 (Or.inl n_a0_ca)
     have F301_308 := F286_293.other W301 (Or.inl n_a0_ca)
     have F301_309 := F286_294.other W301 (Or.inl n_a0_ca)
     have E301_310 := E286_295.wr W301
     have V301_311 := V286_296.other W301 n_a1_ca
     have E301_312 := E286_297.wr W301
     have E301_313 := E286_298.wr W301
     have V301_314 := V286_287.other W301 n_fa_ca
     have K301 := K286.wr W301 (Or.inl (List.mem_of_getElem? (i := 1) rfl))
     have O301 := O286.wr W301 pf14
     have N301 := Fr.snoc X301 N286 pf14
     have pre315 : ∀ tg, AT p e below T301 m 126 #[rv a0, rv a1, iv p2, iv (1 : Int32), iv ((4 : Int32) + c1)] [] tg → Steps p.tables e below S0 tg := fun tg kg => pre283 tg (by
      refine XS.ifNo X281.here hx rfl (hb hby d8_107) rfl (XT.ll_ne_f hc284) ?_
      refine XS.aloadN X281.here hx rfl (hb hby d8_110) rfl rfl ?_
      refine st285 _ ?_
      refine XS.iload X285.here hx rfl (hb hby d8_114) rfl ?_
      refine XS.iloadN X285.here hx rfl (hb hby d8_116) rfl ?_
      refine st286 _ ?_
      refine XS.aloadN X286.here hx rfl (hb hby d8_118) rfl rfl ?_
      refine st300 _ ?_
      refine XS.iload X300.here hx rfl (hb hby d8_122) rfl ?_
      show AT p e below T300 m 124 #[rv a0, rv a1, iv p2, iv (1 : Int32), iv ((4 : Int32) + c1)] [(.int ((4 : Int32) + c1)), (.ref ca)] _
      refine XS.lconst X300.here hx rfl (hb hby d8_124) ?_
      refine st301 _ ?_
      exact kg)
     have hj316 : (pI c1 (0 : Int32) (nf Kz1 Fz1 p2) f4) = (pI c1 (0 : Int32) p2 f4) := by simp only [nf, if_neg hc176, if_neg hc220, if_pos hc284]
     have hj317 : (pI c1 (1 : Int32) (nf Kz1 Fz1 p2) f5) = (pI c1 (1 : Int32) p2 f5) := by simp only [nf, if_neg hc176, if_neg hc220, if_pos hc284]
     have hj318 : (pI c1 (2 : Int32) (nf Kz1 Fz1 p2) f6) = (pI c1 (2 : Int32) p2 f6) := by simp only [nf, if_neg hc176, if_neg hc220, if_pos hc284]
     have hj319 : (pI c1 (3 : Int32) (nf Kz1 Fz1 p2) f7) = (pI c1 (3 : Int32) p2 f7) := by simp only [nf, if_neg hc176, if_neg hc220, if_pos hc284]
     have hj320 : (pJ c1 (0 : Int32) (nc Kz1 Fz1 p2) k4) = (pJ c1 (0 : Int32) (1 : Int64) k4) := by simp only [nc, if_neg hc176, if_neg hc220, if_pos hc284]
     have hj321 : (pJ c1 (1 : Int32) (nc Kz1 Fz1 p2) k5) = (pJ c1 (1 : Int32) (1 : Int64) k5) := by simp only [nc, if_neg hc176, if_neg hc220, if_pos hc284]
     have hj322 : (pJ c1 (2 : Int32) (nc Kz1 Fz1 p2) k6) = (pJ c1 (2 : Int32) (1 : Int64) k6) := by simp only [nc, if_neg hc176, if_neg hc220, if_pos hc284]
     have hj323 : (pJ c1 (3 : Int32) (nc Kz1 Fz1 p2) k7) = (pJ c1 (3 : Int32) (1 : Int64) k7) := by simp only [nc, if_neg hc176, if_neg hc220, if_pos hc284]
     exact ⟨_, _, _, X301, e301, N301, K301, O301, E301_303, F301_304, E301_305, F301_306, F301_307, F301_308, F301_309, E301_310, V301_311, E301_312, E301_313, (by rw [hj316, hj317, hj318, hj319]; exact V301_314), (by rw [hj320, hj321, hj322, hj323]; exact V301_302), pre315⟩
    ·
     have pre324 : ∀ tg, AT p e below T281 m 126 #[rv a0, rv a1, iv p2, iv (1 : Int32), iv ((4 : Int32) + c1)] [] tg → Steps p.tables e below S0 tg := fun tg kg => pre283 tg (by
      refine XS.ifYes X281.here hx rfl (pc0 := 107) (pc' := 126) rfl (hb hby d8_107) rfl (XT.ll_ne_t hc284) (by decide) (by decide) ?_
      exact kg)
     have hj325 : (pI c1 (0 : Int32) (nf Kz1 Fz1 p2) f4) = f4 := by rw [nf, if_neg hc176, if_neg hc220, if_neg hc284, hFz1]; exact own_psI4_0 hc1
     have hj326 : (pI c1 (1 : Int32) (nf Kz1 Fz1 p2) f5) = f5 := by rw [nf, if_neg hc176, if_neg hc220, if_neg hc284, hFz1]; exact own_psI4_1 hc1
     have hj327 : (pI c1 (2 : Int32) (nf Kz1 Fz1 p2) f6) = f6 := by rw [nf, if_neg hc176, if_neg hc220, if_neg hc284, hFz1]; exact own_psI4_2 hc1
     have hj328 : (pI c1 (3 : Int32) (nf Kz1 Fz1 p2) f7) = f7 := by rw [nf, if_neg hc176, if_neg hc220, if_neg hc284, hFz1]; exact own_psI4_3 hc1
     have hj329 : (pJ c1 (0 : Int32) (nc Kz1 Fz1 p2) k4) = (pJ c1 (0 : Int32) (Kz1 - (1 : Int64)) k4) := by simp only [nc, if_neg hc176, if_neg hc220, if_neg hc284]
     have hj330 : (pJ c1 (1 : Int32) (nc Kz1 Fz1 p2) k5) = (pJ c1 (1 : Int32) (Kz1 - (1 : Int64)) k5) := by simp only [nc, if_neg hc176, if_neg hc220, if_neg hc284]
     have hj331 : (pJ c1 (2 : Int32) (nc Kz1 Fz1 p2) k6) = (pJ c1 (2 : Int32) (Kz1 - (1 : Int64)) k6) := by simp only [nc, if_neg hc176, if_neg hc220, if_neg hc284]
     have hj332 : (pJ c1 (3 : Int32) (nc Kz1 Fz1 p2) k7) = (pJ c1 (3 : Int32) (Kz1 - (1 : Int64)) k7) := by simp only [nc, if_neg hc176, if_neg hc220, if_neg hc284]
     exact ⟨_, _, _, X281, e281, N267, K267, O267, E267_269, F267_270, E267_271, F267_272, F267_273, F267_274, F267_275, E267_276, V267_277, E267_278, E267_279, (by rw [hj325, hj326, hj327, hj328]; exact V267_280), (by rw [hj329, hj330, hj331, hj332]; exact V267_268), pre324⟩
 obtain ⟨cl333, Ar333, q333, S333, N333, H333, G333⟩ := id J172_8
 obtain ⟨fs, hr, hrun, hended, hW, hsame⟩ := X172.leave (v := none) (fun _ => rfl) hlk
 subst hS0
 refine ⟨_, _, pre172 _ ?_, hrun, hended, _, _, rfl, ?_, ⟨_, rfl⟩, hW, hsame.mono (by decide) (by decide)⟩
 ·
  refine XS.iinc X172.here hx rfl (hb hby d8_126) rfl (l' := #[rv a0, rv a1, iv p2, iv (2 : Int32), iv ((4 : Int32) + c1)]) rfl ?_
  refine XS.goto X172.here hx rfl (pc0 := 129) (pc' := 2) rfl (hb hby d8_129) (by decide) (by decide) ?_
  refine XS.iloadN X172.here hx rfl (hb hby d8_2) rfl ?_
  refine XS.aloadN X172.here hx rfl (hb hby d8_3) rfl rfl ?_
  refine X172.arraylength hx (by rw [e172]; exact Ar333.1) (State.isArrayOf_alike hZ.alike Ar333.2.1) (g := (mkF m 4 #[rv a0, rv a1, iv p2, iv (2 : Int32), iv ((4 : Int32) + c1)] [(.ref a1), (.int (2 : Int32))])) rfl rfl (hb hby d8_4) _ ?_
  rw [len_of S333 N333]
  show AT p e below T172 m 5 #[rv a0, rv a1, iv p2, iv (2 : Int32), iv ((4 : Int32) + c1)] [(.int (2 : Int32)), (.int (2 : Int32))] _
  refine XS.icmpYes X172.here hx rfl (pc0 := 5) (pc' := 132) rfl (hb hby d8_5) rfl (XT.ii_ge_t ((by decide) : ¬ ((2 : Int32) < (2 : Int32)))) (by decide) (by decide) ?_
  exact X172.returnOut hx Bd.returns (hb hby d8_132) hr
 ·
  show Q8_4 Z a0 a1 p2 sh kk c0 c1 fa ca kf kc f0 f1 f2 f3 f4 f5 f6 f7 k0 k1 k2 k3 k4 k5 k6 k7 h0 n0 _ T172.heap _
  rw [e172]
  exact ⟨rfl, N172, K172, (by have q := J172_11; rw [hKz0, hFz0, hKz1, hFz1] at q; exact q), (by have q := J172_12; rw [hKz0, hFz0, hKz1, hFz1] at q; exact q)⟩

theorem ef_10_4_0 (m : MethodId) (a0 : Addr) (p2 : Int32) : entryFrame m #[(.ref a0), (.int (0 : Int32)), (.int p2)] 3 = mkF m 0 #[rv a0, iv (0 : Int32), iv p2] [] := by first | (simp [entryFrame, mkF, argsToLocals, Value.category]; done) | rfl
def Q10_4_0 (Z : State) (a0 : Addr) (p2 : Int32) (sh : Addr) (ca : Addr) (kc : ClassId) (k0 : Int64) (k1 : Int64) (k2 : Int64) (k3 : Int64) (k4 : Int64) (k5 : Int64) (k6 : Int64) (k7 : Int64) (h0 : Heap) (n0 : Nat) (v : Option Value) (h : Heap) (L : List Loc) : Prop := v = some (.long (sJ4 p2 k0 k1 k2 k3)) ∧ Fr n0 L ∧ h = h0
abbrev R10_4_0 : Room := ({ frames := 1, cells := 0, slots := 0, locals := 14 } : Room)
set_option maxRecDepth 65536 in
set_option maxHeartbeats 40000000 in
theorem rm10_4_0 (l : Launch) (Z : State) (ar : Array Value) (hw : ∀ d ∈ tables_1, d.before ar Z = true) (ws : List Jvm.Cond) (a0 : Addr) (p2 : Int32) (sh : Addr) (ca : Addr) (kc : ClassId) (k0 : Int64) (k1 : Int64) (k2 : Int64) (k3 : Int64) (k4 : Int64) (k5 : Int64) (k6 : Int64) (k7 : Int64) (h0 : Heap) (n0 : Nat) (O0 : Old Z n0 h0) (pf0 : Exa Z h0 a0 "com/example/filters_under_siege/filtersundersiege/KeeperPairs") (pf1 : Fld Z h0 a0 "com/example/filters_under_siege/filtersundersiege/KeeperPairs" "shape" "Lcom/example/filters_under_siege/filtersundersiege/SketchShape;" (.ref sh)) (pf2 : Exa Z h0 sh "com/example/filters_under_siege/filtersundersiege/SketchShape") (pf3 : Fld Z h0 sh "com/example/filters_under_siege/filtersundersiege/SketchShape" "width" "I" (.int (4 : Int32))) (pf4 : Fld Z h0 a0 "com/example/filters_under_siege/filtersundersiege/KeeperPairs" "counts" "[J" (.ref ca)) (pf5 : Arv Z h0 ca kc .long (8 : Int32) [(.long k0), (.long k1), (.long k2), (.long k3), (.long k4), (.long k5), (.long k6), (.long k7)] (.long (0 : Int64))) (hp2 : p2 = (0 : Int32) ∨ p2 = (1 : Int32) ∨ p2 = (2 : Int32) ∨ p2 = (3 : Int32)) :
    MetFree l y10 (head1 (Jvm.Cond.code y10 prog_26_method_6_code 3 (some .long) :: ws) R10_4_0) (fun a U => a = #[(.ref a0), (.int (0 : Int32)), (.int p2)] ∧ Z.Warmed39 U.vm ∧ U.heap = h0) (fun _ _ _ _ _ => True) (fun _ U o U' => ∃ v L, o = .returned v ∧ Q10_4_0 Z a0 p2 sh ca kc k0 k1 k2 k3 k4 k5 k6 k7 h0 n0 v U'.heap L ∧ FrameEnd U o U' L R10_4_0.cells R10_4_0.slots) := by
 refine MetFree.of_bodySF (plainFor_of_name pn_3) hisR ?_
 intro p e s m args below meth c s₁ Bd hml0 hP hK
 obtain ⟨rfl, hZ, hh⟩ := hP
 have hx := Bd.exec
 have hby := Bd.bytes
 have hml : c.maxLocals = 3 := hml0
 have hown : s.vm.findClass "com/example/filters_under_siege/filtersundersiege/KeeperPairs" = some m.cls := findClass_of_methodNamed Bd.named
 have hnm := (name_of_methodNamed Bd.named Bd.method).1
 have hlk : meth.locks = false := by first | assumption | exact BodyLoose.notSynchronized (by assumption) | exact Body.notSynchronized (by assumption)
 have X0 : Stand p l e R10_4_0 s m #[(.ref a0), (.int (0 : Int32)), (.int p2)] below meth c s₁ [] 0 0 := Stand.of_body Bd
 have e0 : s₁.heap = h0 := by rw [← hh, Bd.state]; rfl
 have N0 := Fr.nil n0
 have Z0 : n0 ≤ h0.size := Nat.le_trans (Nat.le_of_eq O0.1.symm) O0.2.1
 obtain ⟨S0, hS0⟩ : ∃ z, z = s₁.setTop (entryFrame m #[(.ref a0), (.int (0 : Int32)), (.int p2)] 3) := ⟨_, rfl⟩
 have pre0 : ∀ tg, AT p e below s₁ m 0 #[rv a0, iv (0 : Int32), iv p2] [] tg → Steps p.tables e below S0 tg := fun tg kg => by rw [hS0]; exact castTop (ef_10_4_0 m a0 p2) kg
 obtain ⟨T1, X1, e1, st1⟩ := getF X0 hx hZ hown (host := "") (Or.inl (ow hw 60 rfl)) Via.refl e0 pf4 (g := (mkF m 1 #[rv a0, iv (0 : Int32), iv p2] [(.ref a0)])) rfl rfl (hb hby d10_1)
 obtain ⟨T2, X2, e2, st2⟩ := getF X1 hx hZ hown (host := "") (Or.inl (ow hw 48 rfl)) Via.refl e1 pf1 (g := (mkF m 6 #[rv a0, iv (0 : Int32), iv p2] [(.ref a0), (.int (0 : Int32)), (.ref ca)])) rfl rfl (hb hby d10_6)
 obtain ⟨cq3, kq3, q3a, q3b, q3c⟩ := isOf hZ e2 pf2
 obtain ⟨_, _, ⟨T3, L3, k3, n3⟩, -, X3, ⟨Lc3, hQ3, l3, y3, z3⟩, st3⟩ := X2.virtualBack hx (y := y9) (z := y9) hown (mvT hZ (ow hw 67 rfl)) (mvT hZ (ow hw 68 rfl)) (notFace_of_selects (args := #[]) (mvT hZ (ow hw 70 rfl))) (mvT hZ (ow hw 70 rfl)) (mvT hZ (ow hw 69 rfl)) (by decide) (backOf (W := 2) (rm9 l Z ar hw [] sh _ h0 n0 O0 pf3) hZ (ow hw 71 rfl) (ow hw 7 rfl) (by decide) (by decide)) q3a q3c (g := (mkF m 9 #[rv a0, iv (0 : Int32), iv p2] [(.ref sh), (.int (0 : Int32)), (.ref ca)])) rfl (by rw [hml]; rfl) (Steps.refl _) (argsL := []) (rest := [(.int (0 : Int32)), (.ref ca)]) (lenOf pd_2 rfl) rfl (by show 2 * 0 + _ ≤ _; exact Nat.le_of_eq rfl) (hb hby d10_9) (fun _ _ => ⟨rfl, e2, (by decide : 0 + 0 ≤ _), (by decide : 0 + 0 ≤ _)⟩)
 dsimp only [Pt.U, Pt.locs, Pt.cells, Pt.slots] at X3 l3 y3 z3 st3 hQ3
 subst l3 y3 z3
 obtain ⟨rfl, N3q, e3⟩ := hQ3
 have N3 := Fr.app N0 N3q
 obtain ⟨cl4, Ar4, q4, S4, N4, H4, G4⟩ := id pf5
 have hin4 := own_in ((0 : Int32) + p2) S4 (own_b4_0 hp2)
 have hat4 : cl4.slots[(((0 : Int32) + p2)).toNatClampNeg]? = some (.long (sJ4 p2 k0 k1 k2 k3)) := Has.at H4 hin4 (own_gJ4_0 hp2)
 obtain ⟨fs, hr, hrun, hended, hW, hsame⟩ := X3.leave (v := some (.long (sJ4 p2 k0 k1 k2 k3))) (fun h => by rw [Bd.returns] at h; cases h) hlk
 subst hS0
 refine ⟨_, _, pre0 _ ?_, hrun, hended, _, _, rfl, ?_, ⟨_, rfl⟩, hW, hsame.mono (by decide) (by decide)⟩
 ·
  refine XS.aloadN X0.here hx rfl (hb hby d10_0) rfl rfl ?_
  refine st1 _ ?_
  refine XS.iloadN X1.here hx rfl (hb hby d10_4) rfl ?_
  refine XS.aloadN X1.here hx rfl (hb hby d10_5) rfl rfl ?_
  refine st2 _ ?_
  refine st3.trans ?_
  refine XS.imul X3.here hx rfl (hb hby d10_12) rfl ?_
  refine XS.iloadN X3.here hx rfl (hb hby d10_13) rfl ?_
  refine XS.iadd X3.here hx rfl (hb hby d10_14) rfl ?_
  refine X3.laload hx (j := ((0 : Int32) + p2)) (v := (.long (sJ4 p2 k0 k1 k2 k3))) (by rw [e3]; exact Ar4.1) (State.isArrayOf_alike hZ.alike Ar4.2.1) Ar4.2.2 hin4 hat4 (g := (mkF m 15 #[rv a0, iv (0 : Int32), iv p2] [(.int ((0 : Int32) + p2)), (.ref ca)])) rfl rfl (hb hby d10_15) _ ?_
  exact retOut X3 hx (t := .long) (i := .lreturn) Bd.returns rfl (Or.inr (Or.inl ⟨rfl, rfl, _, rfl⟩)) (hb hby d10_16) hr
 ·
  show Q10_4_0 Z a0 p2 sh ca kc k0 k1 k2 k3 k4 k5 k6 k7 h0 n0 _ T3.heap _
  rw [e3]
  exact ⟨rfl, N3, rfl⟩

theorem ef_10_4_1 (m : MethodId) (a0 : Addr) (p2 : Int32) : entryFrame m #[(.ref a0), (.int (1 : Int32)), (.int p2)] 3 = mkF m 0 #[rv a0, iv (1 : Int32), iv p2] [] := by first | (simp [entryFrame, mkF, argsToLocals, Value.category]; done) | rfl
def Q10_4_1 (Z : State) (a0 : Addr) (p2 : Int32) (sh : Addr) (ca : Addr) (kc : ClassId) (k0 : Int64) (k1 : Int64) (k2 : Int64) (k3 : Int64) (k4 : Int64) (k5 : Int64) (k6 : Int64) (k7 : Int64) (h0 : Heap) (n0 : Nat) (v : Option Value) (h : Heap) (L : List Loc) : Prop := v = some (.long (sJ4 p2 k4 k5 k6 k7)) ∧ Fr n0 L ∧ h = h0
abbrev R10_4_1 : Room := ({ frames := 1, cells := 0, slots := 0, locals := 14 } : Room)
set_option maxRecDepth 65536 in
set_option maxHeartbeats 40000000 in
theorem rm10_4_1 (l : Launch) (Z : State) (ar : Array Value) (hw : ∀ d ∈ tables_1, d.before ar Z = true) (ws : List Jvm.Cond) (a0 : Addr) (p2 : Int32) (sh : Addr) (ca : Addr) (kc : ClassId) (k0 : Int64) (k1 : Int64) (k2 : Int64) (k3 : Int64) (k4 : Int64) (k5 : Int64) (k6 : Int64) (k7 : Int64) (h0 : Heap) (n0 : Nat) (O0 : Old Z n0 h0) (pf0 : Exa Z h0 a0 "com/example/filters_under_siege/filtersundersiege/KeeperPairs") (pf1 : Fld Z h0 a0 "com/example/filters_under_siege/filtersundersiege/KeeperPairs" "shape" "Lcom/example/filters_under_siege/filtersundersiege/SketchShape;" (.ref sh)) (pf2 : Exa Z h0 sh "com/example/filters_under_siege/filtersundersiege/SketchShape") (pf3 : Fld Z h0 sh "com/example/filters_under_siege/filtersundersiege/SketchShape" "width" "I" (.int (4 : Int32))) (pf4 : Fld Z h0 a0 "com/example/filters_under_siege/filtersundersiege/KeeperPairs" "counts" "[J" (.ref ca)) (pf5 : Arv Z h0 ca kc .long (8 : Int32) [(.long k0), (.long k1), (.long k2), (.long k3), (.long k4), (.long k5), (.long k6), (.long k7)] (.long (0 : Int64))) (hp2 : p2 = (0 : Int32) ∨ p2 = (1 : Int32) ∨ p2 = (2 : Int32) ∨ p2 = (3 : Int32)) :
    MetFree l y10 (head1 (Jvm.Cond.code y10 prog_26_method_6_code 3 (some .long) :: ws) R10_4_1) (fun a U => a = #[(.ref a0), (.int (1 : Int32)), (.int p2)] ∧ Z.Warmed39 U.vm ∧ U.heap = h0) (fun _ _ _ _ _ => True) (fun _ U o U' => ∃ v L, o = .returned v ∧ Q10_4_1 Z a0 p2 sh ca kc k0 k1 k2 k3 k4 k5 k6 k7 h0 n0 v U'.heap L ∧ FrameEnd U o U' L R10_4_1.cells R10_4_1.slots) := by
 refine MetFree.of_bodySF (plainFor_of_name pn_3) hisR ?_
 intro p e s m args below meth c s₁ Bd hml0 hP hK
 obtain ⟨rfl, hZ, hh⟩ := hP
 have hx := Bd.exec
 have hby := Bd.bytes
 have hml : c.maxLocals = 3 := hml0
 have hown : s.vm.findClass "com/example/filters_under_siege/filtersundersiege/KeeperPairs" = some m.cls := findClass_of_methodNamed Bd.named
 have hnm := (name_of_methodNamed Bd.named Bd.method).1
 have hlk : meth.locks = false := by first | assumption | exact BodyLoose.notSynchronized (by assumption) | exact Body.notSynchronized (by assumption)
 have X0 : Stand p l e R10_4_1 s m #[(.ref a0), (.int (1 : Int32)), (.int p2)] below meth c s₁ [] 0 0 := Stand.of_body Bd
 have e0 : s₁.heap = h0 := by rw [← hh, Bd.state]; rfl
 have N0 := Fr.nil n0
 have Z0 : n0 ≤ h0.size := Nat.le_trans (Nat.le_of_eq O0.1.symm) O0.2.1
 obtain ⟨S0, hS0⟩ : ∃ z, z = s₁.setTop (entryFrame m #[(.ref a0), (.int (1 : Int32)), (.int p2)] 3) := ⟨_, rfl⟩
 have pre0 : ∀ tg, AT p e below s₁ m 0 #[rv a0, iv (1 : Int32), iv p2] [] tg → Steps p.tables e below S0 tg := fun tg kg => by rw [hS0]; exact castTop (ef_10_4_1 m a0 p2) kg
 obtain ⟨T1, X1, e1, st1⟩ := getF X0 hx hZ hown (host := "") (Or.inl (ow hw 60 rfl)) Via.refl e0 pf4 (g := (mkF m 1 #[rv a0, iv (1 : Int32), iv p2] [(.ref a0)])) rfl rfl (hb hby d10_1)
 obtain ⟨T2, X2, e2, st2⟩ := getF X1 hx hZ hown (host := "") (Or.inl (ow hw 48 rfl)) Via.refl e1 pf1 (g := (mkF m 6 #[rv a0, iv (1 : Int32), iv p2] [(.ref a0), (.int (1 : Int32)), (.ref ca)])) rfl rfl (hb hby d10_6)
 obtain ⟨cq3, kq3, q3a, q3b, q3c⟩ := isOf hZ e2 pf2
 obtain ⟨_, _, ⟨T3, L3, k3, n3⟩, -, X3, ⟨Lc3, hQ3, l3, y3, z3⟩, st3⟩ := X2.virtualBack hx (y := y9) (z := y9) hown (mvT hZ (ow hw 67 rfl)) (mvT hZ (ow hw 68 rfl)) (notFace_of_selects (args := #[]) (mvT hZ (ow hw 70 rfl))) (mvT hZ (ow hw 70 rfl)) (mvT hZ (ow hw 69 rfl)) (by decide) (backOf (W := 2) (rm9 l Z ar hw [] sh _ h0 n0 O0 pf3) hZ (ow hw 71 rfl) (ow hw 7 rfl) (by decide) (by decide)) q3a q3c (g := (mkF m 9 #[rv a0, iv (1 : Int32), iv p2] [(.ref sh), (.int (1 : Int32)), (.ref ca)])) rfl (by rw [hml]; rfl) (Steps.refl _) (argsL := []) (rest := [(.int (1 : Int32)), (.ref ca)]) (lenOf pd_2 rfl) rfl (by show 2 * 0 + _ ≤ _; exact Nat.le_of_eq rfl) (hb hby d10_9) (fun _ _ => ⟨rfl, e2, (by decide : 0 + 0 ≤ _), (by decide : 0 + 0 ≤ _)⟩)
 dsimp only [Pt.U, Pt.locs, Pt.cells, Pt.slots] at X3 l3 y3 z3 st3 hQ3
 subst l3 y3 z3
 obtain ⟨rfl, N3q, e3⟩ := hQ3
 have N3 := Fr.app N0 N3q
 obtain ⟨cl4, Ar4, q4, S4, N4, H4, G4⟩ := id pf5
 have hin4 := own_in ((4 : Int32) + p2) S4 (own_b4_4 hp2)
 have hat4 : cl4.slots[(((4 : Int32) + p2)).toNatClampNeg]? = some (.long (sJ4 p2 k4 k5 k6 k7)) := Has.at H4 hin4 (own_gJ4_4 hp2)
 obtain ⟨fs, hr, hrun, hended, hW, hsame⟩ := X3.leave (v := some (.long (sJ4 p2 k4 k5 k6 k7))) (fun h => by rw [Bd.returns] at h; cases h) hlk
 subst hS0
 refine ⟨_, _, pre0 _ ?_, hrun, hended, _, _, rfl, ?_, ⟨_, rfl⟩, hW, hsame.mono (by decide) (by decide)⟩
 ·
  refine XS.aloadN X0.here hx rfl (hb hby d10_0) rfl rfl ?_
  refine st1 _ ?_
  refine XS.iloadN X1.here hx rfl (hb hby d10_4) rfl ?_
  refine XS.aloadN X1.here hx rfl (hb hby d10_5) rfl rfl ?_
  refine st2 _ ?_
  refine st3.trans ?_
  refine XS.imul X3.here hx rfl (hb hby d10_12) rfl ?_
  refine XS.iloadN X3.here hx rfl (hb hby d10_13) rfl ?_
  refine XS.iadd X3.here hx rfl (hb hby d10_14) rfl ?_
  refine X3.laload hx (j := ((4 : Int32) + p2)) (v := (.long (sJ4 p2 k4 k5 k6 k7))) (by rw [e3]; exact Ar4.1) (State.isArrayOf_alike hZ.alike Ar4.2.1) Ar4.2.2 hin4 hat4 (g := (mkF m 15 #[rv a0, iv (1 : Int32), iv p2] [(.int ((4 : Int32) + p2)), (.ref ca)])) rfl rfl (hb hby d10_15) _ ?_
  exact retOut X3 hx (t := .long) (i := .lreturn) Bd.returns rfl (Or.inr (Or.inl ⟨rfl, rfl, _, rfl⟩)) (hb hby d10_16) hr
 ·
  show Q10_4_1 Z a0 p2 sh ca kc k0 k1 k2 k3 k4 k5 k6 k7 h0 n0 _ T3.heap _
  rw [e3]
  exact ⟨rfl, N3, rfl⟩

theorem own_selI1 {c z : Int32} {v x0 : Int32} (hc : c = (0 : Int32)) (hz : z = (0 : Int32)) : sI1 z (pI c (0 : Int32) v x0) = if z = c then v else sI1 z x0 := by
  rcases hc with rfl <;> rcases hz with rfl <;> simp [sI1, pI]
theorem own_s0I1 (z : Int32) : sI1 z (0 : Int32) = (0 : Int32) := by unfold sI1; (repeat' split) <;> rfl
theorem own_selJ1 {c z : Int32} {v x0 : Int64} (hc : c = (0 : Int32)) (hz : z = (0 : Int32)) : sJ1 z (pJ c (0 : Int32) v x0) = if z = c then v else sJ1 z x0 := by
  rcases hc with rfl <;> rcases hz with rfl <;> simp [sJ1, pJ]
theorem own_s0J1 (z : Int32) : sJ1 z (0 : Int64) = (0 : Int64) := by unfold sJ1; (repeat' split) <;> rfl
theorem own_nc0_1 {c F f : Int32} : nc (sJ1 c (0 : Int64)) F f = (1 : Int64) := by rw [own_s0J1, nc, if_pos rfl]; rfl
theorem own_nf0_1 {c F f : Int32} : nf (sJ1 c (0 : Int64)) F f = f := by rw [own_s0J1, nf, if_pos rfl]
theorem own_selI2 {c z : Int32} {v x0 x1 : Int32} (hc : c = (0 : Int32) ∨ c = (1 : Int32)) (hz : z = (0 : Int32) ∨ z = (1 : Int32)) : sI2 z (pI c (0 : Int32) v x0) (pI c (1 : Int32) v x1) = if z = c then v else sI2 z x0 x1 := by
  have e0_1 : ¬ (0 : Int32) = (1 : Int32) := by decide
  have e1_0 : ¬ (1 : Int32) = (0 : Int32) := by decide
  rcases hc with rfl | rfl <;> rcases hz with rfl | rfl <;> simp [sI2, pI, e0_1, e1_0]
theorem own_s0I2 (z : Int32) : sI2 z (0 : Int32) (0 : Int32) = (0 : Int32) := by unfold sI2; (repeat' split) <;> rfl
theorem own_selJ2 {c z : Int32} {v x0 x1 : Int64} (hc : c = (0 : Int32) ∨ c = (1 : Int32)) (hz : z = (0 : Int32) ∨ z = (1 : Int32)) : sJ2 z (pJ c (0 : Int32) v x0) (pJ c (1 : Int32) v x1) = if z = c then v else sJ2 z x0 x1 := by
  have e0_1 : ¬ (0 : Int32) = (1 : Int32) := by decide
  have e1_0 : ¬ (1 : Int32) = (0 : Int32) := by decide
  rcases hc with rfl | rfl <;> rcases hz with rfl | rfl <;> simp [sJ2, pJ, e0_1, e1_0]
theorem own_s0J2 (z : Int32) : sJ2 z (0 : Int64) (0 : Int64) = (0 : Int64) := by unfold sJ2; (repeat' split) <;> rfl
theorem own_nc0_2 {c F f : Int32} : nc (sJ2 c (0 : Int64) (0 : Int64)) F f = (1 : Int64) := by rw [own_s0J2, nc, if_pos rfl]; rfl
theorem own_nf0_2 {c F f : Int32} : nf (sJ2 c (0 : Int64) (0 : Int64)) F f = f := by rw [own_s0J2, nf, if_pos rfl]
theorem own_selI3 {c z : Int32} {v x0 x1 x2 : Int32} (hc : c = (0 : Int32) ∨ c = (1 : Int32) ∨ c = (2 : Int32)) (hz : z = (0 : Int32) ∨ z = (1 : Int32) ∨ z = (2 : Int32)) : sI3 z (pI c (0 : Int32) v x0) (pI c (1 : Int32) v x1) (pI c (2 : Int32) v x2) = if z = c then v else sI3 z x0 x1 x2 := by
  have e0_1 : ¬ (0 : Int32) = (1 : Int32) := by decide
  have e0_2 : ¬ (0 : Int32) = (2 : Int32) := by decide
  have e1_0 : ¬ (1 : Int32) = (0 : Int32) := by decide
  have e1_2 : ¬ (1 : Int32) = (2 : Int32) := by decide
  have e2_0 : ¬ (2 : Int32) = (0 : Int32) := by decide
  have e2_1 : ¬ (2 : Int32) = (1 : Int32) := by decide
  rcases hc with rfl | rfl | rfl <;> rcases hz with rfl | rfl | rfl <;> simp [sI3, pI, e0_1, e0_2, e1_0, e1_2, e2_0, e2_1]
theorem own_s0I3 (z : Int32) : sI3 z (0 : Int32) (0 : Int32) (0 : Int32) = (0 : Int32) := by unfold sI3; (repeat' split) <;> rfl
theorem own_selJ3 {c z : Int32} {v x0 x1 x2 : Int64} (hc : c = (0 : Int32) ∨ c = (1 : Int32) ∨ c = (2 : Int32)) (hz : z = (0 : Int32) ∨ z = (1 : Int32) ∨ z = (2 : Int32)) : sJ3 z (pJ c (0 : Int32) v x0) (pJ c (1 : Int32) v x1) (pJ c (2 : Int32) v x2) = if z = c then v else sJ3 z x0 x1 x2 := by
  have e0_1 : ¬ (0 : Int32) = (1 : Int32) := by decide
  have e0_2 : ¬ (0 : Int32) = (2 : Int32) := by decide
  have e1_0 : ¬ (1 : Int32) = (0 : Int32) := by decide
  have e1_2 : ¬ (1 : Int32) = (2 : Int32) := by decide
  have e2_0 : ¬ (2 : Int32) = (0 : Int32) := by decide
  have e2_1 : ¬ (2 : Int32) = (1 : Int32) := by decide
  rcases hc with rfl | rfl | rfl <;> rcases hz with rfl | rfl | rfl <;> simp [sJ3, pJ, e0_1, e0_2, e1_0, e1_2, e2_0, e2_1]
theorem own_s0J3 (z : Int32) : sJ3 z (0 : Int64) (0 : Int64) (0 : Int64) = (0 : Int64) := by unfold sJ3; (repeat' split) <;> rfl
theorem own_nc0_3 {c F f : Int32} : nc (sJ3 c (0 : Int64) (0 : Int64) (0 : Int64)) F f = (1 : Int64) := by rw [own_s0J3, nc, if_pos rfl]; rfl
theorem own_nf0_3 {c F f : Int32} : nf (sJ3 c (0 : Int64) (0 : Int64) (0 : Int64)) F f = f := by rw [own_s0J3, nf, if_pos rfl]
theorem own_selI4 {c z : Int32} {v x0 x1 x2 x3 : Int32} (hc : c = (0 : Int32) ∨ c = (1 : Int32) ∨ c = (2 : Int32) ∨ c = (3 : Int32)) (hz : z = (0 : Int32) ∨ z = (1 : Int32) ∨ z = (2 : Int32) ∨ z = (3 : Int32)) : sI4 z (pI c (0 : Int32) v x0) (pI c (1 : Int32) v x1) (pI c (2 : Int32) v x2) (pI c (3 : Int32) v x3) = if z = c then v else sI4 z x0 x1 x2 x3 := by
  have e0_1 : ¬ (0 : Int32) = (1 : Int32) := by decide
  have e0_2 : ¬ (0 : Int32) = (2 : Int32) := by decide
  have e0_3 : ¬ (0 : Int32) = (3 : Int32) := by decide
  have e1_0 : ¬ (1 : Int32) = (0 : Int32) := by decide
  have e1_2 : ¬ (1 : Int32) = (2 : Int32) := by decide
  have e1_3 : ¬ (1 : Int32) = (3 : Int32) := by decide
  have e2_0 : ¬ (2 : Int32) = (0 : Int32) := by decide
  have e2_1 : ¬ (2 : Int32) = (1 : Int32) := by decide
  have e2_3 : ¬ (2 : Int32) = (3 : Int32) := by decide
  have e3_0 : ¬ (3 : Int32) = (0 : Int32) := by decide
  have e3_1 : ¬ (3 : Int32) = (1 : Int32) := by decide
  have e3_2 : ¬ (3 : Int32) = (2 : Int32) := by decide
  rcases hc with rfl | rfl | rfl | rfl <;> rcases hz with rfl | rfl | rfl | rfl <;> simp [sI4, pI, e0_1, e0_2, e0_3, e1_0, e1_2, e1_3, e2_0, e2_1, e2_3, e3_0, e3_1, e3_2]
theorem own_s0I4 (z : Int32) : sI4 z (0 : Int32) (0 : Int32) (0 : Int32) (0 : Int32) = (0 : Int32) := by unfold sI4; (repeat' split) <;> rfl
theorem own_selJ4 {c z : Int32} {v x0 x1 x2 x3 : Int64} (hc : c = (0 : Int32) ∨ c = (1 : Int32) ∨ c = (2 : Int32) ∨ c = (3 : Int32)) (hz : z = (0 : Int32) ∨ z = (1 : Int32) ∨ z = (2 : Int32) ∨ z = (3 : Int32)) : sJ4 z (pJ c (0 : Int32) v x0) (pJ c (1 : Int32) v x1) (pJ c (2 : Int32) v x2) (pJ c (3 : Int32) v x3) = if z = c then v else sJ4 z x0 x1 x2 x3 := by
  have e0_1 : ¬ (0 : Int32) = (1 : Int32) := by decide
  have e0_2 : ¬ (0 : Int32) = (2 : Int32) := by decide
  have e0_3 : ¬ (0 : Int32) = (3 : Int32) := by decide
  have e1_0 : ¬ (1 : Int32) = (0 : Int32) := by decide
  have e1_2 : ¬ (1 : Int32) = (2 : Int32) := by decide
  have e1_3 : ¬ (1 : Int32) = (3 : Int32) := by decide
  have e2_0 : ¬ (2 : Int32) = (0 : Int32) := by decide
  have e2_1 : ¬ (2 : Int32) = (1 : Int32) := by decide
  have e2_3 : ¬ (2 : Int32) = (3 : Int32) := by decide
  have e3_0 : ¬ (3 : Int32) = (0 : Int32) := by decide
  have e3_1 : ¬ (3 : Int32) = (1 : Int32) := by decide
  have e3_2 : ¬ (3 : Int32) = (2 : Int32) := by decide
  rcases hc with rfl | rfl | rfl | rfl <;> rcases hz with rfl | rfl | rfl | rfl <;> simp [sJ4, pJ, e0_1, e0_2, e0_3, e1_0, e1_2, e1_3, e2_0, e2_1, e2_3, e3_0, e3_1, e3_2]
theorem own_s0J4 (z : Int32) : sJ4 z (0 : Int64) (0 : Int64) (0 : Int64) (0 : Int64) = (0 : Int64) := by unfold sJ4; (repeat' split) <;> rfl
theorem own_nc0_4 {c F f : Int32} : nc (sJ4 c (0 : Int64) (0 : Int64) (0 : Int64) (0 : Int64)) F f = (1 : Int64) := by rw [own_s0J4, nc, if_pos rfl]; rfl
theorem own_nf0_4 {c F f : Int32} : nf (sJ4 c (0 : Int64) (0 : Int64) (0 : Int64) (0 : Int64)) F f = f := by rw [own_s0J4, nf, if_pos rfl]

theorem own_nff {K : Int64} {f : Int32} : nf K f f = f := by unfold nf; (repeat' split) <;> rfl
theorem own_ncf {K : Int64} {f : Int32} : nc K f f = K + (1 : Int64) := by
  unfold nc
  rcases Decidable.em (K = (0 : Int64)) with q | q
  · rw [if_pos q]
  · rw [if_neg q, if_pos rfl]
def Sp (na sm c d z : Int32) (v : Int64) : Prop := (¬ z = d → z = c → v = (na.toInt64)) ∧ (¬ z = d → ¬ z = c → v = (0 : Int64)) ∧ (z = d → ¬ z = c → v = (1 : Int64)) ∧ (z = d → z = c → ¬ sm = (0 : Int32) → v = ((na + (1 : Int32)).toInt64)) ∧ (z = d → z = c → sm = (0 : Int32) → ¬ (1 : Int32) < na → v = (1 : Int64)) ∧ (z = d → z = c → sm = (0 : Int32) → (1 : Int32) < na → v = ((na - (1 : Int32)).toInt64))
theorem own_fb {sm f b : Int32} (h : b = if sm = (0 : Int32) then (f + (1 : Int32)) else f) : (sm = (0 : Int32) ∧ b = f + (1 : Int32)) ∨ (¬ sm = (0 : Int32) ∧ b = f) := by
  rcases Decidable.em (sm = (0 : Int32)) with q | q
  · rw [if_pos q] at h; exact Or.inl ⟨q, h⟩
  · rw [if_neg q] at h; exact Or.inr ⟨q, h⟩
theorem own_fne (f : Int32) : ¬ f = f + (1 : Int32) := fun h => by
  have a := c_iadd f (1 : Int32)
  rw [← h] at a
  have o : ((1 : Int32)).toInt = 1 := rfl
  rw [o] at a
  omega
theorem own_Sp0 {sm c d z : Int32} : Sp (0 : Int32) sm c d z (if z = d then (1 : Int64) else (0 : Int64)) := by
  refine ⟨fun a _ => ?_, fun a _ => ?_, fun a _ => ?_, fun a _ _ => ?_, fun a _ _ _ => ?_, fun a _ _ q => absurd q (by decide)⟩ <;> first | (rw [if_pos a]; done) | (rw [if_neg a]; done) | (rw [if_pos a]; rfl) | (rw [if_neg a]; rfl)

theorem own_Sp1 {sm c d z f b : Int32} (hb : (sm = (0 : Int32) ∧ b = f + (1 : Int32)) ∨ (¬ sm = (0 : Int32) ∧ b = f)) : Sp (1 : Int32) sm c d z (if z = d then nc (if d = c then (1 : Int64) else (0 : Int64)) (if d = c then f else (0 : Int32)) b else (if z = c then (1 : Int64) else (0 : Int64))) := by
  refine ⟨fun a e => ?_, fun a e => ?_, fun a e => ?_, fun a e q => ?_, fun a e q r => ?_, fun a e q r => ?_⟩
  · rw [if_neg a, if_pos e]; rfl
  · rw [if_neg a, if_neg e]
  · rw [if_pos a, if_neg (fun y => e (a.trans y)), nc, if_pos rfl]; rfl
  · have y : d = c := a.symm.trans e
    rcases hb with ⟨s0, -⟩ | ⟨-, rfl⟩
    · exact absurd s0 q
    · rw [if_pos a, if_pos y, if_pos y, own_ncf]; rfl
  · have y : d = c := a.symm.trans e
    rcases hb with ⟨-, rfl⟩ | ⟨s0, -⟩
    · rw [if_pos a, if_pos y, if_pos y, nc, if_neg (by decide), if_neg (own_fne f)]; decide
    · exact absurd q s0
  · have y : d = c := a.symm.trans e
    rcases hb with ⟨-, rfl⟩ | ⟨s0, -⟩
    · rw [if_pos a, if_pos y, if_pos y, nc, if_neg (by decide), if_neg (own_fne f)]; exact absurd r (by decide)
    · exact absurd q s0

theorem own_Sp2 {sm c d z f b : Int32} (hb : (sm = (0 : Int32) ∧ b = f + (1 : Int32)) ∨ (¬ sm = (0 : Int32) ∧ b = f)) : Sp (2 : Int32) sm c d z (if z = d then nc (if d = c then (2 : Int64) else (0 : Int64)) (if d = c then f else (0 : Int32)) b else (if z = c then (2 : Int64) else (0 : Int64))) := by
  refine ⟨fun a e => ?_, fun a e => ?_, fun a e => ?_, fun a e q => ?_, fun a e q r => ?_, fun a e q r => ?_⟩
  · rw [if_neg a, if_pos e]; rfl
  · rw [if_neg a, if_neg e]
  · rw [if_pos a, if_neg (fun y => e (a.trans y)), nc, if_pos rfl]; rfl
  · have y : d = c := a.symm.trans e
    rcases hb with ⟨s0, -⟩ | ⟨-, rfl⟩
    · exact absurd s0 q
    · rw [if_pos a, if_pos y, if_pos y, own_ncf]; rfl
  · have y : d = c := a.symm.trans e
    rcases hb with ⟨-, rfl⟩ | ⟨s0, -⟩
    · rw [if_pos a, if_pos y, if_pos y, nc, if_neg (by decide), if_neg (own_fne f)]; exact absurd (by decide) r
    · exact absurd q s0
  · have y : d = c := a.symm.trans e
    rcases hb with ⟨-, rfl⟩ | ⟨s0, -⟩
    · rw [if_pos a, if_pos y, if_pos y, nc, if_neg (by decide), if_neg (own_fne f)]; decide
    · exact absurd q s0

theorem own_Sp3 {sm c d z f b : Int32} (hb : (sm = (0 : Int32) ∧ b = f + (1 : Int32)) ∨ (¬ sm = (0 : Int32) ∧ b = f)) : Sp (3 : Int32) sm c d z (if z = d then nc (if d = c then (3 : Int64) else (0 : Int64)) (if d = c then f else (0 : Int32)) b else (if z = c then (3 : Int64) else (0 : Int64))) := by
  refine ⟨fun a e => ?_, fun a e => ?_, fun a e => ?_, fun a e q => ?_, fun a e q r => ?_, fun a e q r => ?_⟩
  · rw [if_neg a, if_pos e]; rfl
  · rw [if_neg a, if_neg e]
  · rw [if_pos a, if_neg (fun y => e (a.trans y)), nc, if_pos rfl]; rfl
  · have y : d = c := a.symm.trans e
    rcases hb with ⟨s0, -⟩ | ⟨-, rfl⟩
    · exact absurd s0 q
    · rw [if_pos a, if_pos y, if_pos y, own_ncf]; rfl
  · have y : d = c := a.symm.trans e
    rcases hb with ⟨-, rfl⟩ | ⟨s0, -⟩
    · rw [if_pos a, if_pos y, if_pos y, nc, if_neg (by decide), if_neg (own_fne f)]; exact absurd (by decide) r
    · exact absurd q s0
  · have y : d = c := a.symm.trans e
    rcases hb with ⟨-, rfl⟩ | ⟨s0, -⟩
    · rw [if_pos a, if_pos y, if_pos y, nc, if_neg (by decide), if_neg (own_fne f)]; decide
    · exact absurd q s0

theorem own_SpJ {na sm c d z f b : Int32} {JJ : Int64} (hJ : JJ = (na.toInt64)) (hn : na = (1 : Int32) ∨ na = (2 : Int32) ∨ na = (3 : Int32)) (hb : (sm = (0 : Int32) ∧ b = f + (1 : Int32)) ∨ (¬ sm = (0 : Int32) ∧ b = f)) : Sp na sm c d z (if z = d then nc (if d = c then JJ else (0 : Int64)) (if d = c then f else (0 : Int32)) b else (if z = c then JJ else (0 : Int64))) := by
  have e1 : ((1 : Int32).toInt64) = (1 : Int64) := by decide
  have e2 : ((2 : Int32).toInt64) = (2 : Int64) := by decide
  have e3 : ((3 : Int32).toInt64) = (3 : Int64) := by decide
  subst hJ
  rcases hn with rfl | rfl | rfl
  · rw [e1]; exact own_Sp1 hb
  · rw [e2]; exact own_Sp2 hb
  · rw [e3]; exact own_Sp3 hb
theorem own_na0 {na : Int32} (h : na = (0 : Int32) ∨ na = (1 : Int32) ∨ na = (2 : Int32) ∨ na = (3 : Int32)) (hi : na < (1 : Int32)) : na = (0 : Int32) := by
  rcases h with rfl | rfl | rfl | rfl <;> first | rfl | exact absurd hi (by decide)
theorem own_na1 {na : Int32} (h : na = (0 : Int32) ∨ na = (1 : Int32) ∨ na = (2 : Int32) ∨ na = (3 : Int32)) (lo : ¬ na < (1 : Int32)) (hi : na < (2 : Int32)) : na = (1 : Int32) := by
  rcases h with rfl | rfl | rfl | rfl <;> first | rfl | exact absurd hi (by decide) | exact absurd (by decide) lo
theorem own_na2 {na : Int32} (h : na = (0 : Int32) ∨ na = (1 : Int32) ∨ na = (2 : Int32) ∨ na = (3 : Int32)) (lo : ¬ na < (2 : Int32)) (hi : na < (3 : Int32)) : na = (2 : Int32) := by
  rcases h with rfl | rfl | rfl | rfl <;> first | rfl | exact absurd hi (by decide) | exact absurd (by decide) lo
theorem own_na3 {na : Int32} (h : na = (0 : Int32) ∨ na = (1 : Int32) ∨ na = (2 : Int32) ∨ na = (3 : Int32)) (lo : ¬ na < (3 : Int32)) : na = (3 : Int32) := by
  rcases h with rfl | rfl | rfl | rfl <;> first | rfl | exact absurd (by decide) lo
theorem own_m1 (x : Int32) : (x &&& (2147483647 : Int32)) % (1 : Int32) = (0 : Int32) := by
  have h1 := c_mask x (2147483647 : Int32) 31 (by decide) (by decide)
  have h0 : 0 ≤ x.toInt % (2 ^ 31 : Nat) := Int.emod_nonneg _ (by decide)
  have h2 := (c_irem (x &&& (2147483647 : Int32)) (1 : Int32) 1 rfl).1 (by rw [h1]; exact h0)
  have l0 : ((0 : Int32)).toInt = 0 := rfl
  simp only [← Int32.toInt_inj, l0]
  omega
theorem own_m2 (x : Int32) : (x &&& (2147483647 : Int32)) % (2 : Int32) = (0 : Int32) ∨ (x &&& (2147483647 : Int32)) % (2 : Int32) = (1 : Int32) := by
  have h1 := c_mask x (2147483647 : Int32) 31 (by decide) (by decide)
  have h0 : 0 ≤ x.toInt % (2 ^ 31 : Nat) := Int.emod_nonneg _ (by decide)
  have h2 := (c_irem (x &&& (2147483647 : Int32)) (2 : Int32) 2 rfl).1 (by rw [h1]; exact h0)
  have l0 : ((0 : Int32)).toInt = 0 := rfl
  have l1 : ((1 : Int32)).toInt = 1 := rfl
  simp only [← Int32.toInt_inj, l0, l1]
  omega
theorem own_m3 (x : Int32) : (x &&& (2147483647 : Int32)) % (3 : Int32) = (0 : Int32) ∨ (x &&& (2147483647 : Int32)) % (3 : Int32) = (1 : Int32) ∨ (x &&& (2147483647 : Int32)) % (3 : Int32) = (2 : Int32) := by
  have h1 := c_mask x (2147483647 : Int32) 31 (by decide) (by decide)
  have h0 : 0 ≤ x.toInt % (2 ^ 31 : Nat) := Int.emod_nonneg _ (by decide)
  have h2 := (c_irem (x &&& (2147483647 : Int32)) (3 : Int32) 3 rfl).1 (by rw [h1]; exact h0)
  have l0 : ((0 : Int32)).toInt = 0 := rfl
  have l1 : ((1 : Int32)).toInt = 1 := rfl
  have l2 : ((2 : Int32)).toInt = 2 := rfl
  simp only [← Int32.toInt_inj, l0, l1, l2]
  omega
theorem own_m4 (x : Int32) : (x &&& (2147483647 : Int32)) % (4 : Int32) = (0 : Int32) ∨ (x &&& (2147483647 : Int32)) % (4 : Int32) = (1 : Int32) ∨ (x &&& (2147483647 : Int32)) % (4 : Int32) = (2 : Int32) ∨ (x &&& (2147483647 : Int32)) % (4 : Int32) = (3 : Int32) := by
  have h1 := c_mask x (2147483647 : Int32) 31 (by decide) (by decide)
  have h0 : 0 ≤ x.toInt % (2 ^ 31 : Nat) := Int.emod_nonneg _ (by decide)
  have h2 := (c_irem (x &&& (2147483647 : Int32)) (4 : Int32) 4 rfl).1 (by rw [h1]; exact h0)
  have l0 : ((0 : Int32)).toInt = 0 := rfl
  have l1 : ((1 : Int32)).toInt = 1 := rfl
  have l2 : ((2 : Int32)).toInt = 2 := rfl
  have l3 : ((3 : Int32)).toInt = 3 := rfl
  simp only [← Int32.toInt_inj, l0, l1, l2, l3]
  omega

theorem own_u16_1 (x : Int32) : ((x.toUInt32 >>> ((16 : Int32) &&& 31).toUInt32).toInt32) % (1 : Int32) = (0 : Int32) := by
  have h1 := c_iushr x (16 : Int32) 16 (by decide) (by decide)
  have h3 : 0 ≤ (x.toInt % 4294967296) / (2 ^ 16 : Nat) := Int.ediv_nonneg (Int.emod_nonneg _ (by decide)) (Int.natCast_nonneg _)
  have h2 := (c_irem ((x.toUInt32 >>> ((16 : Int32) &&& 31).toUInt32).toInt32) (1 : Int32) 1 rfl).1 (by rw [h1]; exact h3)
  have l0 : ((0 : Int32)).toInt = 0 := rfl
  simp only [← Int32.toInt_inj, l0]
  omega

theorem own_u1_1 (x : Int32) : ((x.toUInt32 >>> ((1 : Int32) &&& 31).toUInt32).toInt32) % (1 : Int32) = (0 : Int32) := by
  have h1 := c_iushr x (1 : Int32) 1 (by decide) (by decide)
  have h3 : 0 ≤ (x.toInt % 4294967296) / (2 ^ 1 : Nat) := Int.ediv_nonneg (Int.emod_nonneg _ (by decide)) (Int.natCast_nonneg _)
  have h2 := (c_irem ((x.toUInt32 >>> ((1 : Int32) &&& 31).toUInt32).toInt32) (1 : Int32) 1 rfl).1 (by rw [h1]; exact h3)
  have l0 : ((0 : Int32)).toInt = 0 := rfl
  simp only [← Int32.toInt_inj, l0]
  omega

theorem own_u16_2 (x : Int32) : ((x.toUInt32 >>> ((16 : Int32) &&& 31).toUInt32).toInt32) % (2 : Int32) = (0 : Int32) ∨ ((x.toUInt32 >>> ((16 : Int32) &&& 31).toUInt32).toInt32) % (2 : Int32) = (1 : Int32) := by
  have h1 := c_iushr x (16 : Int32) 16 (by decide) (by decide)
  have h3 : 0 ≤ (x.toInt % 4294967296) / (2 ^ 16 : Nat) := Int.ediv_nonneg (Int.emod_nonneg _ (by decide)) (Int.natCast_nonneg _)
  have h2 := (c_irem ((x.toUInt32 >>> ((16 : Int32) &&& 31).toUInt32).toInt32) (2 : Int32) 2 rfl).1 (by rw [h1]; exact h3)
  have l0 : ((0 : Int32)).toInt = 0 := rfl
  have l1 : ((1 : Int32)).toInt = 1 := rfl
  simp only [← Int32.toInt_inj, l0, l1]
  omega

theorem own_u1_2 (x : Int32) : ((x.toUInt32 >>> ((1 : Int32) &&& 31).toUInt32).toInt32) % (2 : Int32) = (0 : Int32) ∨ ((x.toUInt32 >>> ((1 : Int32) &&& 31).toUInt32).toInt32) % (2 : Int32) = (1 : Int32) := by
  have h1 := c_iushr x (1 : Int32) 1 (by decide) (by decide)
  have h3 : 0 ≤ (x.toInt % 4294967296) / (2 ^ 1 : Nat) := Int.ediv_nonneg (Int.emod_nonneg _ (by decide)) (Int.natCast_nonneg _)
  have h2 := (c_irem ((x.toUInt32 >>> ((1 : Int32) &&& 31).toUInt32).toInt32) (2 : Int32) 2 rfl).1 (by rw [h1]; exact h3)
  have l0 : ((0 : Int32)).toInt = 0 := rfl
  have l1 : ((1 : Int32)).toInt = 1 := rfl
  simp only [← Int32.toInt_inj, l0, l1]
  omega

theorem own_u16_3 (x : Int32) : ((x.toUInt32 >>> ((16 : Int32) &&& 31).toUInt32).toInt32) % (3 : Int32) = (0 : Int32) ∨ ((x.toUInt32 >>> ((16 : Int32) &&& 31).toUInt32).toInt32) % (3 : Int32) = (1 : Int32) ∨ ((x.toUInt32 >>> ((16 : Int32) &&& 31).toUInt32).toInt32) % (3 : Int32) = (2 : Int32) := by
  have h1 := c_iushr x (16 : Int32) 16 (by decide) (by decide)
  have h3 : 0 ≤ (x.toInt % 4294967296) / (2 ^ 16 : Nat) := Int.ediv_nonneg (Int.emod_nonneg _ (by decide)) (Int.natCast_nonneg _)
  have h2 := (c_irem ((x.toUInt32 >>> ((16 : Int32) &&& 31).toUInt32).toInt32) (3 : Int32) 3 rfl).1 (by rw [h1]; exact h3)
  have l0 : ((0 : Int32)).toInt = 0 := rfl
  have l1 : ((1 : Int32)).toInt = 1 := rfl
  have l2 : ((2 : Int32)).toInt = 2 := rfl
  simp only [← Int32.toInt_inj, l0, l1, l2]
  omega

theorem own_u1_3 (x : Int32) : ((x.toUInt32 >>> ((1 : Int32) &&& 31).toUInt32).toInt32) % (3 : Int32) = (0 : Int32) ∨ ((x.toUInt32 >>> ((1 : Int32) &&& 31).toUInt32).toInt32) % (3 : Int32) = (1 : Int32) ∨ ((x.toUInt32 >>> ((1 : Int32) &&& 31).toUInt32).toInt32) % (3 : Int32) = (2 : Int32) := by
  have h1 := c_iushr x (1 : Int32) 1 (by decide) (by decide)
  have h3 : 0 ≤ (x.toInt % 4294967296) / (2 ^ 1 : Nat) := Int.ediv_nonneg (Int.emod_nonneg _ (by decide)) (Int.natCast_nonneg _)
  have h2 := (c_irem ((x.toUInt32 >>> ((1 : Int32) &&& 31).toUInt32).toInt32) (3 : Int32) 3 rfl).1 (by rw [h1]; exact h3)
  have l0 : ((0 : Int32)).toInt = 0 := rfl
  have l1 : ((1 : Int32)).toInt = 1 := rfl
  have l2 : ((2 : Int32)).toInt = 2 := rfl
  simp only [← Int32.toInt_inj, l0, l1, l2]
  omega

theorem own_u16_4 (x : Int32) : ((x.toUInt32 >>> ((16 : Int32) &&& 31).toUInt32).toInt32) % (4 : Int32) = (0 : Int32) ∨ ((x.toUInt32 >>> ((16 : Int32) &&& 31).toUInt32).toInt32) % (4 : Int32) = (1 : Int32) ∨ ((x.toUInt32 >>> ((16 : Int32) &&& 31).toUInt32).toInt32) % (4 : Int32) = (2 : Int32) ∨ ((x.toUInt32 >>> ((16 : Int32) &&& 31).toUInt32).toInt32) % (4 : Int32) = (3 : Int32) := by
  have h1 := c_iushr x (16 : Int32) 16 (by decide) (by decide)
  have h3 : 0 ≤ (x.toInt % 4294967296) / (2 ^ 16 : Nat) := Int.ediv_nonneg (Int.emod_nonneg _ (by decide)) (Int.natCast_nonneg _)
  have h2 := (c_irem ((x.toUInt32 >>> ((16 : Int32) &&& 31).toUInt32).toInt32) (4 : Int32) 4 rfl).1 (by rw [h1]; exact h3)
  have l0 : ((0 : Int32)).toInt = 0 := rfl
  have l1 : ((1 : Int32)).toInt = 1 := rfl
  have l2 : ((2 : Int32)).toInt = 2 := rfl
  have l3 : ((3 : Int32)).toInt = 3 := rfl
  simp only [← Int32.toInt_inj, l0, l1, l2, l3]
  omega

theorem own_u1_4 (x : Int32) : ((x.toUInt32 >>> ((1 : Int32) &&& 31).toUInt32).toInt32) % (4 : Int32) = (0 : Int32) ∨ ((x.toUInt32 >>> ((1 : Int32) &&& 31).toUInt32).toInt32) % (4 : Int32) = (1 : Int32) ∨ ((x.toUInt32 >>> ((1 : Int32) &&& 31).toUInt32).toInt32) % (4 : Int32) = (2 : Int32) ∨ ((x.toUInt32 >>> ((1 : Int32) &&& 31).toUInt32).toInt32) % (4 : Int32) = (3 : Int32) := by
  have h1 := c_iushr x (1 : Int32) 1 (by decide) (by decide)
  have h3 : 0 ≤ (x.toInt % 4294967296) / (2 ^ 1 : Nat) := Int.ediv_nonneg (Int.emod_nonneg _ (by decide)) (Int.natCast_nonneg _)
  have h2 := (c_irem ((x.toUInt32 >>> ((1 : Int32) &&& 31).toUInt32).toInt32) (4 : Int32) 4 rfl).1 (by rw [h1]; exact h3)
  have l0 : ((0 : Int32)).toInt = 0 := rfl
  have l1 : ((1 : Int32)).toInt = 1 := rfl
  have l2 : ((2 : Int32)).toInt = 2 := rfl
  have l3 : ((3 : Int32)).toInt = 3 := rfl
  simp only [← Int32.toInt_inj, l0, l1, l2, l3]
  omega


theorem own_m14 (x : Int32) : (1 : Int32) + (x &&& (3 : Int32)) = (1 : Int32) ∨ (1 : Int32) + (x &&& (3 : Int32)) = (2 : Int32) ∨ (1 : Int32) + (x &&& (3 : Int32)) = (3 : Int32) ∨ (1 : Int32) + (x &&& (3 : Int32)) = (4 : Int32) := by
  have a := c_and x (3 : Int32) (by decide)
  have b := c_iadd (1 : Int32) (x &&& (3 : Int32))
  have r := rng32 ((1 : Int32) + (x &&& (3 : Int32)))
  have l1 : ((1 : Int32)).toInt = 1 := rfl
  have l2 : ((2 : Int32)).toInt = 2 := rfl
  have l3 : ((3 : Int32)).toInt = 3 := rfl
  have l4 : ((4 : Int32)).toInt = 4 := rfl
  simp only [← Int32.toInt_inj, l1, l2, l3, l4] at a b ⊢
  omega
theorem own_n3 (x : Int32) : (x &&& (3 : Int32)) = (0 : Int32) ∨ (x &&& (3 : Int32)) = (1 : Int32) ∨ (x &&& (3 : Int32)) = (2 : Int32) ∨ (x &&& (3 : Int32)) = (3 : Int32) := by
  have a := c_and x (3 : Int32) (by decide)
  have k : ((3 : Int32)).toInt = 3 := rfl
  have l0 : ((0 : Int32)).toInt = 0 := rfl
  have l1 : ((1 : Int32)).toInt = 1 := rfl
  have l2 : ((2 : Int32)).toInt = 2 := rfl
  simp only [← Int32.toInt_inj, l0, l1, l2, k] at a ⊢
  omega
theorem own_a1 (x : Int32) : (x &&& (1 : Int32)) = (0 : Int32) ∨ (x &&& (1 : Int32)) = (1 : Int32) := by
  have a := c_and x (1 : Int32) (by decide)
  have l0 : ((0 : Int32)).toInt = 0 := rfl
  have l1 : ((1 : Int32)).toInt = 1 := rfl
  simp only [← Int32.toInt_inj, l0, l1] at a ⊢
  omega

theorem ef_0 (m : MethodId) (p0 : Int32) (p1 : Int32) (p2 : Int32) (p3 : Int32) (p4 : Int32) (p5 : Int32) : entryFrame m #[(.int p0), (.int p1), (.int p2), (.int p3), (.int p4), (.int p5)] maxLocals = mkF m 0 #[iv p0, iv p1, iv p2, iv p3, iv p4, iv p5, un, un, un, un, un, un, un, un, un, un, un, un, un, un, un, un, un, un, un, un, un, un] [] := by first | (simp [entryFrame, mkF, argsToLocals, Value.category, maxLocals]; done) | rfl
def Q0 (Z : State) (p0 : Int32) (p1 : Int32) (p2 : Int32) (p3 : Int32) (p4 : Int32) (p5 : Int32) (h0 : Heap) (n0 : Nat) (v : Option Value) (h : Heap) (L : List Loc) : Prop := v = some (.int 1) ∧ Fr n0 L
set_option maxRecDepth 65536 in
set_option maxHeartbeats 40000000 in
theorem rm0 (l : Launch) (Z : State) (ar : Array Value) (hw : ∀ d ∈ tables_1, d.before ar Z = true) (ws : List Jvm.Cond) (p0 : Int32) (p1 : Int32) (p2 : Int32) (p3 : Int32) (p4 : Int32) (p5 : Int32) (h0 : Heap) (n0 : Nat) (O0 : Old Z n0 h0) (hEL : EW Z ar EL0) (HW : Wd Z w_lam k_lam) :
    MetFree l x (head1 (Jvm.Cond.code x code maxLocals ret :: ws) room_1) (fun a U => a = #[(.int p0), (.int p1), (.int p2), (.int p3), (.int p4), (.int p5)] ∧ Z.Warmed39 U.vm ∧ U.heap = h0 ∧ CHv Z EL0 U.vm h0) (fun _ _ _ _ _ => True) (fun _ U o U' => ∃ v L, o = .returned v ∧ Q0 Z p0 p1 p2 p3 p4 p5 h0 n0 v U'.heap L ∧ CHr Z EL0 U.vm U.heap U'.vm U'.heap ∧ ReturnedEndW U o U' L 24 1152) := by
 refine MetFree.of_bodySF (plainFor_of_name pn_4) hisR ?_
 intro p e s m args below meth c s₁ Bd hml0 hP hK
 obtain ⟨rfl, hZ, hh, hCH⟩ := hP
 have hx := Bd.exec
 have hby := Bd.bytes
 have hml : c.maxLocals = 28 := hml0
 have hown : s.vm.findClass "com/example/filters_under_siege/filtersundersiege/KeeperPairsCountPinLaw" = some m.cls := findClass_of_methodNamed Bd.named
 have hnm := (name_of_methodNamed Bd.named Bd.method).1
 have hlk : meth.locks = false := by first | assumption | exact BodyLoose.notSynchronized (by assumption) | exact Body.notSynchronized (by assumption)
 have X0 : Stand p l e room_1 (s.setVm s.vm) m #[(.int p0), (.int p1), (.int p2), (.int p3), (.int p4), (.int p5)] below meth c s₁ [] 0 0 := Stand.of_body Bd
 have e0 : s₁.heap = h0 := by rw [← hh, Bd.state]; rfl
 have N0 := Fr.nil n0
 have Z0 : n0 ≤ h0.size := Nat.le_trans (Nat.le_of_eq O0.1.symm) O0.2.1
 obtain ⟨S0, hS0⟩ : ∃ z, z = s₁.setTop (entryFrame m #[(.int p0), (.int p1), (.int p2), (.int p3), (.int p4), (.int p5)] maxLocals) := ⟨_, rfl⟩
 have pre0 : ∀ tg, AT p e below s₁ m 0 #[iv p0, iv p1, iv p2, iv p3, iv p4, iv p5, un, un, un, un, un, un, un, un, un, un, un, un, un, un, un, un, un, un, un, un, un, un] [] tg → Steps p.tables e below S0 tg := fun tg kg => by rw [hS0]; exact castTop (ef_0 m p0 p1 p2 p3 p4 p5) kg
 have hS : s.Since s.vm 0 := (State.WarmedH.refl s).since 0
 have hk : 0 ≤ h0.size := Nat.zero_le _
 have CR0 : CHr Z EL0 s.vm h0 s.vm h0 := CHr.refl hCH
 obtain ⟨-, -⟩ := id HW
 refine own_goal fun G toG => ?_
 have tail_r0 : ∀ (Tt : State) (vmt : Vm) (ht : Heap) (Lt : List Loc) (kt : Nat), Stand p l e room_1 (s.setVm vmt) m #[(.int p0), (.int p1), (.int p2), (.int p3), (.int p4), (.int p5)] below meth c Tt Lt 8 50 → Tt.heap = ht → Fr n0 Lt → Keep h0 ht [] → Old Z n0 ht → s.Since vmt kt → kt ≤ ht.size → Z.Warmed39 (s.setVm vmt).vm → (s.setVm vmt).vm.findClass "com/example/filters_under_siege/filtersundersiege/KeeperPairsCountPinLaw" = some m.cls → CHr Z EL0 s.vm h0 vmt ht → ∀ (l6 c0 c1 d0 d1 na sm l13 l14 cl : Int32) (t17 t18 t19 : Addr) (vv : Int64), Sp na sm c0 d0 cl vv → (∀ tg, AT p e below Tt m 212 #[iv p0, iv p1, iv p2, iv p3, iv p4, iv p5, iv l6, iv c0, iv c1, iv d0, iv d1, iv na, iv sm, iv l13, iv l14, iv (0 : Int32), iv cl, rv t17, rv t18, rv t19, jv vv, se, un, un, un, un, un, un] [] tg → Steps p.tables e below S0 tg) → G := by
  intro Tt vmt ht Lt kt Xt et Nt Kt Ot hS hk hZ hown CRt l6 c0 c1 d0 d1 na sm l13 l14 cl t17 t18 t19 vv hSp pret
  have pre763 : ∀ tg, AT p e below Tt m 244 #[iv p0, iv p1, iv p2, iv p3, iv p4, iv p5, iv l6, iv c0, iv c1, iv d0, iv d1, iv na, iv sm, iv l13, iv l14, iv (0 : Int32), iv cl, rv t17, rv t18, rv t19, jv vv, se, iv c0, iv d0, un, un, un, un] [(.int c0), (.int cl)] tg → Steps p.tables e below S0 tg := fun tg kg => pret tg (by
   refine XS.iload Xt.here hx rfl (hb hby at_212) rfl ?_
   show AT p e below Tt m 214 #[iv p0, iv p1, iv p2, iv p3, iv p4, iv p5, iv l6, iv c0, iv c1, iv d0, iv d1, iv na, iv sm, iv l13, iv l14, iv (0 : Int32), iv cl, rv t17, rv t18, rv t19, jv vv, se, un, un, un, un, un, un] [(.int (0 : Int32))] _
   refine XS.ifNo Xt.here hx rfl (hb hby at_214) rfl (XT.i0_ne_f ((by decide) : (0 : Int32) = (0 : Int32))) ?_
   refine XS.iload Xt.here hx rfl (hb hby at_217) rfl ?_
   refine XS.goto Xt.here hx rfl (pc0 := 219) (pc' := 224) rfl (hb hby at_219) (by decide) (by decide) ?_
   refine XS.istore Xt.here hx rfl (hb hby at_224) rfl (l' := #[iv p0, iv p1, iv p2, iv p3, iv p4, iv p5, iv l6, iv c0, iv c1, iv d0, iv d1, iv na, iv sm, iv l13, iv l14, iv (0 : Int32), iv cl, rv t17, rv t18, rv t19, jv vv, se, iv c0, un, un, un, un, un]) rfl ?_
   refine XS.iload Xt.here hx rfl (hb hby at_226) rfl ?_
   show AT p e below Tt m 228 #[iv p0, iv p1, iv p2, iv p3, iv p4, iv p5, iv l6, iv c0, iv c1, iv d0, iv d1, iv na, iv sm, iv l13, iv l14, iv (0 : Int32), iv cl, rv t17, rv t18, rv t19, jv vv, se, iv c0, un, un, un, un, un] [(.int (0 : Int32))] _
   refine XS.ifNo Xt.here hx rfl (hb hby at_228) rfl (XT.i0_ne_f ((by decide) : (0 : Int32) = (0 : Int32))) ?_
   refine XS.iload Xt.here hx rfl (hb hby at_231) rfl ?_
   refine XS.goto Xt.here hx rfl (pc0 := 233) (pc' := 238) rfl (hb hby at_233) (by decide) (by decide) ?_
   refine XS.istore Xt.here hx rfl (hb hby at_238) rfl (l' := #[iv p0, iv p1, iv p2, iv p3, iv p4, iv p5, iv l6, iv c0, iv c1, iv d0, iv d1, iv na, iv sm, iv l13, iv l14, iv (0 : Int32), iv cl, rv t17, rv t18, rv t19, jv vv, se, iv c0, iv d0, un, un, un, un]) rfl ?_
   refine XS.iload Xt.here hx rfl (hb hby at_240) rfl ?_
   refine XS.iload Xt.here hx rfl (hb hby at_242) rfl ?_
   exact kg)
  rcases Decidable.em (cl = c0) with hc764 | hc764
  ·
   have pre765 : ∀ tg, AT p e below Tt m 258 #[iv p0, iv p1, iv p2, iv p3, iv p4, iv p5, iv l6, iv c0, iv c1, iv d0, iv d1, iv na, iv sm, iv l13, iv l14, iv (0 : Int32), iv cl, rv t17, rv t18, rv t19, jv vv, se, iv c0, iv d0, iv (1 : Int32), un, un, un] [(.int d0), (.int cl)] tg → Steps p.tables e below S0 tg := fun tg kg => pre763 tg (by
    refine XS.icmpNo Xt.here hx rfl (hb hby at_244) rfl (XT.ii_ne_f hc764) ?_
    refine XS.iconst Xt.here hx rfl (hb hby at_247) ?_
    refine XS.goto Xt.here hx rfl (pc0 := 248) (pc' := 252) rfl (hb hby at_248) (by decide) (by decide) ?_
    refine XS.istore Xt.here hx rfl (hb hby at_252) rfl (l' := #[iv p0, iv p1, iv p2, iv p3, iv p4, iv p5, iv l6, iv c0, iv c1, iv d0, iv d1, iv na, iv sm, iv l13, iv l14, iv (0 : Int32), iv cl, rv t17, rv t18, rv t19, jv vv, se, iv c0, iv d0, iv (1 : Int32), un, un, un]) rfl ?_
    refine XS.iload Xt.here hx rfl (hb hby at_254) rfl ?_
    refine XS.iload Xt.here hx rfl (hb hby at_256) rfl ?_
    exact kg)
   rcases Decidable.em (cl = d0) with hc766 | hc766
   ·
    have pre767 : ∀ tg, AT p e below Tt m 303 #[iv p0, iv p1, iv p2, iv p3, iv p4, iv p5, iv l6, iv c0, iv c1, iv d0, iv d1, iv na, iv sm, iv l13, iv l14, iv (0 : Int32), iv cl, rv t17, rv t18, rv t19, jv vv, se, iv c0, iv d0, iv (1 : Int32), iv (1 : Int32), un, un] [(.int sm)] tg → Steps p.tables e below S0 tg := fun tg kg => pre765 tg (by
     refine XS.icmpNo Xt.here hx rfl (hb hby at_258) rfl (XT.ii_ne_f hc766) ?_
     refine XS.iconst Xt.here hx rfl (hb hby at_261) ?_
     refine XS.goto Xt.here hx rfl (pc0 := 262) (pc' := 266) rfl (hb hby at_262) (by decide) (by decide) ?_
     refine XS.istore Xt.here hx rfl (hb hby at_266) rfl (l' := #[iv p0, iv p1, iv p2, iv p3, iv p4, iv p5, iv l6, iv c0, iv c1, iv d0, iv d1, iv na, iv sm, iv l13, iv l14, iv (0 : Int32), iv cl, rv t17, rv t18, rv t19, jv vv, se, iv c0, iv d0, iv (1 : Int32), iv (1 : Int32), un, un]) rfl ?_
     refine XS.iload Xt.here hx rfl (hb hby at_268) rfl ?_
     show AT p e below Tt m 270 #[iv p0, iv p1, iv p2, iv p3, iv p4, iv p5, iv l6, iv c0, iv c1, iv d0, iv d1, iv na, iv sm, iv l13, iv l14, iv (0 : Int32), iv cl, rv t17, rv t18, rv t19, jv vv, se, iv c0, iv d0, iv (1 : Int32), iv (1 : Int32), un, un] [(.int (1 : Int32))] _
     refine XS.ifYes Xt.here hx rfl (pc0 := 270) (pc' := 290) rfl (hb hby at_270) rfl (XT.i0_ne_t ((by decide) : ¬ ((1 : Int32) = (0 : Int32)))) (by decide) (by decide) ?_
     refine XS.iload Xt.here hx rfl (hb hby at_290) rfl ?_
     show AT p e below Tt m 292 #[iv p0, iv p1, iv p2, iv p3, iv p4, iv p5, iv l6, iv c0, iv c1, iv d0, iv d1, iv na, iv sm, iv l13, iv l14, iv (0 : Int32), iv cl, rv t17, rv t18, rv t19, jv vv, se, iv c0, iv d0, iv (1 : Int32), iv (1 : Int32), un, un] [(.int (1 : Int32))] _
     refine XS.ifYes Xt.here hx rfl (pc0 := 292) (pc' := 301) rfl (hb hby at_292) rfl (XT.i0_ne_t ((by decide) : ¬ ((1 : Int32) = (0 : Int32)))) (by decide) (by decide) ?_
     refine XS.iload Xt.here hx rfl (hb hby at_301) rfl ?_
     exact kg)
    rcases Decidable.em (sm = (0 : Int32)) with hc768 | hc768
    ·
     have pre769 : ∀ tg, AT p e below Tt m 319 #[iv p0, iv p1, iv p2, iv p3, iv p4, iv p5, iv l6, iv c0, iv c1, iv d0, iv d1, iv na, iv sm, iv l13, iv l14, iv (0 : Int32), iv cl, rv t17, rv t18, rv t19, jv vv, se, iv c0, iv d0, iv (1 : Int32), iv (1 : Int32), un, un] [(.int (1 : Int32)), (.int na)] tg → Steps p.tables e below S0 tg := fun tg kg => pre767 tg (by
      refine XS.ifYes Xt.here hx rfl (pc0 := 303) (pc' := 316) rfl (hb hby at_303) rfl (XT.i0_eq_t hc768) (by decide) (by decide) ?_
      refine XS.iload Xt.here hx rfl (hb hby at_316) rfl ?_
      refine XS.iconst Xt.here hx rfl (hb hby at_318) ?_
      exact kg)
     rcases Decidable.em ((1 : Int32) < na) with hc770 | hc770
     ·
      have hf771 : vv = ((na - (1 : Int32)).toInt64) := hSp.2.2.2.2.2 hc766 hc764 hc768 hc770
      obtain ⟨fs, hr, hrun, hended, hRE⟩ := Xt.leaveW hS (by rw [et]; exact hk) (v := some (.int (1 : Int32))) (fun h => by rw [Bd.returns] at h; cases h)
      have CRf : CHr Z EL0 s.vm s.heap (Tt.setFrames fs).vm (Tt.setFrames fs).heap := by
        show CHr Z EL0 s.vm s.heap Tt.vm Tt.heap
        rw [hh, et]
        exact CRt.trans (CHv.at Xt hZ hEL CRt.1)
      subst hS0
      refine toG ⟨_, _, pre769 _ ?_, hrun, hended, _, _, rfl, ?_, CRf, hRE.1, hRE.2.1, hRE.2.2.1, hRE.2.2.2.mono (by decide) (by decide)⟩
      ·
       refine XS.icmpYes Xt.here hx rfl (pc0 := 319) (pc' := 328) rfl (hb hby at_319) rfl (XT.ii_gt_t hc770) (by decide) (by decide) ?_
       refine XS.iload Xt.here hx rfl (hb hby at_328) rfl ?_
       refine XS.iconst Xt.here hx rfl (hb hby at_330) ?_
       refine XS.isub Xt.here hx rfl (hb hby at_331) rfl ?_
       refine XS.i2l Xt.here hx rfl (hb hby at_332) rfl ?_
       refine XS.lstore Xt.here hx rfl (hb hby at_333) rfl (l' := #[iv p0, iv p1, iv p2, iv p3, iv p4, iv p5, iv l6, iv c0, iv c1, iv d0, iv d1, iv na, iv sm, iv l13, iv l14, iv (0 : Int32), iv cl, rv t17, rv t18, rv t19, jv vv, se, iv c0, iv d0, iv (1 : Int32), iv (1 : Int32), jv ((na - (1 : Int32)).toInt64), se]) rfl ?_
       refine XS.lload Xt.here hx rfl (hb hby at_335) rfl ?_
       refine XS.lload Xt.here hx rfl (hb hby at_337) rfl ?_
       refine XS.lcmp Xt.here hx rfl (hb hby at_339) rfl ?_
       show AT p e below Tt m 340 #[iv p0, iv p1, iv p2, iv p3, iv p4, iv p5, iv l6, iv c0, iv c1, iv d0, iv d1, iv na, iv sm, iv l13, iv l14, iv (0 : Int32), iv cl, rv t17, rv t18, rv t19, jv vv, se, iv c0, iv d0, iv (1 : Int32), iv (1 : Int32), jv ((na - (1 : Int32)).toInt64), se] [(.int (XT.cmpL vv ((na - (1 : Int32)).toInt64)))] _
       refine XS.ifNo Xt.here hx rfl (hb hby at_340) rfl (XT.ll_ne_f (hf771 : vv = ((na - (1 : Int32)).toInt64))) ?_
       refine XS.iconst Xt.here hx rfl (hb hby at_343) ?_
       refine XS.goto Xt.here hx rfl (pc0 := 344) (pc' := 348) rfl (hb hby at_344) (by decide) (by decide) ?_
       exact retN Xt hx (t := .boolean) Bd.returns (by simp) (hb hby at_348) hr
      ·
       show Q0 Z p0 p1 p2 p3 p4 p5 h0 n0 _ Tt.heap _
       rw [et]
       exact ⟨rfl, Nt⟩
     ·
      have hf772 : vv = (1 : Int64) := hSp.2.2.2.2.1 hc766 hc764 hc768 hc770
      obtain ⟨fs, hr, hrun, hended, hRE⟩ := Xt.leaveW hS (by rw [et]; exact hk) (v := some (.int (1 : Int32))) (fun h => by rw [Bd.returns] at h; cases h)
      have CRf : CHr Z EL0 s.vm s.heap (Tt.setFrames fs).vm (Tt.setFrames fs).heap := by
        show CHr Z EL0 s.vm s.heap Tt.vm Tt.heap
        rw [hh, et]
        exact CRt.trans (CHv.at Xt hZ hEL CRt.1)
      subst hS0
      refine toG ⟨_, _, pre769 _ ?_, hrun, hended, _, _, rfl, ?_, CRf, hRE.1, hRE.2.1, hRE.2.2.1, hRE.2.2.2.mono (by decide) (by decide)⟩
      ·
       refine XS.icmpNo Xt.here hx rfl (hb hby at_319) rfl (XT.ii_gt_f hc770) ?_
       refine XS.lconst Xt.here hx rfl (hb hby at_322) ?_
       refine XS.lstore Xt.here hx rfl (hb hby at_323) rfl (l' := #[iv p0, iv p1, iv p2, iv p3, iv p4, iv p5, iv l6, iv c0, iv c1, iv d0, iv d1, iv na, iv sm, iv l13, iv l14, iv (0 : Int32), iv cl, rv t17, rv t18, rv t19, jv vv, se, iv c0, iv d0, iv (1 : Int32), iv (1 : Int32), jv (1 : Int64), se]) rfl ?_
       refine XS.goto Xt.here hx rfl (pc0 := 325) (pc' := 335) rfl (hb hby at_325) (by decide) (by decide) ?_
       refine XS.lload Xt.here hx rfl (hb hby at_335) rfl ?_
       refine XS.lload Xt.here hx rfl (hb hby at_337) rfl ?_
       refine XS.lcmp Xt.here hx rfl (hb hby at_339) rfl ?_
       show AT p e below Tt m 340 #[iv p0, iv p1, iv p2, iv p3, iv p4, iv p5, iv l6, iv c0, iv c1, iv d0, iv d1, iv na, iv sm, iv l13, iv l14, iv (0 : Int32), iv cl, rv t17, rv t18, rv t19, jv vv, se, iv c0, iv d0, iv (1 : Int32), iv (1 : Int32), jv (1 : Int64), se] [(.int (XT.cmpL vv (1 : Int64)))] _
       refine XS.ifNo Xt.here hx rfl (hb hby at_340) rfl (XT.ll_ne_f (hf772 : vv = (1 : Int64))) ?_
       refine XS.iconst Xt.here hx rfl (hb hby at_343) ?_
       refine XS.goto Xt.here hx rfl (pc0 := 344) (pc' := 348) rfl (hb hby at_344) (by decide) (by decide) ?_
       exact retN Xt hx (t := .boolean) Bd.returns (by simp) (hb hby at_348) hr
      ·
       show Q0 Z p0 p1 p2 p3 p4 p5 h0 n0 _ Tt.heap _
       rw [et]
       exact ⟨rfl, Nt⟩
    ·
     have hf773 : vv = ((na + (1 : Int32)).toInt64) := hSp.2.2.2.1 hc766 hc764 hc768
     obtain ⟨fs, hr, hrun, hended, hRE⟩ := Xt.leaveW hS (by rw [et]; exact hk) (v := some (.int (1 : Int32))) (fun h => by rw [Bd.returns] at h; cases h)
     have CRf : CHr Z EL0 s.vm s.heap (Tt.setFrames fs).vm (Tt.setFrames fs).heap := by
       show CHr Z EL0 s.vm s.heap Tt.vm Tt.heap
       rw [hh, et]
       exact CRt.trans (CHv.at Xt hZ hEL CRt.1)
     subst hS0
     refine toG ⟨_, _, pre767 _ ?_, hrun, hended, _, _, rfl, ?_, CRf, hRE.1, hRE.2.1, hRE.2.2.1, hRE.2.2.2.mono (by decide) (by decide)⟩
     ·
      refine XS.ifNo Xt.here hx rfl (hb hby at_303) rfl (XT.i0_eq_f hc768) ?_
      refine XS.iload Xt.here hx rfl (hb hby at_306) rfl ?_
      refine XS.iconst Xt.here hx rfl (hb hby at_308) ?_
      refine XS.iadd Xt.here hx rfl (hb hby at_309) rfl ?_
      refine XS.i2l Xt.here hx rfl (hb hby at_310) rfl ?_
      refine XS.lstore Xt.here hx rfl (hb hby at_311) rfl (l' := #[iv p0, iv p1, iv p2, iv p3, iv p4, iv p5, iv l6, iv c0, iv c1, iv d0, iv d1, iv na, iv sm, iv l13, iv l14, iv (0 : Int32), iv cl, rv t17, rv t18, rv t19, jv vv, se, iv c0, iv d0, iv (1 : Int32), iv (1 : Int32), jv ((na + (1 : Int32)).toInt64), se]) rfl ?_
      refine XS.goto Xt.here hx rfl (pc0 := 313) (pc' := 335) rfl (hb hby at_313) (by decide) (by decide) ?_
      refine XS.lload Xt.here hx rfl (hb hby at_335) rfl ?_
      refine XS.lload Xt.here hx rfl (hb hby at_337) rfl ?_
      refine XS.lcmp Xt.here hx rfl (hb hby at_339) rfl ?_
      show AT p e below Tt m 340 #[iv p0, iv p1, iv p2, iv p3, iv p4, iv p5, iv l6, iv c0, iv c1, iv d0, iv d1, iv na, iv sm, iv l13, iv l14, iv (0 : Int32), iv cl, rv t17, rv t18, rv t19, jv vv, se, iv c0, iv d0, iv (1 : Int32), iv (1 : Int32), jv ((na + (1 : Int32)).toInt64), se] [(.int (XT.cmpL vv ((na + (1 : Int32)).toInt64)))] _
      refine XS.ifNo Xt.here hx rfl (hb hby at_340) rfl (XT.ll_ne_f (hf773 : vv = ((na + (1 : Int32)).toInt64))) ?_
      refine XS.iconst Xt.here hx rfl (hb hby at_343) ?_
      refine XS.goto Xt.here hx rfl (pc0 := 344) (pc' := 348) rfl (hb hby at_344) (by decide) (by decide) ?_
      exact retN Xt hx (t := .boolean) Bd.returns (by simp) (hb hby at_348) hr
     ·
      show Q0 Z p0 p1 p2 p3 p4 p5 h0 n0 _ Tt.heap _
      rw [et]
      exact ⟨rfl, Nt⟩
   ·
    have hf774 : vv = (na.toInt64) := hSp.1 hc766 hc764
    obtain ⟨fs, hr, hrun, hended, hRE⟩ := Xt.leaveW hS (by rw [et]; exact hk) (v := some (.int (1 : Int32))) (fun h => by rw [Bd.returns] at h; cases h)
    have CRf : CHr Z EL0 s.vm s.heap (Tt.setFrames fs).vm (Tt.setFrames fs).heap := by
      show CHr Z EL0 s.vm s.heap Tt.vm Tt.heap
      rw [hh, et]
      exact CRt.trans (CHv.at Xt hZ hEL CRt.1)
    subst hS0
    refine toG ⟨_, _, pre765 _ ?_, hrun, hended, _, _, rfl, ?_, CRf, hRE.1, hRE.2.1, hRE.2.2.1, hRE.2.2.2.mono (by decide) (by decide)⟩
    ·
     refine XS.icmpYes Xt.here hx rfl (pc0 := 258) (pc' := 265) rfl (hb hby at_258) rfl (XT.ii_ne_t hc766) (by decide) (by decide) ?_
     refine XS.iconst Xt.here hx rfl (hb hby at_265) ?_
     refine XS.istore Xt.here hx rfl (hb hby at_266) rfl (l' := #[iv p0, iv p1, iv p2, iv p3, iv p4, iv p5, iv l6, iv c0, iv c1, iv d0, iv d1, iv na, iv sm, iv l13, iv l14, iv (0 : Int32), iv cl, rv t17, rv t18, rv t19, jv vv, se, iv c0, iv d0, iv (1 : Int32), iv (0 : Int32), un, un]) rfl ?_
     refine XS.iload Xt.here hx rfl (hb hby at_268) rfl ?_
     show AT p e below Tt m 270 #[iv p0, iv p1, iv p2, iv p3, iv p4, iv p5, iv l6, iv c0, iv c1, iv d0, iv d1, iv na, iv sm, iv l13, iv l14, iv (0 : Int32), iv cl, rv t17, rv t18, rv t19, jv vv, se, iv c0, iv d0, iv (1 : Int32), iv (0 : Int32), un, un] [(.int (0 : Int32))] _
     refine XS.ifNo Xt.here hx rfl (hb hby at_270) rfl (XT.i0_ne_f ((by decide) : (0 : Int32) = (0 : Int32))) ?_
     refine XS.iload Xt.here hx rfl (hb hby at_273) rfl ?_
     show AT p e below Tt m 275 #[iv p0, iv p1, iv p2, iv p3, iv p4, iv p5, iv l6, iv c0, iv c1, iv d0, iv d1, iv na, iv sm, iv l13, iv l14, iv (0 : Int32), iv cl, rv t17, rv t18, rv t19, jv vv, se, iv c0, iv d0, iv (1 : Int32), iv (0 : Int32), un, un] [(.int (1 : Int32))] _
     refine XS.ifNo Xt.here hx rfl (hb hby at_275) rfl (XT.i0_eq_f ((by decide) : ¬ ((1 : Int32) = (0 : Int32)))) ?_
     refine XS.iload Xt.here hx rfl (hb hby at_278) rfl ?_
     refine XS.i2l Xt.here hx rfl (hb hby at_280) rfl ?_
     refine XS.goto Xt.here hx rfl (pc0 := 281) (pc' := 285) rfl (hb hby at_281) (by decide) (by decide) ?_
     refine XS.lstore Xt.here hx rfl (hb hby at_285) rfl (l' := #[iv p0, iv p1, iv p2, iv p3, iv p4, iv p5, iv l6, iv c0, iv c1, iv d0, iv d1, iv na, iv sm, iv l13, iv l14, iv (0 : Int32), iv cl, rv t17, rv t18, rv t19, jv vv, se, iv c0, iv d0, iv (1 : Int32), iv (0 : Int32), jv (na.toInt64), se]) rfl ?_
     refine XS.goto Xt.here hx rfl (pc0 := 287) (pc' := 335) rfl (hb hby at_287) (by decide) (by decide) ?_
     refine XS.lload Xt.here hx rfl (hb hby at_335) rfl ?_
     refine XS.lload Xt.here hx rfl (hb hby at_337) rfl ?_
     refine XS.lcmp Xt.here hx rfl (hb hby at_339) rfl ?_
     show AT p e below Tt m 340 #[iv p0, iv p1, iv p2, iv p3, iv p4, iv p5, iv l6, iv c0, iv c1, iv d0, iv d1, iv na, iv sm, iv l13, iv l14, iv (0 : Int32), iv cl, rv t17, rv t18, rv t19, jv vv, se, iv c0, iv d0, iv (1 : Int32), iv (0 : Int32), jv (na.toInt64), se] [(.int (XT.cmpL vv (na.toInt64)))] _
     refine XS.ifNo Xt.here hx rfl (hb hby at_340) rfl (XT.ll_ne_f (hf774 : vv = (na.toInt64))) ?_
     refine XS.iconst Xt.here hx rfl (hb hby at_343) ?_
     refine XS.goto Xt.here hx rfl (pc0 := 344) (pc' := 348) rfl (hb hby at_344) (by decide) (by decide) ?_
     exact retN Xt hx (t := .boolean) Bd.returns (by simp) (hb hby at_348) hr
    ·
     show Q0 Z p0 p1 p2 p3 p4 p5 h0 n0 _ Tt.heap _
     rw [et]
     exact ⟨rfl, Nt⟩
  ·
   have pre775 : ∀ tg, AT p e below Tt m 258 #[iv p0, iv p1, iv p2, iv p3, iv p4, iv p5, iv l6, iv c0, iv c1, iv d0, iv d1, iv na, iv sm, iv l13, iv l14, iv (0 : Int32), iv cl, rv t17, rv t18, rv t19, jv vv, se, iv c0, iv d0, iv (0 : Int32), un, un, un] [(.int d0), (.int cl)] tg → Steps p.tables e below S0 tg := fun tg kg => pre763 tg (by
    refine XS.icmpYes Xt.here hx rfl (pc0 := 244) (pc' := 251) rfl (hb hby at_244) rfl (XT.ii_ne_t hc764) (by decide) (by decide) ?_
    refine XS.iconst Xt.here hx rfl (hb hby at_251) ?_
    refine XS.istore Xt.here hx rfl (hb hby at_252) rfl (l' := #[iv p0, iv p1, iv p2, iv p3, iv p4, iv p5, iv l6, iv c0, iv c1, iv d0, iv d1, iv na, iv sm, iv l13, iv l14, iv (0 : Int32), iv cl, rv t17, rv t18, rv t19, jv vv, se, iv c0, iv d0, iv (0 : Int32), un, un, un]) rfl ?_
    refine XS.iload Xt.here hx rfl (hb hby at_254) rfl ?_
    refine XS.iload Xt.here hx rfl (hb hby at_256) rfl ?_
    exact kg)
   rcases Decidable.em (cl = d0) with hc776 | hc776
   ·
    have hf777 : vv = (1 : Int64) := hSp.2.2.1 hc776 hc764
    obtain ⟨fs, hr, hrun, hended, hRE⟩ := Xt.leaveW hS (by rw [et]; exact hk) (v := some (.int (1 : Int32))) (fun h => by rw [Bd.returns] at h; cases h)
    have CRf : CHr Z EL0 s.vm s.heap (Tt.setFrames fs).vm (Tt.setFrames fs).heap := by
      show CHr Z EL0 s.vm s.heap Tt.vm Tt.heap
      rw [hh, et]
      exact CRt.trans (CHv.at Xt hZ hEL CRt.1)
    subst hS0
    refine toG ⟨_, _, pre775 _ ?_, hrun, hended, _, _, rfl, ?_, CRf, hRE.1, hRE.2.1, hRE.2.2.1, hRE.2.2.2.mono (by decide) (by decide)⟩
    ·
     refine XS.icmpNo Xt.here hx rfl (hb hby at_258) rfl (XT.ii_ne_f hc776) ?_
     refine XS.iconst Xt.here hx rfl (hb hby at_261) ?_
     refine XS.goto Xt.here hx rfl (pc0 := 262) (pc' := 266) rfl (hb hby at_262) (by decide) (by decide) ?_
     refine XS.istore Xt.here hx rfl (hb hby at_266) rfl (l' := #[iv p0, iv p1, iv p2, iv p3, iv p4, iv p5, iv l6, iv c0, iv c1, iv d0, iv d1, iv na, iv sm, iv l13, iv l14, iv (0 : Int32), iv cl, rv t17, rv t18, rv t19, jv vv, se, iv c0, iv d0, iv (0 : Int32), iv (1 : Int32), un, un]) rfl ?_
     refine XS.iload Xt.here hx rfl (hb hby at_268) rfl ?_
     show AT p e below Tt m 270 #[iv p0, iv p1, iv p2, iv p3, iv p4, iv p5, iv l6, iv c0, iv c1, iv d0, iv d1, iv na, iv sm, iv l13, iv l14, iv (0 : Int32), iv cl, rv t17, rv t18, rv t19, jv vv, se, iv c0, iv d0, iv (0 : Int32), iv (1 : Int32), un, un] [(.int (1 : Int32))] _
     refine XS.ifYes Xt.here hx rfl (pc0 := 270) (pc' := 290) rfl (hb hby at_270) rfl (XT.i0_ne_t ((by decide) : ¬ ((1 : Int32) = (0 : Int32)))) (by decide) (by decide) ?_
     refine XS.iload Xt.here hx rfl (hb hby at_290) rfl ?_
     show AT p e below Tt m 292 #[iv p0, iv p1, iv p2, iv p3, iv p4, iv p5, iv l6, iv c0, iv c1, iv d0, iv d1, iv na, iv sm, iv l13, iv l14, iv (0 : Int32), iv cl, rv t17, rv t18, rv t19, jv vv, se, iv c0, iv d0, iv (0 : Int32), iv (1 : Int32), un, un] [(.int (0 : Int32))] _
     refine XS.ifNo Xt.here hx rfl (hb hby at_292) rfl (XT.i0_ne_f ((by decide) : (0 : Int32) = (0 : Int32))) ?_
     refine XS.lconst Xt.here hx rfl (hb hby at_295) ?_
     refine XS.lstore Xt.here hx rfl (hb hby at_296) rfl (l' := #[iv p0, iv p1, iv p2, iv p3, iv p4, iv p5, iv l6, iv c0, iv c1, iv d0, iv d1, iv na, iv sm, iv l13, iv l14, iv (0 : Int32), iv cl, rv t17, rv t18, rv t19, jv vv, se, iv c0, iv d0, iv (0 : Int32), iv (1 : Int32), jv (1 : Int64), se]) rfl ?_
     refine XS.goto Xt.here hx rfl (pc0 := 298) (pc' := 335) rfl (hb hby at_298) (by decide) (by decide) ?_
     refine XS.lload Xt.here hx rfl (hb hby at_335) rfl ?_
     refine XS.lload Xt.here hx rfl (hb hby at_337) rfl ?_
     refine XS.lcmp Xt.here hx rfl (hb hby at_339) rfl ?_
     show AT p e below Tt m 340 #[iv p0, iv p1, iv p2, iv p3, iv p4, iv p5, iv l6, iv c0, iv c1, iv d0, iv d1, iv na, iv sm, iv l13, iv l14, iv (0 : Int32), iv cl, rv t17, rv t18, rv t19, jv vv, se, iv c0, iv d0, iv (0 : Int32), iv (1 : Int32), jv (1 : Int64), se] [(.int (XT.cmpL vv (1 : Int64)))] _
     refine XS.ifNo Xt.here hx rfl (hb hby at_340) rfl (XT.ll_ne_f (hf777 : vv = (1 : Int64))) ?_
     refine XS.iconst Xt.here hx rfl (hb hby at_343) ?_
     refine XS.goto Xt.here hx rfl (pc0 := 344) (pc' := 348) rfl (hb hby at_344) (by decide) (by decide) ?_
     exact retN Xt hx (t := .boolean) Bd.returns (by simp) (hb hby at_348) hr
    ·
     show Q0 Z p0 p1 p2 p3 p4 p5 h0 n0 _ Tt.heap _
     rw [et]
     exact ⟨rfl, Nt⟩
   ·
    have hf778 : vv = (0 : Int64) := hSp.2.1 hc776 hc764
    obtain ⟨fs, hr, hrun, hended, hRE⟩ := Xt.leaveW hS (by rw [et]; exact hk) (v := some (.int (1 : Int32))) (fun h => by rw [Bd.returns] at h; cases h)
    have CRf : CHr Z EL0 s.vm s.heap (Tt.setFrames fs).vm (Tt.setFrames fs).heap := by
      show CHr Z EL0 s.vm s.heap Tt.vm Tt.heap
      rw [hh, et]
      exact CRt.trans (CHv.at Xt hZ hEL CRt.1)
    subst hS0
    refine toG ⟨_, _, pre775 _ ?_, hrun, hended, _, _, rfl, ?_, CRf, hRE.1, hRE.2.1, hRE.2.2.1, hRE.2.2.2.mono (by decide) (by decide)⟩
    ·
     refine XS.icmpYes Xt.here hx rfl (pc0 := 258) (pc' := 265) rfl (hb hby at_258) rfl (XT.ii_ne_t hc776) (by decide) (by decide) ?_
     refine XS.iconst Xt.here hx rfl (hb hby at_265) ?_
     refine XS.istore Xt.here hx rfl (hb hby at_266) rfl (l' := #[iv p0, iv p1, iv p2, iv p3, iv p4, iv p5, iv l6, iv c0, iv c1, iv d0, iv d1, iv na, iv sm, iv l13, iv l14, iv (0 : Int32), iv cl, rv t17, rv t18, rv t19, jv vv, se, iv c0, iv d0, iv (0 : Int32), iv (0 : Int32), un, un]) rfl ?_
     refine XS.iload Xt.here hx rfl (hb hby at_268) rfl ?_
     show AT p e below Tt m 270 #[iv p0, iv p1, iv p2, iv p3, iv p4, iv p5, iv l6, iv c0, iv c1, iv d0, iv d1, iv na, iv sm, iv l13, iv l14, iv (0 : Int32), iv cl, rv t17, rv t18, rv t19, jv vv, se, iv c0, iv d0, iv (0 : Int32), iv (0 : Int32), un, un] [(.int (0 : Int32))] _
     refine XS.ifNo Xt.here hx rfl (hb hby at_270) rfl (XT.i0_ne_f ((by decide) : (0 : Int32) = (0 : Int32))) ?_
     refine XS.iload Xt.here hx rfl (hb hby at_273) rfl ?_
     show AT p e below Tt m 275 #[iv p0, iv p1, iv p2, iv p3, iv p4, iv p5, iv l6, iv c0, iv c1, iv d0, iv d1, iv na, iv sm, iv l13, iv l14, iv (0 : Int32), iv cl, rv t17, rv t18, rv t19, jv vv, se, iv c0, iv d0, iv (0 : Int32), iv (0 : Int32), un, un] [(.int (0 : Int32))] _
     refine XS.ifYes Xt.here hx rfl (pc0 := 275) (pc' := 284) rfl (hb hby at_275) rfl (XT.i0_eq_t ((by decide) : (0 : Int32) = (0 : Int32))) (by decide) (by decide) ?_
     refine XS.lconst Xt.here hx rfl (hb hby at_284) ?_
     refine XS.lstore Xt.here hx rfl (hb hby at_285) rfl (l' := #[iv p0, iv p1, iv p2, iv p3, iv p4, iv p5, iv l6, iv c0, iv c1, iv d0, iv d1, iv na, iv sm, iv l13, iv l14, iv (0 : Int32), iv cl, rv t17, rv t18, rv t19, jv vv, se, iv c0, iv d0, iv (0 : Int32), iv (0 : Int32), jv (0 : Int64), se]) rfl ?_
     refine XS.goto Xt.here hx rfl (pc0 := 287) (pc' := 335) rfl (hb hby at_287) (by decide) (by decide) ?_
     refine XS.lload Xt.here hx rfl (hb hby at_335) rfl ?_
     refine XS.lload Xt.here hx rfl (hb hby at_337) rfl ?_
     refine XS.lcmp Xt.here hx rfl (hb hby at_339) rfl ?_
     show AT p e below Tt m 340 #[iv p0, iv p1, iv p2, iv p3, iv p4, iv p5, iv l6, iv c0, iv c1, iv d0, iv d1, iv na, iv sm, iv l13, iv l14, iv (0 : Int32), iv cl, rv t17, rv t18, rv t19, jv vv, se, iv c0, iv d0, iv (0 : Int32), iv (0 : Int32), jv (0 : Int64), se] [(.int (XT.cmpL vv (0 : Int64)))] _
     refine XS.ifNo Xt.here hx rfl (hb hby at_340) rfl (XT.ll_ne_f (hf778 : vv = (0 : Int64))) ?_
     refine XS.iconst Xt.here hx rfl (hb hby at_343) ?_
     refine XS.goto Xt.here hx rfl (pc0 := 344) (pc' := 348) rfl (hb hby at_344) (by decide) (by decide) ?_
     exact retN Xt hx (t := .boolean) Bd.returns (by simp) (hb hby at_348) hr
    ·
     show Q0 Z p0 p1 p2 p3 p4 p5 h0 n0 _ Tt.heap _
     rw [et]
     exact ⟨rfl, Nt⟩
 have tail_r1 : ∀ (Tt : State) (vmt : Vm) (ht : Heap) (Lt : List Loc) (kt : Nat), Stand p l e room_1 (s.setVm vmt) m #[(.int p0), (.int p1), (.int p2), (.int p3), (.int p4), (.int p5)] below meth c Tt Lt 8 50 → Tt.heap = ht → Fr n0 Lt → Keep h0 ht [] → Old Z n0 ht → s.Since vmt kt → kt ≤ ht.size → Z.Warmed39 (s.setVm vmt).vm → (s.setVm vmt).vm.findClass "com/example/filters_under_siege/filtersundersiege/KeeperPairsCountPinLaw" = some m.cls → CHr Z EL0 s.vm h0 vmt ht → ∀ (l6 c0 c1 d0 d1 na sm l13 l14 cl : Int32) (t17 t18 t19 : Addr) (vv : Int64), Sp na sm c1 d1 cl vv → (∀ tg, AT p e below Tt m 212 #[iv p0, iv p1, iv p2, iv p3, iv p4, iv p5, iv l6, iv c0, iv c1, iv d0, iv d1, iv na, iv sm, iv l13, iv l14, iv (1 : Int32), iv cl, rv t17, rv t18, rv t19, jv vv, se, un, un, un, un, un, un] [] tg → Steps p.tables e below S0 tg) → G := by
  intro Tt vmt ht Lt kt Xt et Nt Kt Ot hS hk hZ hown CRt l6 c0 c1 d0 d1 na sm l13 l14 cl t17 t18 t19 vv hSp pret
  have pre779 : ∀ tg, AT p e below Tt m 244 #[iv p0, iv p1, iv p2, iv p3, iv p4, iv p5, iv l6, iv c0, iv c1, iv d0, iv d1, iv na, iv sm, iv l13, iv l14, iv (1 : Int32), iv cl, rv t17, rv t18, rv t19, jv vv, se, iv c1, iv d1, un, un, un, un] [(.int c1), (.int cl)] tg → Steps p.tables e below S0 tg := fun tg kg => pret tg (by
   refine XS.iload Xt.here hx rfl (hb hby at_212) rfl ?_
   show AT p e below Tt m 214 #[iv p0, iv p1, iv p2, iv p3, iv p4, iv p5, iv l6, iv c0, iv c1, iv d0, iv d1, iv na, iv sm, iv l13, iv l14, iv (1 : Int32), iv cl, rv t17, rv t18, rv t19, jv vv, se, un, un, un, un, un, un] [(.int (1 : Int32))] _
   refine XS.ifYes Xt.here hx rfl (pc0 := 214) (pc' := 222) rfl (hb hby at_214) rfl (XT.i0_ne_t ((by decide) : ¬ ((1 : Int32) = (0 : Int32)))) (by decide) (by decide) ?_
   refine XS.iload Xt.here hx rfl (hb hby at_222) rfl ?_
   refine XS.istore Xt.here hx rfl (hb hby at_224) rfl (l' := #[iv p0, iv p1, iv p2, iv p3, iv p4, iv p5, iv l6, iv c0, iv c1, iv d0, iv d1, iv na, iv sm, iv l13, iv l14, iv (1 : Int32), iv cl, rv t17, rv t18, rv t19, jv vv, se, iv c1, un, un, un, un, un]) rfl ?_
   refine XS.iload Xt.here hx rfl (hb hby at_226) rfl ?_
   show AT p e below Tt m 228 #[iv p0, iv p1, iv p2, iv p3, iv p4, iv p5, iv l6, iv c0, iv c1, iv d0, iv d1, iv na, iv sm, iv l13, iv l14, iv (1 : Int32), iv cl, rv t17, rv t18, rv t19, jv vv, se, iv c1, un, un, un, un, un] [(.int (1 : Int32))] _
   refine XS.ifYes Xt.here hx rfl (pc0 := 228) (pc' := 236) rfl (hb hby at_228) rfl (XT.i0_ne_t ((by decide) : ¬ ((1 : Int32) = (0 : Int32)))) (by decide) (by decide) ?_
   refine XS.iload Xt.here hx rfl (hb hby at_236) rfl ?_
   refine XS.istore Xt.here hx rfl (hb hby at_238) rfl (l' := #[iv p0, iv p1, iv p2, iv p3, iv p4, iv p5, iv l6, iv c0, iv c1, iv d0, iv d1, iv na, iv sm, iv l13, iv l14, iv (1 : Int32), iv cl, rv t17, rv t18, rv t19, jv vv, se, iv c1, iv d1, un, un, un, un]) rfl ?_
   refine XS.iload Xt.here hx rfl (hb hby at_240) rfl ?_
   refine XS.iload Xt.here hx rfl (hb hby at_242) rfl ?_
   exact kg)
  rcases Decidable.em (cl = c1) with hc780 | hc780
  ·
   have pre781 : ∀ tg, AT p e below Tt m 258 #[iv p0, iv p1, iv p2, iv p3, iv p4, iv p5, iv l6, iv c0, iv c1, iv d0, iv d1, iv na, iv sm, iv l13, iv l14, iv (1 : Int32), iv cl, rv t17, rv t18, rv t19, jv vv, se, iv c1, iv d1, iv (1 : Int32), un, un, un] [(.int d1), (.int cl)] tg → Steps p.tables e below S0 tg := fun tg kg => pre779 tg (by
    refine XS.icmpNo Xt.here hx rfl (hb hby at_244) rfl (XT.ii_ne_f hc780) ?_
    refine XS.iconst Xt.here hx rfl (hb hby at_247) ?_
    refine XS.goto Xt.here hx rfl (pc0 := 248) (pc' := 252) rfl (hb hby at_248) (by decide) (by decide) ?_
    refine XS.istore Xt.here hx rfl (hb hby at_252) rfl (l' := #[iv p0, iv p1, iv p2, iv p3, iv p4, iv p5, iv l6, iv c0, iv c1, iv d0, iv d1, iv na, iv sm, iv l13, iv l14, iv (1 : Int32), iv cl, rv t17, rv t18, rv t19, jv vv, se, iv c1, iv d1, iv (1 : Int32), un, un, un]) rfl ?_
    refine XS.iload Xt.here hx rfl (hb hby at_254) rfl ?_
    refine XS.iload Xt.here hx rfl (hb hby at_256) rfl ?_
    exact kg)
   rcases Decidable.em (cl = d1) with hc782 | hc782
   ·
    have pre783 : ∀ tg, AT p e below Tt m 303 #[iv p0, iv p1, iv p2, iv p3, iv p4, iv p5, iv l6, iv c0, iv c1, iv d0, iv d1, iv na, iv sm, iv l13, iv l14, iv (1 : Int32), iv cl, rv t17, rv t18, rv t19, jv vv, se, iv c1, iv d1, iv (1 : Int32), iv (1 : Int32), un, un] [(.int sm)] tg → Steps p.tables e below S0 tg := fun tg kg => pre781 tg (by
     refine XS.icmpNo Xt.here hx rfl (hb hby at_258) rfl (XT.ii_ne_f hc782) ?_
     refine XS.iconst Xt.here hx rfl (hb hby at_261) ?_
     refine XS.goto Xt.here hx rfl (pc0 := 262) (pc' := 266) rfl (hb hby at_262) (by decide) (by decide) ?_
     refine XS.istore Xt.here hx rfl (hb hby at_266) rfl (l' := #[iv p0, iv p1, iv p2, iv p3, iv p4, iv p5, iv l6, iv c0, iv c1, iv d0, iv d1, iv na, iv sm, iv l13, iv l14, iv (1 : Int32), iv cl, rv t17, rv t18, rv t19, jv vv, se, iv c1, iv d1, iv (1 : Int32), iv (1 : Int32), un, un]) rfl ?_
     refine XS.iload Xt.here hx rfl (hb hby at_268) rfl ?_
     show AT p e below Tt m 270 #[iv p0, iv p1, iv p2, iv p3, iv p4, iv p5, iv l6, iv c0, iv c1, iv d0, iv d1, iv na, iv sm, iv l13, iv l14, iv (1 : Int32), iv cl, rv t17, rv t18, rv t19, jv vv, se, iv c1, iv d1, iv (1 : Int32), iv (1 : Int32), un, un] [(.int (1 : Int32))] _
     refine XS.ifYes Xt.here hx rfl (pc0 := 270) (pc' := 290) rfl (hb hby at_270) rfl (XT.i0_ne_t ((by decide) : ¬ ((1 : Int32) = (0 : Int32)))) (by decide) (by decide) ?_
     refine XS.iload Xt.here hx rfl (hb hby at_290) rfl ?_
     show AT p e below Tt m 292 #[iv p0, iv p1, iv p2, iv p3, iv p4, iv p5, iv l6, iv c0, iv c1, iv d0, iv d1, iv na, iv sm, iv l13, iv l14, iv (1 : Int32), iv cl, rv t17, rv t18, rv t19, jv vv, se, iv c1, iv d1, iv (1 : Int32), iv (1 : Int32), un, un] [(.int (1 : Int32))] _
     refine XS.ifYes Xt.here hx rfl (pc0 := 292) (pc' := 301) rfl (hb hby at_292) rfl (XT.i0_ne_t ((by decide) : ¬ ((1 : Int32) = (0 : Int32)))) (by decide) (by decide) ?_
     refine XS.iload Xt.here hx rfl (hb hby at_301) rfl ?_
     exact kg)
    rcases Decidable.em (sm = (0 : Int32)) with hc784 | hc784
    ·
     have pre785 : ∀ tg, AT p e below Tt m 319 #[iv p0, iv p1, iv p2, iv p3, iv p4, iv p5, iv l6, iv c0, iv c1, iv d0, iv d1, iv na, iv sm, iv l13, iv l14, iv (1 : Int32), iv cl, rv t17, rv t18, rv t19, jv vv, se, iv c1, iv d1, iv (1 : Int32), iv (1 : Int32), un, un] [(.int (1 : Int32)), (.int na)] tg → Steps p.tables e below S0 tg := fun tg kg => pre783 tg (by
      refine XS.ifYes Xt.here hx rfl (pc0 := 303) (pc' := 316) rfl (hb hby at_303) rfl (XT.i0_eq_t hc784) (by decide) (by decide) ?_
      refine XS.iload Xt.here hx rfl (hb hby at_316) rfl ?_
      refine XS.iconst Xt.here hx rfl (hb hby at_318) ?_
      exact kg)
     rcases Decidable.em ((1 : Int32) < na) with hc786 | hc786
     ·
      have hf787 : vv = ((na - (1 : Int32)).toInt64) := hSp.2.2.2.2.2 hc782 hc780 hc784 hc786
      obtain ⟨fs, hr, hrun, hended, hRE⟩ := Xt.leaveW hS (by rw [et]; exact hk) (v := some (.int (1 : Int32))) (fun h => by rw [Bd.returns] at h; cases h)
      have CRf : CHr Z EL0 s.vm s.heap (Tt.setFrames fs).vm (Tt.setFrames fs).heap := by
        show CHr Z EL0 s.vm s.heap Tt.vm Tt.heap
        rw [hh, et]
        exact CRt.trans (CHv.at Xt hZ hEL CRt.1)
      subst hS0
      refine toG ⟨_, _, pre785 _ ?_, hrun, hended, _, _, rfl, ?_, CRf, hRE.1, hRE.2.1, hRE.2.2.1, hRE.2.2.2.mono (by decide) (by decide)⟩
      ·
       refine XS.icmpYes Xt.here hx rfl (pc0 := 319) (pc' := 328) rfl (hb hby at_319) rfl (XT.ii_gt_t hc786) (by decide) (by decide) ?_
       refine XS.iload Xt.here hx rfl (hb hby at_328) rfl ?_
       refine XS.iconst Xt.here hx rfl (hb hby at_330) ?_
       refine XS.isub Xt.here hx rfl (hb hby at_331) rfl ?_
       refine XS.i2l Xt.here hx rfl (hb hby at_332) rfl ?_
       refine XS.lstore Xt.here hx rfl (hb hby at_333) rfl (l' := #[iv p0, iv p1, iv p2, iv p3, iv p4, iv p5, iv l6, iv c0, iv c1, iv d0, iv d1, iv na, iv sm, iv l13, iv l14, iv (1 : Int32), iv cl, rv t17, rv t18, rv t19, jv vv, se, iv c1, iv d1, iv (1 : Int32), iv (1 : Int32), jv ((na - (1 : Int32)).toInt64), se]) rfl ?_
       refine XS.lload Xt.here hx rfl (hb hby at_335) rfl ?_
       refine XS.lload Xt.here hx rfl (hb hby at_337) rfl ?_
       refine XS.lcmp Xt.here hx rfl (hb hby at_339) rfl ?_
       show AT p e below Tt m 340 #[iv p0, iv p1, iv p2, iv p3, iv p4, iv p5, iv l6, iv c0, iv c1, iv d0, iv d1, iv na, iv sm, iv l13, iv l14, iv (1 : Int32), iv cl, rv t17, rv t18, rv t19, jv vv, se, iv c1, iv d1, iv (1 : Int32), iv (1 : Int32), jv ((na - (1 : Int32)).toInt64), se] [(.int (XT.cmpL vv ((na - (1 : Int32)).toInt64)))] _
       refine XS.ifNo Xt.here hx rfl (hb hby at_340) rfl (XT.ll_ne_f (hf787 : vv = ((na - (1 : Int32)).toInt64))) ?_
       refine XS.iconst Xt.here hx rfl (hb hby at_343) ?_
       refine XS.goto Xt.here hx rfl (pc0 := 344) (pc' := 348) rfl (hb hby at_344) (by decide) (by decide) ?_
       exact retN Xt hx (t := .boolean) Bd.returns (by simp) (hb hby at_348) hr
      ·
       show Q0 Z p0 p1 p2 p3 p4 p5 h0 n0 _ Tt.heap _
       rw [et]
       exact ⟨rfl, Nt⟩
     ·
      have hf788 : vv = (1 : Int64) := hSp.2.2.2.2.1 hc782 hc780 hc784 hc786
      obtain ⟨fs, hr, hrun, hended, hRE⟩ := Xt.leaveW hS (by rw [et]; exact hk) (v := some (.int (1 : Int32))) (fun h => by rw [Bd.returns] at h; cases h)
      have CRf : CHr Z EL0 s.vm s.heap (Tt.setFrames fs).vm (Tt.setFrames fs).heap := by
        show CHr Z EL0 s.vm s.heap Tt.vm Tt.heap
        rw [hh, et]
        exact CRt.trans (CHv.at Xt hZ hEL CRt.1)
      subst hS0
      refine toG ⟨_, _, pre785 _ ?_, hrun, hended, _, _, rfl, ?_, CRf, hRE.1, hRE.2.1, hRE.2.2.1, hRE.2.2.2.mono (by decide) (by decide)⟩
      ·
       refine XS.icmpNo Xt.here hx rfl (hb hby at_319) rfl (XT.ii_gt_f hc786) ?_
       refine XS.lconst Xt.here hx rfl (hb hby at_322) ?_
       refine XS.lstore Xt.here hx rfl (hb hby at_323) rfl (l' := #[iv p0, iv p1, iv p2, iv p3, iv p4, iv p5, iv l6, iv c0, iv c1, iv d0, iv d1, iv na, iv sm, iv l13, iv l14, iv (1 : Int32), iv cl, rv t17, rv t18, rv t19, jv vv, se, iv c1, iv d1, iv (1 : Int32), iv (1 : Int32), jv (1 : Int64), se]) rfl ?_
       refine XS.goto Xt.here hx rfl (pc0 := 325) (pc' := 335) rfl (hb hby at_325) (by decide) (by decide) ?_
       refine XS.lload Xt.here hx rfl (hb hby at_335) rfl ?_
       refine XS.lload Xt.here hx rfl (hb hby at_337) rfl ?_
       refine XS.lcmp Xt.here hx rfl (hb hby at_339) rfl ?_
       show AT p e below Tt m 340 #[iv p0, iv p1, iv p2, iv p3, iv p4, iv p5, iv l6, iv c0, iv c1, iv d0, iv d1, iv na, iv sm, iv l13, iv l14, iv (1 : Int32), iv cl, rv t17, rv t18, rv t19, jv vv, se, iv c1, iv d1, iv (1 : Int32), iv (1 : Int32), jv (1 : Int64), se] [(.int (XT.cmpL vv (1 : Int64)))] _
       refine XS.ifNo Xt.here hx rfl (hb hby at_340) rfl (XT.ll_ne_f (hf788 : vv = (1 : Int64))) ?_
       refine XS.iconst Xt.here hx rfl (hb hby at_343) ?_
       refine XS.goto Xt.here hx rfl (pc0 := 344) (pc' := 348) rfl (hb hby at_344) (by decide) (by decide) ?_
       exact retN Xt hx (t := .boolean) Bd.returns (by simp) (hb hby at_348) hr
      ·
       show Q0 Z p0 p1 p2 p3 p4 p5 h0 n0 _ Tt.heap _
       rw [et]
       exact ⟨rfl, Nt⟩
    ·
     have hf789 : vv = ((na + (1 : Int32)).toInt64) := hSp.2.2.2.1 hc782 hc780 hc784
     obtain ⟨fs, hr, hrun, hended, hRE⟩ := Xt.leaveW hS (by rw [et]; exact hk) (v := some (.int (1 : Int32))) (fun h => by rw [Bd.returns] at h; cases h)
     have CRf : CHr Z EL0 s.vm s.heap (Tt.setFrames fs).vm (Tt.setFrames fs).heap := by
       show CHr Z EL0 s.vm s.heap Tt.vm Tt.heap
       rw [hh, et]
       exact CRt.trans (CHv.at Xt hZ hEL CRt.1)
     subst hS0
     refine toG ⟨_, _, pre783 _ ?_, hrun, hended, _, _, rfl, ?_, CRf, hRE.1, hRE.2.1, hRE.2.2.1, hRE.2.2.2.mono (by decide) (by decide)⟩
     ·
      refine XS.ifNo Xt.here hx rfl (hb hby at_303) rfl (XT.i0_eq_f hc784) ?_
      refine XS.iload Xt.here hx rfl (hb hby at_306) rfl ?_
      refine XS.iconst Xt.here hx rfl (hb hby at_308) ?_
      refine XS.iadd Xt.here hx rfl (hb hby at_309) rfl ?_
      refine XS.i2l Xt.here hx rfl (hb hby at_310) rfl ?_
      refine XS.lstore Xt.here hx rfl (hb hby at_311) rfl (l' := #[iv p0, iv p1, iv p2, iv p3, iv p4, iv p5, iv l6, iv c0, iv c1, iv d0, iv d1, iv na, iv sm, iv l13, iv l14, iv (1 : Int32), iv cl, rv t17, rv t18, rv t19, jv vv, se, iv c1, iv d1, iv (1 : Int32), iv (1 : Int32), jv ((na + (1 : Int32)).toInt64), se]) rfl ?_
      refine XS.goto Xt.here hx rfl (pc0 := 313) (pc' := 335) rfl (hb hby at_313) (by decide) (by decide) ?_
      refine XS.lload Xt.here hx rfl (hb hby at_335) rfl ?_
      refine XS.lload Xt.here hx rfl (hb hby at_337) rfl ?_
      refine XS.lcmp Xt.here hx rfl (hb hby at_339) rfl ?_
      show AT p e below Tt m 340 #[iv p0, iv p1, iv p2, iv p3, iv p4, iv p5, iv l6, iv c0, iv c1, iv d0, iv d1, iv na, iv sm, iv l13, iv l14, iv (1 : Int32), iv cl, rv t17, rv t18, rv t19, jv vv, se, iv c1, iv d1, iv (1 : Int32), iv (1 : Int32), jv ((na + (1 : Int32)).toInt64), se] [(.int (XT.cmpL vv ((na + (1 : Int32)).toInt64)))] _
      refine XS.ifNo Xt.here hx rfl (hb hby at_340) rfl (XT.ll_ne_f (hf789 : vv = ((na + (1 : Int32)).toInt64))) ?_
      refine XS.iconst Xt.here hx rfl (hb hby at_343) ?_
      refine XS.goto Xt.here hx rfl (pc0 := 344) (pc' := 348) rfl (hb hby at_344) (by decide) (by decide) ?_
      exact retN Xt hx (t := .boolean) Bd.returns (by simp) (hb hby at_348) hr
     ·
      show Q0 Z p0 p1 p2 p3 p4 p5 h0 n0 _ Tt.heap _
      rw [et]
      exact ⟨rfl, Nt⟩
   ·
    have hf790 : vv = (na.toInt64) := hSp.1 hc782 hc780
    obtain ⟨fs, hr, hrun, hended, hRE⟩ := Xt.leaveW hS (by rw [et]; exact hk) (v := some (.int (1 : Int32))) (fun h => by rw [Bd.returns] at h; cases h)
    have CRf : CHr Z EL0 s.vm s.heap (Tt.setFrames fs).vm (Tt.setFrames fs).heap := by
      show CHr Z EL0 s.vm s.heap Tt.vm Tt.heap
      rw [hh, et]
      exact CRt.trans (CHv.at Xt hZ hEL CRt.1)
    subst hS0
    refine toG ⟨_, _, pre781 _ ?_, hrun, hended, _, _, rfl, ?_, CRf, hRE.1, hRE.2.1, hRE.2.2.1, hRE.2.2.2.mono (by decide) (by decide)⟩
    ·
     refine XS.icmpYes Xt.here hx rfl (pc0 := 258) (pc' := 265) rfl (hb hby at_258) rfl (XT.ii_ne_t hc782) (by decide) (by decide) ?_
     refine XS.iconst Xt.here hx rfl (hb hby at_265) ?_
     refine XS.istore Xt.here hx rfl (hb hby at_266) rfl (l' := #[iv p0, iv p1, iv p2, iv p3, iv p4, iv p5, iv l6, iv c0, iv c1, iv d0, iv d1, iv na, iv sm, iv l13, iv l14, iv (1 : Int32), iv cl, rv t17, rv t18, rv t19, jv vv, se, iv c1, iv d1, iv (1 : Int32), iv (0 : Int32), un, un]) rfl ?_
     refine XS.iload Xt.here hx rfl (hb hby at_268) rfl ?_
     show AT p e below Tt m 270 #[iv p0, iv p1, iv p2, iv p3, iv p4, iv p5, iv l6, iv c0, iv c1, iv d0, iv d1, iv na, iv sm, iv l13, iv l14, iv (1 : Int32), iv cl, rv t17, rv t18, rv t19, jv vv, se, iv c1, iv d1, iv (1 : Int32), iv (0 : Int32), un, un] [(.int (0 : Int32))] _
     refine XS.ifNo Xt.here hx rfl (hb hby at_270) rfl (XT.i0_ne_f ((by decide) : (0 : Int32) = (0 : Int32))) ?_
     refine XS.iload Xt.here hx rfl (hb hby at_273) rfl ?_
     show AT p e below Tt m 275 #[iv p0, iv p1, iv p2, iv p3, iv p4, iv p5, iv l6, iv c0, iv c1, iv d0, iv d1, iv na, iv sm, iv l13, iv l14, iv (1 : Int32), iv cl, rv t17, rv t18, rv t19, jv vv, se, iv c1, iv d1, iv (1 : Int32), iv (0 : Int32), un, un] [(.int (1 : Int32))] _
     refine XS.ifNo Xt.here hx rfl (hb hby at_275) rfl (XT.i0_eq_f ((by decide) : ¬ ((1 : Int32) = (0 : Int32)))) ?_
     refine XS.iload Xt.here hx rfl (hb hby at_278) rfl ?_
     refine XS.i2l Xt.here hx rfl (hb hby at_280) rfl ?_
     refine XS.goto Xt.here hx rfl (pc0 := 281) (pc' := 285) rfl (hb hby at_281) (by decide) (by decide) ?_
     refine XS.lstore Xt.here hx rfl (hb hby at_285) rfl (l' := #[iv p0, iv p1, iv p2, iv p3, iv p4, iv p5, iv l6, iv c0, iv c1, iv d0, iv d1, iv na, iv sm, iv l13, iv l14, iv (1 : Int32), iv cl, rv t17, rv t18, rv t19, jv vv, se, iv c1, iv d1, iv (1 : Int32), iv (0 : Int32), jv (na.toInt64), se]) rfl ?_
     refine XS.goto Xt.here hx rfl (pc0 := 287) (pc' := 335) rfl (hb hby at_287) (by decide) (by decide) ?_
     refine XS.lload Xt.here hx rfl (hb hby at_335) rfl ?_
     refine XS.lload Xt.here hx rfl (hb hby at_337) rfl ?_
     refine XS.lcmp Xt.here hx rfl (hb hby at_339) rfl ?_
     show AT p e below Tt m 340 #[iv p0, iv p1, iv p2, iv p3, iv p4, iv p5, iv l6, iv c0, iv c1, iv d0, iv d1, iv na, iv sm, iv l13, iv l14, iv (1 : Int32), iv cl, rv t17, rv t18, rv t19, jv vv, se, iv c1, iv d1, iv (1 : Int32), iv (0 : Int32), jv (na.toInt64), se] [(.int (XT.cmpL vv (na.toInt64)))] _
     refine XS.ifNo Xt.here hx rfl (hb hby at_340) rfl (XT.ll_ne_f (hf790 : vv = (na.toInt64))) ?_
     refine XS.iconst Xt.here hx rfl (hb hby at_343) ?_
     refine XS.goto Xt.here hx rfl (pc0 := 344) (pc' := 348) rfl (hb hby at_344) (by decide) (by decide) ?_
     exact retN Xt hx (t := .boolean) Bd.returns (by simp) (hb hby at_348) hr
    ·
     show Q0 Z p0 p1 p2 p3 p4 p5 h0 n0 _ Tt.heap _
     rw [et]
     exact ⟨rfl, Nt⟩
  ·
   have pre791 : ∀ tg, AT p e below Tt m 258 #[iv p0, iv p1, iv p2, iv p3, iv p4, iv p5, iv l6, iv c0, iv c1, iv d0, iv d1, iv na, iv sm, iv l13, iv l14, iv (1 : Int32), iv cl, rv t17, rv t18, rv t19, jv vv, se, iv c1, iv d1, iv (0 : Int32), un, un, un] [(.int d1), (.int cl)] tg → Steps p.tables e below S0 tg := fun tg kg => pre779 tg (by
    refine XS.icmpYes Xt.here hx rfl (pc0 := 244) (pc' := 251) rfl (hb hby at_244) rfl (XT.ii_ne_t hc780) (by decide) (by decide) ?_
    refine XS.iconst Xt.here hx rfl (hb hby at_251) ?_
    refine XS.istore Xt.here hx rfl (hb hby at_252) rfl (l' := #[iv p0, iv p1, iv p2, iv p3, iv p4, iv p5, iv l6, iv c0, iv c1, iv d0, iv d1, iv na, iv sm, iv l13, iv l14, iv (1 : Int32), iv cl, rv t17, rv t18, rv t19, jv vv, se, iv c1, iv d1, iv (0 : Int32), un, un, un]) rfl ?_
    refine XS.iload Xt.here hx rfl (hb hby at_254) rfl ?_
    refine XS.iload Xt.here hx rfl (hb hby at_256) rfl ?_
    exact kg)
   rcases Decidable.em (cl = d1) with hc792 | hc792
   ·
    have hf793 : vv = (1 : Int64) := hSp.2.2.1 hc792 hc780
    obtain ⟨fs, hr, hrun, hended, hRE⟩ := Xt.leaveW hS (by rw [et]; exact hk) (v := some (.int (1 : Int32))) (fun h => by rw [Bd.returns] at h; cases h)
    have CRf : CHr Z EL0 s.vm s.heap (Tt.setFrames fs).vm (Tt.setFrames fs).heap := by
      show CHr Z EL0 s.vm s.heap Tt.vm Tt.heap
      rw [hh, et]
      exact CRt.trans (CHv.at Xt hZ hEL CRt.1)
    subst hS0
    refine toG ⟨_, _, pre791 _ ?_, hrun, hended, _, _, rfl, ?_, CRf, hRE.1, hRE.2.1, hRE.2.2.1, hRE.2.2.2.mono (by decide) (by decide)⟩
    ·
     refine XS.icmpNo Xt.here hx rfl (hb hby at_258) rfl (XT.ii_ne_f hc792) ?_
     refine XS.iconst Xt.here hx rfl (hb hby at_261) ?_
     refine XS.goto Xt.here hx rfl (pc0 := 262) (pc' := 266) rfl (hb hby at_262) (by decide) (by decide) ?_
     refine XS.istore Xt.here hx rfl (hb hby at_266) rfl (l' := #[iv p0, iv p1, iv p2, iv p3, iv p4, iv p5, iv l6, iv c0, iv c1, iv d0, iv d1, iv na, iv sm, iv l13, iv l14, iv (1 : Int32), iv cl, rv t17, rv t18, rv t19, jv vv, se, iv c1, iv d1, iv (0 : Int32), iv (1 : Int32), un, un]) rfl ?_
     refine XS.iload Xt.here hx rfl (hb hby at_268) rfl ?_
     show AT p e below Tt m 270 #[iv p0, iv p1, iv p2, iv p3, iv p4, iv p5, iv l6, iv c0, iv c1, iv d0, iv d1, iv na, iv sm, iv l13, iv l14, iv (1 : Int32), iv cl, rv t17, rv t18, rv t19, jv vv, se, iv c1, iv d1, iv (0 : Int32), iv (1 : Int32), un, un] [(.int (1 : Int32))] _
     refine XS.ifYes Xt.here hx rfl (pc0 := 270) (pc' := 290) rfl (hb hby at_270) rfl (XT.i0_ne_t ((by decide) : ¬ ((1 : Int32) = (0 : Int32)))) (by decide) (by decide) ?_
     refine XS.iload Xt.here hx rfl (hb hby at_290) rfl ?_
     show AT p e below Tt m 292 #[iv p0, iv p1, iv p2, iv p3, iv p4, iv p5, iv l6, iv c0, iv c1, iv d0, iv d1, iv na, iv sm, iv l13, iv l14, iv (1 : Int32), iv cl, rv t17, rv t18, rv t19, jv vv, se, iv c1, iv d1, iv (0 : Int32), iv (1 : Int32), un, un] [(.int (0 : Int32))] _
     refine XS.ifNo Xt.here hx rfl (hb hby at_292) rfl (XT.i0_ne_f ((by decide) : (0 : Int32) = (0 : Int32))) ?_
     refine XS.lconst Xt.here hx rfl (hb hby at_295) ?_
     refine XS.lstore Xt.here hx rfl (hb hby at_296) rfl (l' := #[iv p0, iv p1, iv p2, iv p3, iv p4, iv p5, iv l6, iv c0, iv c1, iv d0, iv d1, iv na, iv sm, iv l13, iv l14, iv (1 : Int32), iv cl, rv t17, rv t18, rv t19, jv vv, se, iv c1, iv d1, iv (0 : Int32), iv (1 : Int32), jv (1 : Int64), se]) rfl ?_
     refine XS.goto Xt.here hx rfl (pc0 := 298) (pc' := 335) rfl (hb hby at_298) (by decide) (by decide) ?_
     refine XS.lload Xt.here hx rfl (hb hby at_335) rfl ?_
     refine XS.lload Xt.here hx rfl (hb hby at_337) rfl ?_
     refine XS.lcmp Xt.here hx rfl (hb hby at_339) rfl ?_
     show AT p e below Tt m 340 #[iv p0, iv p1, iv p2, iv p3, iv p4, iv p5, iv l6, iv c0, iv c1, iv d0, iv d1, iv na, iv sm, iv l13, iv l14, iv (1 : Int32), iv cl, rv t17, rv t18, rv t19, jv vv, se, iv c1, iv d1, iv (0 : Int32), iv (1 : Int32), jv (1 : Int64), se] [(.int (XT.cmpL vv (1 : Int64)))] _
     refine XS.ifNo Xt.here hx rfl (hb hby at_340) rfl (XT.ll_ne_f (hf793 : vv = (1 : Int64))) ?_
     refine XS.iconst Xt.here hx rfl (hb hby at_343) ?_
     refine XS.goto Xt.here hx rfl (pc0 := 344) (pc' := 348) rfl (hb hby at_344) (by decide) (by decide) ?_
     exact retN Xt hx (t := .boolean) Bd.returns (by simp) (hb hby at_348) hr
    ·
     show Q0 Z p0 p1 p2 p3 p4 p5 h0 n0 _ Tt.heap _
     rw [et]
     exact ⟨rfl, Nt⟩
   ·
    have hf794 : vv = (0 : Int64) := hSp.2.1 hc792 hc780
    obtain ⟨fs, hr, hrun, hended, hRE⟩ := Xt.leaveW hS (by rw [et]; exact hk) (v := some (.int (1 : Int32))) (fun h => by rw [Bd.returns] at h; cases h)
    have CRf : CHr Z EL0 s.vm s.heap (Tt.setFrames fs).vm (Tt.setFrames fs).heap := by
      show CHr Z EL0 s.vm s.heap Tt.vm Tt.heap
      rw [hh, et]
      exact CRt.trans (CHv.at Xt hZ hEL CRt.1)
    subst hS0
    refine toG ⟨_, _, pre791 _ ?_, hrun, hended, _, _, rfl, ?_, CRf, hRE.1, hRE.2.1, hRE.2.2.1, hRE.2.2.2.mono (by decide) (by decide)⟩
    ·
     refine XS.icmpYes Xt.here hx rfl (pc0 := 258) (pc' := 265) rfl (hb hby at_258) rfl (XT.ii_ne_t hc792) (by decide) (by decide) ?_
     refine XS.iconst Xt.here hx rfl (hb hby at_265) ?_
     refine XS.istore Xt.here hx rfl (hb hby at_266) rfl (l' := #[iv p0, iv p1, iv p2, iv p3, iv p4, iv p5, iv l6, iv c0, iv c1, iv d0, iv d1, iv na, iv sm, iv l13, iv l14, iv (1 : Int32), iv cl, rv t17, rv t18, rv t19, jv vv, se, iv c1, iv d1, iv (0 : Int32), iv (0 : Int32), un, un]) rfl ?_
     refine XS.iload Xt.here hx rfl (hb hby at_268) rfl ?_
     show AT p e below Tt m 270 #[iv p0, iv p1, iv p2, iv p3, iv p4, iv p5, iv l6, iv c0, iv c1, iv d0, iv d1, iv na, iv sm, iv l13, iv l14, iv (1 : Int32), iv cl, rv t17, rv t18, rv t19, jv vv, se, iv c1, iv d1, iv (0 : Int32), iv (0 : Int32), un, un] [(.int (0 : Int32))] _
     refine XS.ifNo Xt.here hx rfl (hb hby at_270) rfl (XT.i0_ne_f ((by decide) : (0 : Int32) = (0 : Int32))) ?_
     refine XS.iload Xt.here hx rfl (hb hby at_273) rfl ?_
     show AT p e below Tt m 275 #[iv p0, iv p1, iv p2, iv p3, iv p4, iv p5, iv l6, iv c0, iv c1, iv d0, iv d1, iv na, iv sm, iv l13, iv l14, iv (1 : Int32), iv cl, rv t17, rv t18, rv t19, jv vv, se, iv c1, iv d1, iv (0 : Int32), iv (0 : Int32), un, un] [(.int (0 : Int32))] _
     refine XS.ifYes Xt.here hx rfl (pc0 := 275) (pc' := 284) rfl (hb hby at_275) rfl (XT.i0_eq_t ((by decide) : (0 : Int32) = (0 : Int32))) (by decide) (by decide) ?_
     refine XS.lconst Xt.here hx rfl (hb hby at_284) ?_
     refine XS.lstore Xt.here hx rfl (hb hby at_285) rfl (l' := #[iv p0, iv p1, iv p2, iv p3, iv p4, iv p5, iv l6, iv c0, iv c1, iv d0, iv d1, iv na, iv sm, iv l13, iv l14, iv (1 : Int32), iv cl, rv t17, rv t18, rv t19, jv vv, se, iv c1, iv d1, iv (0 : Int32), iv (0 : Int32), jv (0 : Int64), se]) rfl ?_
     refine XS.goto Xt.here hx rfl (pc0 := 287) (pc' := 335) rfl (hb hby at_287) (by decide) (by decide) ?_
     refine XS.lload Xt.here hx rfl (hb hby at_335) rfl ?_
     refine XS.lload Xt.here hx rfl (hb hby at_337) rfl ?_
     refine XS.lcmp Xt.here hx rfl (hb hby at_339) rfl ?_
     show AT p e below Tt m 340 #[iv p0, iv p1, iv p2, iv p3, iv p4, iv p5, iv l6, iv c0, iv c1, iv d0, iv d1, iv na, iv sm, iv l13, iv l14, iv (1 : Int32), iv cl, rv t17, rv t18, rv t19, jv vv, se, iv c1, iv d1, iv (0 : Int32), iv (0 : Int32), jv (0 : Int64), se] [(.int (XT.cmpL vv (0 : Int64)))] _
     refine XS.ifNo Xt.here hx rfl (hb hby at_340) rfl (XT.ll_ne_f (hf794 : vv = (0 : Int64))) ?_
     refine XS.iconst Xt.here hx rfl (hb hby at_343) ?_
     refine XS.goto Xt.here hx rfl (pc0 := 344) (pc' := 348) rfl (hb hby at_344) (by decide) (by decide) ?_
     exact retN Xt hx (t := .boolean) Bd.returns (by simp) (hb hby at_348) hr
    ·
     show Q0 Z p0 p1 p2 p3 p4 p5 h0 n0 _ Tt.heap _
     rw [et]
     exact ⟨rfl, Nt⟩
 have tail_m1 : ∀ (Tt : State) (vmt : Vm) (ht : Heap) (Lt : List Loc) (kt : Nat), Stand p l e room_1 (s.setVm vmt) m #[(.int p0), (.int p1), (.int p2), (.int p3), (.int p4), (.int p5)] below meth c Tt Lt 8 38 → Tt.heap = ht → Fr n0 Lt → Keep h0 ht [] → Old Z n0 ht → s.Since vmt kt → kt ≤ ht.size → Z.Warmed39 (s.setVm vmt).vm → (s.setVm vmt).vm.findClass "com/example/filters_under_siege/filtersundersiege/KeeperPairsCountPinLaw" = some m.cls → CHr Z EL0 s.vm h0 vmt ht → ∀ (c0 c1 d0 d1 na sm fb cl : Int32) (t17 t18 t19 shp fa ca : Addr) (kk kf kc : ClassId) (JJ : Int64), Exa Z ht t18 "[I" → Arv Z ht t18 kk .int (2 : Int32) [(.int d0), (.int d1)] (.int (0 : Int32)) → Exa Z ht t19 "com/example/filters_under_siege/filtersundersiege/KeeperPairs" → Fld Z ht t19 "com/example/filters_under_siege/filtersundersiege/KeeperPairs" "shape" "Lcom/example/filters_under_siege/filtersundersiege/SketchShape;" (.ref shp) → Fld Z ht t19 "com/example/filters_under_siege/filtersundersiege/KeeperPairs" "fingerprints" "[I" (.ref fa) → Fld Z ht t19 "com/example/filters_under_siege/filtersundersiege/KeeperPairs" "counts" "[J" (.ref ca) → Fld Z ht t19 "com/example/filters_under_siege/filtersundersiege/KeeperPairs" "knocksDown" "Ljava/util/function/LongPredicate;" (.ref w_lam) → Exa Z ht shp "com/example/filters_under_siege/filtersundersiege/SketchShape" → Fld Z ht shp "com/example/filters_under_siege/filtersundersiege/SketchShape" "width" "I" (.int (1 : Int32)) → Exa Z ht fa "[I" → Exa Z ht ca "[J" → Arv Z ht fa kf .int (2 : Int32) [(.int (pI c0 (0 : Int32) p4 (0 : Int32))), (.int (pI c1 (0 : Int32) p4 (0 : Int32)))] (.int (0 : Int32)) → Arv Z ht ca kc .long (2 : Int32) [(.long (pJ c0 (0 : Int32) JJ (0 : Int64))), (.long (pJ c1 (0 : Int32) JJ (0 : Int64)))] (.long (0 : Int64)) → n0 ≤ fa → n0 ≤ ca → h0.size ≤ fa → h0.size ≤ ca → t18 ≠ fa → (c0 = (0 : Int32)) → (c1 = (0 : Int32)) → (d0 = (0 : Int32)) → (d1 = (0 : Int32)) → (cl = (0 : Int32)) → ((sm = (0 : Int32) ∧ fb = p4 + (1 : Int32)) ∨ (¬ sm = (0 : Int32) ∧ fb = p4)) → JJ = (na.toInt64) → (na = (1 : Int32) ∨ na = (2 : Int32) ∨ na = (3 : Int32)) → (∀ tg, AT p e below Tt m 192 #[iv p0, iv p1, iv p2, iv p3, iv p4, iv p5, iv (1 : Int32), iv c0, iv c1, iv d0, iv d1, iv na, iv sm, iv p4, iv fb, iv (p3 &&& (1 : Int32)), iv cl, rv t17, rv t18, rv t19, un, un, un, un, un, un, un, un] [] tg → Steps p.tables e below S0 tg) → G := by
  intro Tt vmt ht Lt kt Xt et Nt Kt Ot hS hk hZ hown CRt c0 c1 d0 d1 na sm fb cl t17 t18 t19 shp fa ca kk kf kc JJ it0 it1 it2 it3 it4 it5 it6 it7 it8 it9 it10 it11 it12 it13 it14 it15 it16 it17 hsc0 hsc1 hsd0 hsd1 hscl hfbs hJ hn123 pret
  obtain ⟨cq691, kq691, q691a, q691b, q691c⟩ := isOf hZ et it2
  obtain ⟨_, _, ⟨T691, L691, k691, n691⟩, -, X691, ⟨Lc691, hQ691, l691, y691, z691⟩, st691⟩ := Xt.virtualBack hx (y := y8) (z := y8) hown (mvT hZ (ow hw 62 rfl)) (mvT hZ (ow hw 63 rfl)) (notFace_of_selects (args := #[]) (mvT hZ (ow hw 65 rfl))) (mvT hZ (ow hw 65 rfl)) (mvT hZ (ow hw 64 rfl)) (by decide) (backOf (W := 0) (rm8_1 l Z ar hw [] t19 t18 fb _ _ _ _ _ _ _ _ _ _ _ _ ht n0 Ot HW it2 it3 it7 it8 it4 it5 it6 it0 it1 it9 it10 it11 it12 it13 it14 it17 hsd0 hsd1) hZ (ow hw 66 rfl) (ow hw 4 rfl) (by decide) (by decide)) q691a q691c (g := (mkF m 198 #[iv p0, iv p1, iv p2, iv p3, iv p4, iv p5, iv (1 : Int32), iv c0, iv c1, iv d0, iv d1, iv na, iv sm, iv p4, iv fb, iv (p3 &&& (1 : Int32)), iv cl, rv t17, rv t18, rv t19, un, un, un, un, un, un, un, un] [(.int fb), (.ref t18), (.ref t19)])) rfl (by rw [hml]; rfl) (Steps.refl _) (argsL := [(.ref t18), (.int fb)]) (rest := []) (lenOf pd_6 rfl) rfl (by show 2 * 0 + _ ≤ _; exact Nat.le_of_eq rfl) (hb hby at_198) (fun _ _ => ⟨rfl, et, (by decide : 8 + 0 ≤ _), (by decide : 38 + 0 ≤ _)⟩)
  dsimp only [Pt.U, Pt.locs, Pt.cells, Pt.slots] at X691 l691 y691 z691 st691 hQ691
  subst l691 y691 z691
  obtain ⟨rfl, N691q, Kq691, u691_0, u691_1⟩ := hQ691
  have N691 := Fr.app Nt N691q
  have E691_692 := it0.keep Kq691
  have V691_693 := it1.keep Kq691 (ninS it17 (ninS (ne_exa it0 it10 (by decide)) nin0))
  have E691_694 := it2.keep Kq691
  have F691_695 := it3.keep Kq691 (ninS (ne_exa it2 it9 (by decide)) (ninS (ne_exa it2 it10 (by decide)) nin0))
  have F691_696 := it4.keep Kq691 (ninS (ne_exa it2 it9 (by decide)) (ninS (ne_exa it2 it10 (by decide)) nin0))
  have F691_697 := it5.keep Kq691 (ninS (ne_exa it2 it9 (by decide)) (ninS (ne_exa it2 it10 (by decide)) nin0))
  have F691_698 := it6.keep Kq691 (ninS (ne_exa it2 it9 (by decide)) (ninS (ne_exa it2 it10 (by decide)) nin0))
  have E691_699 := it7.keep Kq691
  have F691_700 := it8.keep Kq691 (ninS (ne_exa it7 it9 (by decide)) (ninS (ne_exa it7 it10 (by decide)) nin0))
  have E691_701 := it9.keep Kq691
  have E691_702 := it10.keep Kq691
  have K691 := Kt.trans Kq691 (allS (Or.inr it15) (allS (Or.inr it16) all0))
  have O691 := Ot.keep Kq691 (allS it13 (allS it14 all0))
  have CR691 : CHr Z EL0 s.vm h0 vmt T691.heap := CRt.trans (CHr.keep Kq691 (allS own_sf0 (allS own_sf0 all0)) CRt.1)
  have hk := Nat.le_trans hk Kq691.1
  have pre703 : ∀ tg, AT p e below T691 m 201 #[iv p0, iv p1, iv p2, iv p3, iv p4, iv p5, iv (1 : Int32), iv c0, iv c1, iv d0, iv d1, iv na, iv sm, iv p4, iv fb, iv (p3 &&& (1 : Int32)), iv cl, rv t17, rv t18, rv t19, un, un, un, un, un, un, un, un] [] tg → Steps p.tables e below S0 tg := fun tg kg => pret tg (by
   refine XS.aload Xt.here hx rfl (hb hby at_192) rfl rfl ?_
   refine XS.aload Xt.here hx rfl (hb hby at_194) rfl rfl ?_
   refine XS.iload Xt.here hx rfl (hb hby at_196) rfl ?_
   refine st691.trans ?_
   exact kg)
  obtain ⟨rr, hrr⟩ : ∃ z, z = (p3 &&& (1 : Int32)) := ⟨_, rfl⟩
  have pre704 : ∀ tg, AT p e below T691 m 201 #[iv p0, iv p1, iv p2, iv p3, iv p4, iv p5, iv (1 : Int32), iv c0, iv c1, iv d0, iv d1, iv na, iv sm, iv p4, iv fb, iv rr, iv cl, rv t17, rv t18, rv t19, un, un, un, un, un, un, un, un] [] tg → Steps p.tables e below S0 tg := by rw [hrr]; exact pre703
  have hsrr : rr = (0 : Int32) ∨ rr = (1 : Int32) := by rw [hrr]; exact own_a1 p3
  rcases hsrr with rfl | rfl
  ·
   obtain ⟨cq705, kq705, q705a, q705b, q705c⟩ := isOf hZ rfl E691_694
   obtain ⟨_, _, ⟨T705, L705, k705, n705⟩, -, X705, ⟨Lc705, hQ705, l705, y705, z705⟩, st705⟩ := X691.virtualBack hx (y := y10) (z := y10) hown (mvT hZ (ow hw 72 rfl)) (mvT hZ (ow hw 73 rfl)) (notFace_of_selects (args := #[]) (mvT hZ (ow hw 75 rfl))) (mvT hZ (ow hw 75 rfl)) (mvT hZ (ow hw 74 rfl)) (by decide) (backOf (W := 0) (rm10_1_0 l Z ar hw [] t19 cl _ _ _ _ _ T691.heap n0 O691 E691_694 F691_695 E691_699 F691_700 F691_697 u691_1 hscl) hZ (ow hw 76 rfl) (ow hw 4 rfl) (by decide) (by decide)) q705a q705c (g := (mkF m 207 #[iv p0, iv p1, iv p2, iv p3, iv p4, iv p5, iv (1 : Int32), iv c0, iv c1, iv d0, iv d1, iv na, iv sm, iv p4, iv fb, iv (0 : Int32), iv cl, rv t17, rv t18, rv t19, un, un, un, un, un, un, un, un] [(.int cl), (.int (0 : Int32)), (.ref t19)])) rfl (by rw [hml]; rfl) (Steps.refl _) (argsL := [(.int (0 : Int32)), (.int cl)]) (rest := []) (lenOf pd_7 rfl) rfl (by show 2 * 0 + _ ≤ _; exact Nat.le_of_eq rfl) (hb hby at_207) (fun _ _ => ⟨rfl, rfl, (by decide : 8 + 0 ≤ _), (by decide : 38 + 0 ≤ _)⟩)
   dsimp only [Pt.U, Pt.locs, Pt.cells, Pt.slots] at X705 l705 y705 z705 st705 hQ705
   subst l705 y705 z705
   obtain ⟨rfl, N705q, e705⟩ := hQ705
   have N705 := Fr.app N691 N705q
   have hSp : Sp na sm c0 d0 cl (sJ1 cl (pJ d0 (0 : Int32) (nc (sJ1 d0 (pJ c0 (0 : Int32) JJ (0 : Int64))) (sI1 d0 (pI c0 (0 : Int32) p4 (0 : Int32))) fb) (pJ c0 (0 : Int32) JJ (0 : Int64)))) := by rw [own_selJ1 hsd0 hscl, own_selJ1 hsc0 hsd0, own_selJ1 hsc0 hscl, own_selI1 hsc0 hsd0, own_s0J1 d0, own_s0J1 cl, own_s0I1 d0]; exact own_SpJ hJ hn123 hfbs
   have pre706 : ∀ tg, AT p e below T705 m 212 #[iv p0, iv p1, iv p2, iv p3, iv p4, iv p5, iv (1 : Int32), iv c0, iv c1, iv d0, iv d1, iv na, iv sm, iv p4, iv fb, iv (0 : Int32), iv cl, rv t17, rv t18, rv t19, jv (sJ1 cl (pJ d0 (0 : Int32) (nc (sJ1 d0 (pJ c0 (0 : Int32) JJ (0 : Int64))) (sI1 d0 (pI c0 (0 : Int32) p4 (0 : Int32))) fb) (pJ c0 (0 : Int32) JJ (0 : Int64)))), se, un, un, un, un, un, un] [] tg → Steps p.tables e below S0 tg := fun tg kg => pre704 tg (by
    refine XS.aload X691.here hx rfl (hb hby at_201) rfl rfl ?_
    refine XS.iload X691.here hx rfl (hb hby at_203) rfl ?_
    refine XS.iload X691.here hx rfl (hb hby at_205) rfl ?_
    refine st705.trans ?_
    refine XS.lstore X705.here hx rfl (hb hby at_210) rfl (l' := #[iv p0, iv p1, iv p2, iv p3, iv p4, iv p5, iv (1 : Int32), iv c0, iv c1, iv d0, iv d1, iv na, iv sm, iv p4, iv fb, iv (0 : Int32), iv cl, rv t17, rv t18, rv t19, jv (sJ1 cl (pJ d0 (0 : Int32) (nc (sJ1 d0 (pJ c0 (0 : Int32) JJ (0 : Int64))) (sI1 d0 (pI c0 (0 : Int32) p4 (0 : Int32))) fb) (pJ c0 (0 : Int32) JJ (0 : Int64)))), se, un, un, un, un, un, un]) rfl ?_
    exact kg)
   exact tail_r0 _ _ _ _ _ (own_mono X705 (by decide) (by decide)) e705 N705 K691 O691 hS hk hZ hown CR691 _ _ _ _ _ _ _ _ _ _ _ _ _ _ hSp pre706
  ·
   obtain ⟨cq707, kq707, q707a, q707b, q707c⟩ := isOf hZ rfl E691_694
   obtain ⟨_, _, ⟨T707, L707, k707, n707⟩, -, X707, ⟨Lc707, hQ707, l707, y707, z707⟩, st707⟩ := X691.virtualBack hx (y := y10) (z := y10) hown (mvT hZ (ow hw 72 rfl)) (mvT hZ (ow hw 73 rfl)) (notFace_of_selects (args := #[]) (mvT hZ (ow hw 75 rfl))) (mvT hZ (ow hw 75 rfl)) (mvT hZ (ow hw 74 rfl)) (by decide) (backOf (W := 0) (rm10_1_1 l Z ar hw [] t19 cl _ _ _ _ _ T691.heap n0 O691 E691_694 F691_695 E691_699 F691_700 F691_697 u691_1 hscl) hZ (ow hw 76 rfl) (ow hw 4 rfl) (by decide) (by decide)) q707a q707c (g := (mkF m 207 #[iv p0, iv p1, iv p2, iv p3, iv p4, iv p5, iv (1 : Int32), iv c0, iv c1, iv d0, iv d1, iv na, iv sm, iv p4, iv fb, iv (1 : Int32), iv cl, rv t17, rv t18, rv t19, un, un, un, un, un, un, un, un] [(.int cl), (.int (1 : Int32)), (.ref t19)])) rfl (by rw [hml]; rfl) (Steps.refl _) (argsL := [(.int (1 : Int32)), (.int cl)]) (rest := []) (lenOf pd_7 rfl) rfl (by show 2 * 0 + _ ≤ _; exact Nat.le_of_eq rfl) (hb hby at_207) (fun _ _ => ⟨rfl, rfl, (by decide : 8 + 0 ≤ _), (by decide : 38 + 0 ≤ _)⟩)
   dsimp only [Pt.U, Pt.locs, Pt.cells, Pt.slots] at X707 l707 y707 z707 st707 hQ707
   subst l707 y707 z707
   obtain ⟨rfl, N707q, e707⟩ := hQ707
   have N707 := Fr.app N691 N707q
   have hSp : Sp na sm c1 d1 cl (sJ1 cl (pJ d1 (0 : Int32) (nc (sJ1 d1 (pJ c1 (0 : Int32) JJ (0 : Int64))) (sI1 d1 (pI c1 (0 : Int32) p4 (0 : Int32))) fb) (pJ c1 (0 : Int32) JJ (0 : Int64)))) := by rw [own_selJ1 hsd1 hscl, own_selJ1 hsc1 hsd1, own_selJ1 hsc1 hscl, own_selI1 hsc1 hsd1, own_s0J1 d1, own_s0J1 cl, own_s0I1 d1]; exact own_SpJ hJ hn123 hfbs
   have pre708 : ∀ tg, AT p e below T707 m 212 #[iv p0, iv p1, iv p2, iv p3, iv p4, iv p5, iv (1 : Int32), iv c0, iv c1, iv d0, iv d1, iv na, iv sm, iv p4, iv fb, iv (1 : Int32), iv cl, rv t17, rv t18, rv t19, jv (sJ1 cl (pJ d1 (0 : Int32) (nc (sJ1 d1 (pJ c1 (0 : Int32) JJ (0 : Int64))) (sI1 d1 (pI c1 (0 : Int32) p4 (0 : Int32))) fb) (pJ c1 (0 : Int32) JJ (0 : Int64)))), se, un, un, un, un, un, un] [] tg → Steps p.tables e below S0 tg := fun tg kg => pre704 tg (by
    refine XS.aload X691.here hx rfl (hb hby at_201) rfl rfl ?_
    refine XS.iload X691.here hx rfl (hb hby at_203) rfl ?_
    refine XS.iload X691.here hx rfl (hb hby at_205) rfl ?_
    refine st707.trans ?_
    refine XS.lstore X707.here hx rfl (hb hby at_210) rfl (l' := #[iv p0, iv p1, iv p2, iv p3, iv p4, iv p5, iv (1 : Int32), iv c0, iv c1, iv d0, iv d1, iv na, iv sm, iv p4, iv fb, iv (1 : Int32), iv cl, rv t17, rv t18, rv t19, jv (sJ1 cl (pJ d1 (0 : Int32) (nc (sJ1 d1 (pJ c1 (0 : Int32) JJ (0 : Int64))) (sI1 d1 (pI c1 (0 : Int32) p4 (0 : Int32))) fb) (pJ c1 (0 : Int32) JJ (0 : Int64)))), se, un, un, un, un, un, un]) rfl ?_
    exact kg)
   exact tail_r1 _ _ _ _ _ (own_mono X707 (by decide) (by decide)) e707 N707 K691 O691 hS hk hZ hown CR691 _ _ _ _ _ _ _ _ _ _ _ _ _ _ hSp pre708
 have tail_m2 : ∀ (Tt : State) (vmt : Vm) (ht : Heap) (Lt : List Loc) (kt : Nat), Stand p l e room_1 (s.setVm vmt) m #[(.int p0), (.int p1), (.int p2), (.int p3), (.int p4), (.int p5)] below meth c Tt Lt 8 42 → Tt.heap = ht → Fr n0 Lt → Keep h0 ht [] → Old Z n0 ht → s.Since vmt kt → kt ≤ ht.size → Z.Warmed39 (s.setVm vmt).vm → (s.setVm vmt).vm.findClass "com/example/filters_under_siege/filtersundersiege/KeeperPairsCountPinLaw" = some m.cls → CHr Z EL0 s.vm h0 vmt ht → ∀ (c0 c1 d0 d1 na sm fb cl : Int32) (t17 t18 t19 shp fa ca : Addr) (kk kf kc : ClassId) (JJ : Int64), Exa Z ht t18 "[I" → Arv Z ht t18 kk .int (2 : Int32) [(.int d0), (.int d1)] (.int (0 : Int32)) → Exa Z ht t19 "com/example/filters_under_siege/filtersundersiege/KeeperPairs" → Fld Z ht t19 "com/example/filters_under_siege/filtersundersiege/KeeperPairs" "shape" "Lcom/example/filters_under_siege/filtersundersiege/SketchShape;" (.ref shp) → Fld Z ht t19 "com/example/filters_under_siege/filtersundersiege/KeeperPairs" "fingerprints" "[I" (.ref fa) → Fld Z ht t19 "com/example/filters_under_siege/filtersundersiege/KeeperPairs" "counts" "[J" (.ref ca) → Fld Z ht t19 "com/example/filters_under_siege/filtersundersiege/KeeperPairs" "knocksDown" "Ljava/util/function/LongPredicate;" (.ref w_lam) → Exa Z ht shp "com/example/filters_under_siege/filtersundersiege/SketchShape" → Fld Z ht shp "com/example/filters_under_siege/filtersundersiege/SketchShape" "width" "I" (.int (2 : Int32)) → Exa Z ht fa "[I" → Exa Z ht ca "[J" → Arv Z ht fa kf .int (4 : Int32) [(.int (pI c0 (0 : Int32) p4 (0 : Int32))), (.int (pI c0 (1 : Int32) p4 (0 : Int32))), (.int (pI c1 (0 : Int32) p4 (0 : Int32))), (.int (pI c1 (1 : Int32) p4 (0 : Int32)))] (.int (0 : Int32)) → Arv Z ht ca kc .long (4 : Int32) [(.long (pJ c0 (0 : Int32) JJ (0 : Int64))), (.long (pJ c0 (1 : Int32) JJ (0 : Int64))), (.long (pJ c1 (0 : Int32) JJ (0 : Int64))), (.long (pJ c1 (1 : Int32) JJ (0 : Int64)))] (.long (0 : Int64)) → n0 ≤ fa → n0 ≤ ca → h0.size ≤ fa → h0.size ≤ ca → t18 ≠ fa → (c0 = (0 : Int32) ∨ c0 = (1 : Int32)) → (c1 = (0 : Int32) ∨ c1 = (1 : Int32)) → (d0 = (0 : Int32) ∨ d0 = (1 : Int32)) → (d1 = (0 : Int32) ∨ d1 = (1 : Int32)) → (cl = (0 : Int32) ∨ cl = (1 : Int32)) → ((sm = (0 : Int32) ∧ fb = p4 + (1 : Int32)) ∨ (¬ sm = (0 : Int32) ∧ fb = p4)) → JJ = (na.toInt64) → (na = (1 : Int32) ∨ na = (2 : Int32) ∨ na = (3 : Int32)) → (∀ tg, AT p e below Tt m 192 #[iv p0, iv p1, iv p2, iv p3, iv p4, iv p5, iv (2 : Int32), iv c0, iv c1, iv d0, iv d1, iv na, iv sm, iv p4, iv fb, iv (p3 &&& (1 : Int32)), iv cl, rv t17, rv t18, rv t19, un, un, un, un, un, un, un, un] [] tg → Steps p.tables e below S0 tg) → G := by
  intro Tt vmt ht Lt kt Xt et Nt Kt Ot hS hk hZ hown CRt c0 c1 d0 d1 na sm fb cl t17 t18 t19 shp fa ca kk kf kc JJ it0 it1 it2 it3 it4 it5 it6 it7 it8 it9 it10 it11 it12 it13 it14 it15 it16 it17 hsc0 hsc1 hsd0 hsd1 hscl hfbs hJ hn123 pret
  obtain ⟨cq709, kq709, q709a, q709b, q709c⟩ := isOf hZ et it2
  obtain ⟨_, _, ⟨T709, L709, k709, n709⟩, -, X709, ⟨Lc709, hQ709, l709, y709, z709⟩, st709⟩ := Xt.virtualBack hx (y := y8) (z := y8) hown (mvT hZ (ow hw 62 rfl)) (mvT hZ (ow hw 63 rfl)) (notFace_of_selects (args := #[]) (mvT hZ (ow hw 65 rfl))) (mvT hZ (ow hw 65 rfl)) (mvT hZ (ow hw 64 rfl)) (by decide) (backOf (W := 0) (rm8_2 l Z ar hw [] t19 t18 fb _ _ _ _ _ _ _ _ _ _ _ _ _ _ _ _ ht n0 Ot HW it2 it3 it7 it8 it4 it5 it6 it0 it1 it9 it10 it11 it12 it13 it14 it17 hsd0 hsd1) hZ (ow hw 66 rfl) (ow hw 4 rfl) (by decide) (by decide)) q709a q709c (g := (mkF m 198 #[iv p0, iv p1, iv p2, iv p3, iv p4, iv p5, iv (2 : Int32), iv c0, iv c1, iv d0, iv d1, iv na, iv sm, iv p4, iv fb, iv (p3 &&& (1 : Int32)), iv cl, rv t17, rv t18, rv t19, un, un, un, un, un, un, un, un] [(.int fb), (.ref t18), (.ref t19)])) rfl (by rw [hml]; rfl) (Steps.refl _) (argsL := [(.ref t18), (.int fb)]) (rest := []) (lenOf pd_6 rfl) rfl (by show 2 * 0 + _ ≤ _; exact Nat.le_of_eq rfl) (hb hby at_198) (fun _ _ => ⟨rfl, et, (by decide : 8 + 0 ≤ _), (by decide : 42 + 0 ≤ _)⟩)
  dsimp only [Pt.U, Pt.locs, Pt.cells, Pt.slots] at X709 l709 y709 z709 st709 hQ709
  subst l709 y709 z709
  obtain ⟨rfl, N709q, Kq709, u709_0, u709_1⟩ := hQ709
  have N709 := Fr.app Nt N709q
  have E709_710 := it0.keep Kq709
  have V709_711 := it1.keep Kq709 (ninS it17 (ninS (ne_exa it0 it10 (by decide)) nin0))
  have E709_712 := it2.keep Kq709
  have F709_713 := it3.keep Kq709 (ninS (ne_exa it2 it9 (by decide)) (ninS (ne_exa it2 it10 (by decide)) nin0))
  have F709_714 := it4.keep Kq709 (ninS (ne_exa it2 it9 (by decide)) (ninS (ne_exa it2 it10 (by decide)) nin0))
  have F709_715 := it5.keep Kq709 (ninS (ne_exa it2 it9 (by decide)) (ninS (ne_exa it2 it10 (by decide)) nin0))
  have F709_716 := it6.keep Kq709 (ninS (ne_exa it2 it9 (by decide)) (ninS (ne_exa it2 it10 (by decide)) nin0))
  have E709_717 := it7.keep Kq709
  have F709_718 := it8.keep Kq709 (ninS (ne_exa it7 it9 (by decide)) (ninS (ne_exa it7 it10 (by decide)) nin0))
  have E709_719 := it9.keep Kq709
  have E709_720 := it10.keep Kq709
  have K709 := Kt.trans Kq709 (allS (Or.inr it15) (allS (Or.inr it16) all0))
  have O709 := Ot.keep Kq709 (allS it13 (allS it14 all0))
  have CR709 : CHr Z EL0 s.vm h0 vmt T709.heap := CRt.trans (CHr.keep Kq709 (allS own_sf0 (allS own_sf0 all0)) CRt.1)
  have hk := Nat.le_trans hk Kq709.1
  have pre721 : ∀ tg, AT p e below T709 m 201 #[iv p0, iv p1, iv p2, iv p3, iv p4, iv p5, iv (2 : Int32), iv c0, iv c1, iv d0, iv d1, iv na, iv sm, iv p4, iv fb, iv (p3 &&& (1 : Int32)), iv cl, rv t17, rv t18, rv t19, un, un, un, un, un, un, un, un] [] tg → Steps p.tables e below S0 tg := fun tg kg => pret tg (by
   refine XS.aload Xt.here hx rfl (hb hby at_192) rfl rfl ?_
   refine XS.aload Xt.here hx rfl (hb hby at_194) rfl rfl ?_
   refine XS.iload Xt.here hx rfl (hb hby at_196) rfl ?_
   refine st709.trans ?_
   exact kg)
  obtain ⟨rr, hrr⟩ : ∃ z, z = (p3 &&& (1 : Int32)) := ⟨_, rfl⟩
  have pre722 : ∀ tg, AT p e below T709 m 201 #[iv p0, iv p1, iv p2, iv p3, iv p4, iv p5, iv (2 : Int32), iv c0, iv c1, iv d0, iv d1, iv na, iv sm, iv p4, iv fb, iv rr, iv cl, rv t17, rv t18, rv t19, un, un, un, un, un, un, un, un] [] tg → Steps p.tables e below S0 tg := by rw [hrr]; exact pre721
  have hsrr : rr = (0 : Int32) ∨ rr = (1 : Int32) := by rw [hrr]; exact own_a1 p3
  rcases hsrr with rfl | rfl
  ·
   obtain ⟨cq723, kq723, q723a, q723b, q723c⟩ := isOf hZ rfl E709_712
   obtain ⟨_, _, ⟨T723, L723, k723, n723⟩, -, X723, ⟨Lc723, hQ723, l723, y723, z723⟩, st723⟩ := X709.virtualBack hx (y := y10) (z := y10) hown (mvT hZ (ow hw 72 rfl)) (mvT hZ (ow hw 73 rfl)) (notFace_of_selects (args := #[]) (mvT hZ (ow hw 75 rfl))) (mvT hZ (ow hw 75 rfl)) (mvT hZ (ow hw 74 rfl)) (by decide) (backOf (W := 0) (rm10_2_0 l Z ar hw [] t19 cl _ _ _ _ _ _ _ T709.heap n0 O709 E709_712 F709_713 E709_717 F709_718 F709_715 u709_1 hscl) hZ (ow hw 76 rfl) (ow hw 4 rfl) (by decide) (by decide)) q723a q723c (g := (mkF m 207 #[iv p0, iv p1, iv p2, iv p3, iv p4, iv p5, iv (2 : Int32), iv c0, iv c1, iv d0, iv d1, iv na, iv sm, iv p4, iv fb, iv (0 : Int32), iv cl, rv t17, rv t18, rv t19, un, un, un, un, un, un, un, un] [(.int cl), (.int (0 : Int32)), (.ref t19)])) rfl (by rw [hml]; rfl) (Steps.refl _) (argsL := [(.int (0 : Int32)), (.int cl)]) (rest := []) (lenOf pd_7 rfl) rfl (by show 2 * 0 + _ ≤ _; exact Nat.le_of_eq rfl) (hb hby at_207) (fun _ _ => ⟨rfl, rfl, (by decide : 8 + 0 ≤ _), (by decide : 42 + 0 ≤ _)⟩)
   dsimp only [Pt.U, Pt.locs, Pt.cells, Pt.slots] at X723 l723 y723 z723 st723 hQ723
   subst l723 y723 z723
   obtain ⟨rfl, N723q, e723⟩ := hQ723
   have N723 := Fr.app N709 N723q
   have hSp : Sp na sm c0 d0 cl (sJ2 cl (pJ d0 (0 : Int32) (nc (sJ2 d0 (pJ c0 (0 : Int32) JJ (0 : Int64)) (pJ c0 (1 : Int32) JJ (0 : Int64))) (sI2 d0 (pI c0 (0 : Int32) p4 (0 : Int32)) (pI c0 (1 : Int32) p4 (0 : Int32))) fb) (pJ c0 (0 : Int32) JJ (0 : Int64))) (pJ d0 (1 : Int32) (nc (sJ2 d0 (pJ c0 (0 : Int32) JJ (0 : Int64)) (pJ c0 (1 : Int32) JJ (0 : Int64))) (sI2 d0 (pI c0 (0 : Int32) p4 (0 : Int32)) (pI c0 (1 : Int32) p4 (0 : Int32))) fb) (pJ c0 (1 : Int32) JJ (0 : Int64)))) := by rw [own_selJ2 hsd0 hscl, own_selJ2 hsc0 hsd0, own_selJ2 hsc0 hscl, own_selI2 hsc0 hsd0, own_s0J2 d0, own_s0J2 cl, own_s0I2 d0]; exact own_SpJ hJ hn123 hfbs
   have pre724 : ∀ tg, AT p e below T723 m 212 #[iv p0, iv p1, iv p2, iv p3, iv p4, iv p5, iv (2 : Int32), iv c0, iv c1, iv d0, iv d1, iv na, iv sm, iv p4, iv fb, iv (0 : Int32), iv cl, rv t17, rv t18, rv t19, jv (sJ2 cl (pJ d0 (0 : Int32) (nc (sJ2 d0 (pJ c0 (0 : Int32) JJ (0 : Int64)) (pJ c0 (1 : Int32) JJ (0 : Int64))) (sI2 d0 (pI c0 (0 : Int32) p4 (0 : Int32)) (pI c0 (1 : Int32) p4 (0 : Int32))) fb) (pJ c0 (0 : Int32) JJ (0 : Int64))) (pJ d0 (1 : Int32) (nc (sJ2 d0 (pJ c0 (0 : Int32) JJ (0 : Int64)) (pJ c0 (1 : Int32) JJ (0 : Int64))) (sI2 d0 (pI c0 (0 : Int32) p4 (0 : Int32)) (pI c0 (1 : Int32) p4 (0 : Int32))) fb) (pJ c0 (1 : Int32) JJ (0 : Int64)))), se, un, un, un, un, un, un] [] tg → Steps p.tables e below S0 tg := fun tg kg => pre722 tg (by
    refine XS.aload X709.here hx rfl (hb hby at_201) rfl rfl ?_
    refine XS.iload X709.here hx rfl (hb hby at_203) rfl ?_
    refine XS.iload X709.here hx rfl (hb hby at_205) rfl ?_
    refine st723.trans ?_
    refine XS.lstore X723.here hx rfl (hb hby at_210) rfl (l' := #[iv p0, iv p1, iv p2, iv p3, iv p4, iv p5, iv (2 : Int32), iv c0, iv c1, iv d0, iv d1, iv na, iv sm, iv p4, iv fb, iv (0 : Int32), iv cl, rv t17, rv t18, rv t19, jv (sJ2 cl (pJ d0 (0 : Int32) (nc (sJ2 d0 (pJ c0 (0 : Int32) JJ (0 : Int64)) (pJ c0 (1 : Int32) JJ (0 : Int64))) (sI2 d0 (pI c0 (0 : Int32) p4 (0 : Int32)) (pI c0 (1 : Int32) p4 (0 : Int32))) fb) (pJ c0 (0 : Int32) JJ (0 : Int64))) (pJ d0 (1 : Int32) (nc (sJ2 d0 (pJ c0 (0 : Int32) JJ (0 : Int64)) (pJ c0 (1 : Int32) JJ (0 : Int64))) (sI2 d0 (pI c0 (0 : Int32) p4 (0 : Int32)) (pI c0 (1 : Int32) p4 (0 : Int32))) fb) (pJ c0 (1 : Int32) JJ (0 : Int64)))), se, un, un, un, un, un, un]) rfl ?_
    exact kg)
   exact tail_r0 _ _ _ _ _ (own_mono X723 (by decide) (by decide)) e723 N723 K709 O709 hS hk hZ hown CR709 _ _ _ _ _ _ _ _ _ _ _ _ _ _ hSp pre724
  ·
   obtain ⟨cq725, kq725, q725a, q725b, q725c⟩ := isOf hZ rfl E709_712
   obtain ⟨_, _, ⟨T725, L725, k725, n725⟩, -, X725, ⟨Lc725, hQ725, l725, y725, z725⟩, st725⟩ := X709.virtualBack hx (y := y10) (z := y10) hown (mvT hZ (ow hw 72 rfl)) (mvT hZ (ow hw 73 rfl)) (notFace_of_selects (args := #[]) (mvT hZ (ow hw 75 rfl))) (mvT hZ (ow hw 75 rfl)) (mvT hZ (ow hw 74 rfl)) (by decide) (backOf (W := 0) (rm10_2_1 l Z ar hw [] t19 cl _ _ _ _ _ _ _ T709.heap n0 O709 E709_712 F709_713 E709_717 F709_718 F709_715 u709_1 hscl) hZ (ow hw 76 rfl) (ow hw 4 rfl) (by decide) (by decide)) q725a q725c (g := (mkF m 207 #[iv p0, iv p1, iv p2, iv p3, iv p4, iv p5, iv (2 : Int32), iv c0, iv c1, iv d0, iv d1, iv na, iv sm, iv p4, iv fb, iv (1 : Int32), iv cl, rv t17, rv t18, rv t19, un, un, un, un, un, un, un, un] [(.int cl), (.int (1 : Int32)), (.ref t19)])) rfl (by rw [hml]; rfl) (Steps.refl _) (argsL := [(.int (1 : Int32)), (.int cl)]) (rest := []) (lenOf pd_7 rfl) rfl (by show 2 * 0 + _ ≤ _; exact Nat.le_of_eq rfl) (hb hby at_207) (fun _ _ => ⟨rfl, rfl, (by decide : 8 + 0 ≤ _), (by decide : 42 + 0 ≤ _)⟩)
   dsimp only [Pt.U, Pt.locs, Pt.cells, Pt.slots] at X725 l725 y725 z725 st725 hQ725
   subst l725 y725 z725
   obtain ⟨rfl, N725q, e725⟩ := hQ725
   have N725 := Fr.app N709 N725q
   have hSp : Sp na sm c1 d1 cl (sJ2 cl (pJ d1 (0 : Int32) (nc (sJ2 d1 (pJ c1 (0 : Int32) JJ (0 : Int64)) (pJ c1 (1 : Int32) JJ (0 : Int64))) (sI2 d1 (pI c1 (0 : Int32) p4 (0 : Int32)) (pI c1 (1 : Int32) p4 (0 : Int32))) fb) (pJ c1 (0 : Int32) JJ (0 : Int64))) (pJ d1 (1 : Int32) (nc (sJ2 d1 (pJ c1 (0 : Int32) JJ (0 : Int64)) (pJ c1 (1 : Int32) JJ (0 : Int64))) (sI2 d1 (pI c1 (0 : Int32) p4 (0 : Int32)) (pI c1 (1 : Int32) p4 (0 : Int32))) fb) (pJ c1 (1 : Int32) JJ (0 : Int64)))) := by rw [own_selJ2 hsd1 hscl, own_selJ2 hsc1 hsd1, own_selJ2 hsc1 hscl, own_selI2 hsc1 hsd1, own_s0J2 d1, own_s0J2 cl, own_s0I2 d1]; exact own_SpJ hJ hn123 hfbs
   have pre726 : ∀ tg, AT p e below T725 m 212 #[iv p0, iv p1, iv p2, iv p3, iv p4, iv p5, iv (2 : Int32), iv c0, iv c1, iv d0, iv d1, iv na, iv sm, iv p4, iv fb, iv (1 : Int32), iv cl, rv t17, rv t18, rv t19, jv (sJ2 cl (pJ d1 (0 : Int32) (nc (sJ2 d1 (pJ c1 (0 : Int32) JJ (0 : Int64)) (pJ c1 (1 : Int32) JJ (0 : Int64))) (sI2 d1 (pI c1 (0 : Int32) p4 (0 : Int32)) (pI c1 (1 : Int32) p4 (0 : Int32))) fb) (pJ c1 (0 : Int32) JJ (0 : Int64))) (pJ d1 (1 : Int32) (nc (sJ2 d1 (pJ c1 (0 : Int32) JJ (0 : Int64)) (pJ c1 (1 : Int32) JJ (0 : Int64))) (sI2 d1 (pI c1 (0 : Int32) p4 (0 : Int32)) (pI c1 (1 : Int32) p4 (0 : Int32))) fb) (pJ c1 (1 : Int32) JJ (0 : Int64)))), se, un, un, un, un, un, un] [] tg → Steps p.tables e below S0 tg := fun tg kg => pre722 tg (by
    refine XS.aload X709.here hx rfl (hb hby at_201) rfl rfl ?_
    refine XS.iload X709.here hx rfl (hb hby at_203) rfl ?_
    refine XS.iload X709.here hx rfl (hb hby at_205) rfl ?_
    refine st725.trans ?_
    refine XS.lstore X725.here hx rfl (hb hby at_210) rfl (l' := #[iv p0, iv p1, iv p2, iv p3, iv p4, iv p5, iv (2 : Int32), iv c0, iv c1, iv d0, iv d1, iv na, iv sm, iv p4, iv fb, iv (1 : Int32), iv cl, rv t17, rv t18, rv t19, jv (sJ2 cl (pJ d1 (0 : Int32) (nc (sJ2 d1 (pJ c1 (0 : Int32) JJ (0 : Int64)) (pJ c1 (1 : Int32) JJ (0 : Int64))) (sI2 d1 (pI c1 (0 : Int32) p4 (0 : Int32)) (pI c1 (1 : Int32) p4 (0 : Int32))) fb) (pJ c1 (0 : Int32) JJ (0 : Int64))) (pJ d1 (1 : Int32) (nc (sJ2 d1 (pJ c1 (0 : Int32) JJ (0 : Int64)) (pJ c1 (1 : Int32) JJ (0 : Int64))) (sI2 d1 (pI c1 (0 : Int32) p4 (0 : Int32)) (pI c1 (1 : Int32) p4 (0 : Int32))) fb) (pJ c1 (1 : Int32) JJ (0 : Int64)))), se, un, un, un, un, un, un]) rfl ?_
    exact kg)
   exact tail_r1 _ _ _ _ _ (own_mono X725 (by decide) (by decide)) e725 N725 K709 O709 hS hk hZ hown CR709 _ _ _ _ _ _ _ _ _ _ _ _ _ _ hSp pre726
 have tail_m3 : ∀ (Tt : State) (vmt : Vm) (ht : Heap) (Lt : List Loc) (kt : Nat), Stand p l e room_1 (s.setVm vmt) m #[(.int p0), (.int p1), (.int p2), (.int p3), (.int p4), (.int p5)] below meth c Tt Lt 8 46 → Tt.heap = ht → Fr n0 Lt → Keep h0 ht [] → Old Z n0 ht → s.Since vmt kt → kt ≤ ht.size → Z.Warmed39 (s.setVm vmt).vm → (s.setVm vmt).vm.findClass "com/example/filters_under_siege/filtersundersiege/KeeperPairsCountPinLaw" = some m.cls → CHr Z EL0 s.vm h0 vmt ht → ∀ (c0 c1 d0 d1 na sm fb cl : Int32) (t17 t18 t19 shp fa ca : Addr) (kk kf kc : ClassId) (JJ : Int64), Exa Z ht t18 "[I" → Arv Z ht t18 kk .int (2 : Int32) [(.int d0), (.int d1)] (.int (0 : Int32)) → Exa Z ht t19 "com/example/filters_under_siege/filtersundersiege/KeeperPairs" → Fld Z ht t19 "com/example/filters_under_siege/filtersundersiege/KeeperPairs" "shape" "Lcom/example/filters_under_siege/filtersundersiege/SketchShape;" (.ref shp) → Fld Z ht t19 "com/example/filters_under_siege/filtersundersiege/KeeperPairs" "fingerprints" "[I" (.ref fa) → Fld Z ht t19 "com/example/filters_under_siege/filtersundersiege/KeeperPairs" "counts" "[J" (.ref ca) → Fld Z ht t19 "com/example/filters_under_siege/filtersundersiege/KeeperPairs" "knocksDown" "Ljava/util/function/LongPredicate;" (.ref w_lam) → Exa Z ht shp "com/example/filters_under_siege/filtersundersiege/SketchShape" → Fld Z ht shp "com/example/filters_under_siege/filtersundersiege/SketchShape" "width" "I" (.int (3 : Int32)) → Exa Z ht fa "[I" → Exa Z ht ca "[J" → Arv Z ht fa kf .int (6 : Int32) [(.int (pI c0 (0 : Int32) p4 (0 : Int32))), (.int (pI c0 (1 : Int32) p4 (0 : Int32))), (.int (pI c0 (2 : Int32) p4 (0 : Int32))), (.int (pI c1 (0 : Int32) p4 (0 : Int32))), (.int (pI c1 (1 : Int32) p4 (0 : Int32))), (.int (pI c1 (2 : Int32) p4 (0 : Int32)))] (.int (0 : Int32)) → Arv Z ht ca kc .long (6 : Int32) [(.long (pJ c0 (0 : Int32) JJ (0 : Int64))), (.long (pJ c0 (1 : Int32) JJ (0 : Int64))), (.long (pJ c0 (2 : Int32) JJ (0 : Int64))), (.long (pJ c1 (0 : Int32) JJ (0 : Int64))), (.long (pJ c1 (1 : Int32) JJ (0 : Int64))), (.long (pJ c1 (2 : Int32) JJ (0 : Int64)))] (.long (0 : Int64)) → n0 ≤ fa → n0 ≤ ca → h0.size ≤ fa → h0.size ≤ ca → t18 ≠ fa → (c0 = (0 : Int32) ∨ c0 = (1 : Int32) ∨ c0 = (2 : Int32)) → (c1 = (0 : Int32) ∨ c1 = (1 : Int32) ∨ c1 = (2 : Int32)) → (d0 = (0 : Int32) ∨ d0 = (1 : Int32) ∨ d0 = (2 : Int32)) → (d1 = (0 : Int32) ∨ d1 = (1 : Int32) ∨ d1 = (2 : Int32)) → (cl = (0 : Int32) ∨ cl = (1 : Int32) ∨ cl = (2 : Int32)) → ((sm = (0 : Int32) ∧ fb = p4 + (1 : Int32)) ∨ (¬ sm = (0 : Int32) ∧ fb = p4)) → JJ = (na.toInt64) → (na = (1 : Int32) ∨ na = (2 : Int32) ∨ na = (3 : Int32)) → (∀ tg, AT p e below Tt m 192 #[iv p0, iv p1, iv p2, iv p3, iv p4, iv p5, iv (3 : Int32), iv c0, iv c1, iv d0, iv d1, iv na, iv sm, iv p4, iv fb, iv (p3 &&& (1 : Int32)), iv cl, rv t17, rv t18, rv t19, un, un, un, un, un, un, un, un] [] tg → Steps p.tables e below S0 tg) → G := by
  intro Tt vmt ht Lt kt Xt et Nt Kt Ot hS hk hZ hown CRt c0 c1 d0 d1 na sm fb cl t17 t18 t19 shp fa ca kk kf kc JJ it0 it1 it2 it3 it4 it5 it6 it7 it8 it9 it10 it11 it12 it13 it14 it15 it16 it17 hsc0 hsc1 hsd0 hsd1 hscl hfbs hJ hn123 pret
  obtain ⟨cq727, kq727, q727a, q727b, q727c⟩ := isOf hZ et it2
  obtain ⟨_, _, ⟨T727, L727, k727, n727⟩, -, X727, ⟨Lc727, hQ727, l727, y727, z727⟩, st727⟩ := Xt.virtualBack hx (y := y8) (z := y8) hown (mvT hZ (ow hw 62 rfl)) (mvT hZ (ow hw 63 rfl)) (notFace_of_selects (args := #[]) (mvT hZ (ow hw 65 rfl))) (mvT hZ (ow hw 65 rfl)) (mvT hZ (ow hw 64 rfl)) (by decide) (backOf (W := 0) (rm8_3 l Z ar hw [] t19 t18 fb _ _ _ _ _ _ _ _ _ _ _ _ _ _ _ _ _ _ _ _ ht n0 Ot HW it2 it3 it7 it8 it4 it5 it6 it0 it1 it9 it10 it11 it12 it13 it14 it17 hsd0 hsd1) hZ (ow hw 66 rfl) (ow hw 4 rfl) (by decide) (by decide)) q727a q727c (g := (mkF m 198 #[iv p0, iv p1, iv p2, iv p3, iv p4, iv p5, iv (3 : Int32), iv c0, iv c1, iv d0, iv d1, iv na, iv sm, iv p4, iv fb, iv (p3 &&& (1 : Int32)), iv cl, rv t17, rv t18, rv t19, un, un, un, un, un, un, un, un] [(.int fb), (.ref t18), (.ref t19)])) rfl (by rw [hml]; rfl) (Steps.refl _) (argsL := [(.ref t18), (.int fb)]) (rest := []) (lenOf pd_6 rfl) rfl (by show 2 * 0 + _ ≤ _; exact Nat.le_of_eq rfl) (hb hby at_198) (fun _ _ => ⟨rfl, et, (by decide : 8 + 0 ≤ _), (by decide : 46 + 0 ≤ _)⟩)
  dsimp only [Pt.U, Pt.locs, Pt.cells, Pt.slots] at X727 l727 y727 z727 st727 hQ727
  subst l727 y727 z727
  obtain ⟨rfl, N727q, Kq727, u727_0, u727_1⟩ := hQ727
  have N727 := Fr.app Nt N727q
  have E727_728 := it0.keep Kq727
  have V727_729 := it1.keep Kq727 (ninS it17 (ninS (ne_exa it0 it10 (by decide)) nin0))
  have E727_730 := it2.keep Kq727
  have F727_731 := it3.keep Kq727 (ninS (ne_exa it2 it9 (by decide)) (ninS (ne_exa it2 it10 (by decide)) nin0))
  have F727_732 := it4.keep Kq727 (ninS (ne_exa it2 it9 (by decide)) (ninS (ne_exa it2 it10 (by decide)) nin0))
  have F727_733 := it5.keep Kq727 (ninS (ne_exa it2 it9 (by decide)) (ninS (ne_exa it2 it10 (by decide)) nin0))
  have F727_734 := it6.keep Kq727 (ninS (ne_exa it2 it9 (by decide)) (ninS (ne_exa it2 it10 (by decide)) nin0))
  have E727_735 := it7.keep Kq727
  have F727_736 := it8.keep Kq727 (ninS (ne_exa it7 it9 (by decide)) (ninS (ne_exa it7 it10 (by decide)) nin0))
  have E727_737 := it9.keep Kq727
  have E727_738 := it10.keep Kq727
  have K727 := Kt.trans Kq727 (allS (Or.inr it15) (allS (Or.inr it16) all0))
  have O727 := Ot.keep Kq727 (allS it13 (allS it14 all0))
  have CR727 : CHr Z EL0 s.vm h0 vmt T727.heap := CRt.trans (CHr.keep Kq727 (allS own_sf0 (allS own_sf0 all0)) CRt.1)
  have hk := Nat.le_trans hk Kq727.1
  have pre739 : ∀ tg, AT p e below T727 m 201 #[iv p0, iv p1, iv p2, iv p3, iv p4, iv p5, iv (3 : Int32), iv c0, iv c1, iv d0, iv d1, iv na, iv sm, iv p4, iv fb, iv (p3 &&& (1 : Int32)), iv cl, rv t17, rv t18, rv t19, un, un, un, un, un, un, un, un] [] tg → Steps p.tables e below S0 tg := fun tg kg => pret tg (by
   refine XS.aload Xt.here hx rfl (hb hby at_192) rfl rfl ?_
   refine XS.aload Xt.here hx rfl (hb hby at_194) rfl rfl ?_
   refine XS.iload Xt.here hx rfl (hb hby at_196) rfl ?_
   refine st727.trans ?_
   exact kg)
  obtain ⟨rr, hrr⟩ : ∃ z, z = (p3 &&& (1 : Int32)) := ⟨_, rfl⟩
  have pre740 : ∀ tg, AT p e below T727 m 201 #[iv p0, iv p1, iv p2, iv p3, iv p4, iv p5, iv (3 : Int32), iv c0, iv c1, iv d0, iv d1, iv na, iv sm, iv p4, iv fb, iv rr, iv cl, rv t17, rv t18, rv t19, un, un, un, un, un, un, un, un] [] tg → Steps p.tables e below S0 tg := by rw [hrr]; exact pre739
  have hsrr : rr = (0 : Int32) ∨ rr = (1 : Int32) := by rw [hrr]; exact own_a1 p3
  rcases hsrr with rfl | rfl
  ·
   obtain ⟨cq741, kq741, q741a, q741b, q741c⟩ := isOf hZ rfl E727_730
   obtain ⟨_, _, ⟨T741, L741, k741, n741⟩, -, X741, ⟨Lc741, hQ741, l741, y741, z741⟩, st741⟩ := X727.virtualBack hx (y := y10) (z := y10) hown (mvT hZ (ow hw 72 rfl)) (mvT hZ (ow hw 73 rfl)) (notFace_of_selects (args := #[]) (mvT hZ (ow hw 75 rfl))) (mvT hZ (ow hw 75 rfl)) (mvT hZ (ow hw 74 rfl)) (by decide) (backOf (W := 0) (rm10_3_0 l Z ar hw [] t19 cl _ _ _ _ _ _ _ _ _ T727.heap n0 O727 E727_730 F727_731 E727_735 F727_736 F727_733 u727_1 hscl) hZ (ow hw 76 rfl) (ow hw 4 rfl) (by decide) (by decide)) q741a q741c (g := (mkF m 207 #[iv p0, iv p1, iv p2, iv p3, iv p4, iv p5, iv (3 : Int32), iv c0, iv c1, iv d0, iv d1, iv na, iv sm, iv p4, iv fb, iv (0 : Int32), iv cl, rv t17, rv t18, rv t19, un, un, un, un, un, un, un, un] [(.int cl), (.int (0 : Int32)), (.ref t19)])) rfl (by rw [hml]; rfl) (Steps.refl _) (argsL := [(.int (0 : Int32)), (.int cl)]) (rest := []) (lenOf pd_7 rfl) rfl (by show 2 * 0 + _ ≤ _; exact Nat.le_of_eq rfl) (hb hby at_207) (fun _ _ => ⟨rfl, rfl, (by decide : 8 + 0 ≤ _), (by decide : 46 + 0 ≤ _)⟩)
   dsimp only [Pt.U, Pt.locs, Pt.cells, Pt.slots] at X741 l741 y741 z741 st741 hQ741
   subst l741 y741 z741
   obtain ⟨rfl, N741q, e741⟩ := hQ741
   have N741 := Fr.app N727 N741q
   have hSp : Sp na sm c0 d0 cl (sJ3 cl (pJ d0 (0 : Int32) (nc (sJ3 d0 (pJ c0 (0 : Int32) JJ (0 : Int64)) (pJ c0 (1 : Int32) JJ (0 : Int64)) (pJ c0 (2 : Int32) JJ (0 : Int64))) (sI3 d0 (pI c0 (0 : Int32) p4 (0 : Int32)) (pI c0 (1 : Int32) p4 (0 : Int32)) (pI c0 (2 : Int32) p4 (0 : Int32))) fb) (pJ c0 (0 : Int32) JJ (0 : Int64))) (pJ d0 (1 : Int32) (nc (sJ3 d0 (pJ c0 (0 : Int32) JJ (0 : Int64)) (pJ c0 (1 : Int32) JJ (0 : Int64)) (pJ c0 (2 : Int32) JJ (0 : Int64))) (sI3 d0 (pI c0 (0 : Int32) p4 (0 : Int32)) (pI c0 (1 : Int32) p4 (0 : Int32)) (pI c0 (2 : Int32) p4 (0 : Int32))) fb) (pJ c0 (1 : Int32) JJ (0 : Int64))) (pJ d0 (2 : Int32) (nc (sJ3 d0 (pJ c0 (0 : Int32) JJ (0 : Int64)) (pJ c0 (1 : Int32) JJ (0 : Int64)) (pJ c0 (2 : Int32) JJ (0 : Int64))) (sI3 d0 (pI c0 (0 : Int32) p4 (0 : Int32)) (pI c0 (1 : Int32) p4 (0 : Int32)) (pI c0 (2 : Int32) p4 (0 : Int32))) fb) (pJ c0 (2 : Int32) JJ (0 : Int64)))) := by rw [own_selJ3 hsd0 hscl, own_selJ3 hsc0 hsd0, own_selJ3 hsc0 hscl, own_selI3 hsc0 hsd0, own_s0J3 d0, own_s0J3 cl, own_s0I3 d0]; exact own_SpJ hJ hn123 hfbs
   have pre742 : ∀ tg, AT p e below T741 m 212 #[iv p0, iv p1, iv p2, iv p3, iv p4, iv p5, iv (3 : Int32), iv c0, iv c1, iv d0, iv d1, iv na, iv sm, iv p4, iv fb, iv (0 : Int32), iv cl, rv t17, rv t18, rv t19, jv (sJ3 cl (pJ d0 (0 : Int32) (nc (sJ3 d0 (pJ c0 (0 : Int32) JJ (0 : Int64)) (pJ c0 (1 : Int32) JJ (0 : Int64)) (pJ c0 (2 : Int32) JJ (0 : Int64))) (sI3 d0 (pI c0 (0 : Int32) p4 (0 : Int32)) (pI c0 (1 : Int32) p4 (0 : Int32)) (pI c0 (2 : Int32) p4 (0 : Int32))) fb) (pJ c0 (0 : Int32) JJ (0 : Int64))) (pJ d0 (1 : Int32) (nc (sJ3 d0 (pJ c0 (0 : Int32) JJ (0 : Int64)) (pJ c0 (1 : Int32) JJ (0 : Int64)) (pJ c0 (2 : Int32) JJ (0 : Int64))) (sI3 d0 (pI c0 (0 : Int32) p4 (0 : Int32)) (pI c0 (1 : Int32) p4 (0 : Int32)) (pI c0 (2 : Int32) p4 (0 : Int32))) fb) (pJ c0 (1 : Int32) JJ (0 : Int64))) (pJ d0 (2 : Int32) (nc (sJ3 d0 (pJ c0 (0 : Int32) JJ (0 : Int64)) (pJ c0 (1 : Int32) JJ (0 : Int64)) (pJ c0 (2 : Int32) JJ (0 : Int64))) (sI3 d0 (pI c0 (0 : Int32) p4 (0 : Int32)) (pI c0 (1 : Int32) p4 (0 : Int32)) (pI c0 (2 : Int32) p4 (0 : Int32))) fb) (pJ c0 (2 : Int32) JJ (0 : Int64)))), se, un, un, un, un, un, un] [] tg → Steps p.tables e below S0 tg := fun tg kg => pre740 tg (by
    refine XS.aload X727.here hx rfl (hb hby at_201) rfl rfl ?_
    refine XS.iload X727.here hx rfl (hb hby at_203) rfl ?_
    refine XS.iload X727.here hx rfl (hb hby at_205) rfl ?_
    refine st741.trans ?_
    refine XS.lstore X741.here hx rfl (hb hby at_210) rfl (l' := #[iv p0, iv p1, iv p2, iv p3, iv p4, iv p5, iv (3 : Int32), iv c0, iv c1, iv d0, iv d1, iv na, iv sm, iv p4, iv fb, iv (0 : Int32), iv cl, rv t17, rv t18, rv t19, jv (sJ3 cl (pJ d0 (0 : Int32) (nc (sJ3 d0 (pJ c0 (0 : Int32) JJ (0 : Int64)) (pJ c0 (1 : Int32) JJ (0 : Int64)) (pJ c0 (2 : Int32) JJ (0 : Int64))) (sI3 d0 (pI c0 (0 : Int32) p4 (0 : Int32)) (pI c0 (1 : Int32) p4 (0 : Int32)) (pI c0 (2 : Int32) p4 (0 : Int32))) fb) (pJ c0 (0 : Int32) JJ (0 : Int64))) (pJ d0 (1 : Int32) (nc (sJ3 d0 (pJ c0 (0 : Int32) JJ (0 : Int64)) (pJ c0 (1 : Int32) JJ (0 : Int64)) (pJ c0 (2 : Int32) JJ (0 : Int64))) (sI3 d0 (pI c0 (0 : Int32) p4 (0 : Int32)) (pI c0 (1 : Int32) p4 (0 : Int32)) (pI c0 (2 : Int32) p4 (0 : Int32))) fb) (pJ c0 (1 : Int32) JJ (0 : Int64))) (pJ d0 (2 : Int32) (nc (sJ3 d0 (pJ c0 (0 : Int32) JJ (0 : Int64)) (pJ c0 (1 : Int32) JJ (0 : Int64)) (pJ c0 (2 : Int32) JJ (0 : Int64))) (sI3 d0 (pI c0 (0 : Int32) p4 (0 : Int32)) (pI c0 (1 : Int32) p4 (0 : Int32)) (pI c0 (2 : Int32) p4 (0 : Int32))) fb) (pJ c0 (2 : Int32) JJ (0 : Int64)))), se, un, un, un, un, un, un]) rfl ?_
    exact kg)
   exact tail_r0 _ _ _ _ _ (own_mono X741 (by decide) (by decide)) e741 N741 K727 O727 hS hk hZ hown CR727 _ _ _ _ _ _ _ _ _ _ _ _ _ _ hSp pre742
  ·
   obtain ⟨cq743, kq743, q743a, q743b, q743c⟩ := isOf hZ rfl E727_730
   obtain ⟨_, _, ⟨T743, L743, k743, n743⟩, -, X743, ⟨Lc743, hQ743, l743, y743, z743⟩, st743⟩ := X727.virtualBack hx (y := y10) (z := y10) hown (mvT hZ (ow hw 72 rfl)) (mvT hZ (ow hw 73 rfl)) (notFace_of_selects (args := #[]) (mvT hZ (ow hw 75 rfl))) (mvT hZ (ow hw 75 rfl)) (mvT hZ (ow hw 74 rfl)) (by decide) (backOf (W := 0) (rm10_3_1 l Z ar hw [] t19 cl _ _ _ _ _ _ _ _ _ T727.heap n0 O727 E727_730 F727_731 E727_735 F727_736 F727_733 u727_1 hscl) hZ (ow hw 76 rfl) (ow hw 4 rfl) (by decide) (by decide)) q743a q743c (g := (mkF m 207 #[iv p0, iv p1, iv p2, iv p3, iv p4, iv p5, iv (3 : Int32), iv c0, iv c1, iv d0, iv d1, iv na, iv sm, iv p4, iv fb, iv (1 : Int32), iv cl, rv t17, rv t18, rv t19, un, un, un, un, un, un, un, un] [(.int cl), (.int (1 : Int32)), (.ref t19)])) rfl (by rw [hml]; rfl) (Steps.refl _) (argsL := [(.int (1 : Int32)), (.int cl)]) (rest := []) (lenOf pd_7 rfl) rfl (by show 2 * 0 + _ ≤ _; exact Nat.le_of_eq rfl) (hb hby at_207) (fun _ _ => ⟨rfl, rfl, (by decide : 8 + 0 ≤ _), (by decide : 46 + 0 ≤ _)⟩)
   dsimp only [Pt.U, Pt.locs, Pt.cells, Pt.slots] at X743 l743 y743 z743 st743 hQ743
   subst l743 y743 z743
   obtain ⟨rfl, N743q, e743⟩ := hQ743
   have N743 := Fr.app N727 N743q
   have hSp : Sp na sm c1 d1 cl (sJ3 cl (pJ d1 (0 : Int32) (nc (sJ3 d1 (pJ c1 (0 : Int32) JJ (0 : Int64)) (pJ c1 (1 : Int32) JJ (0 : Int64)) (pJ c1 (2 : Int32) JJ (0 : Int64))) (sI3 d1 (pI c1 (0 : Int32) p4 (0 : Int32)) (pI c1 (1 : Int32) p4 (0 : Int32)) (pI c1 (2 : Int32) p4 (0 : Int32))) fb) (pJ c1 (0 : Int32) JJ (0 : Int64))) (pJ d1 (1 : Int32) (nc (sJ3 d1 (pJ c1 (0 : Int32) JJ (0 : Int64)) (pJ c1 (1 : Int32) JJ (0 : Int64)) (pJ c1 (2 : Int32) JJ (0 : Int64))) (sI3 d1 (pI c1 (0 : Int32) p4 (0 : Int32)) (pI c1 (1 : Int32) p4 (0 : Int32)) (pI c1 (2 : Int32) p4 (0 : Int32))) fb) (pJ c1 (1 : Int32) JJ (0 : Int64))) (pJ d1 (2 : Int32) (nc (sJ3 d1 (pJ c1 (0 : Int32) JJ (0 : Int64)) (pJ c1 (1 : Int32) JJ (0 : Int64)) (pJ c1 (2 : Int32) JJ (0 : Int64))) (sI3 d1 (pI c1 (0 : Int32) p4 (0 : Int32)) (pI c1 (1 : Int32) p4 (0 : Int32)) (pI c1 (2 : Int32) p4 (0 : Int32))) fb) (pJ c1 (2 : Int32) JJ (0 : Int64)))) := by rw [own_selJ3 hsd1 hscl, own_selJ3 hsc1 hsd1, own_selJ3 hsc1 hscl, own_selI3 hsc1 hsd1, own_s0J3 d1, own_s0J3 cl, own_s0I3 d1]; exact own_SpJ hJ hn123 hfbs
   have pre744 : ∀ tg, AT p e below T743 m 212 #[iv p0, iv p1, iv p2, iv p3, iv p4, iv p5, iv (3 : Int32), iv c0, iv c1, iv d0, iv d1, iv na, iv sm, iv p4, iv fb, iv (1 : Int32), iv cl, rv t17, rv t18, rv t19, jv (sJ3 cl (pJ d1 (0 : Int32) (nc (sJ3 d1 (pJ c1 (0 : Int32) JJ (0 : Int64)) (pJ c1 (1 : Int32) JJ (0 : Int64)) (pJ c1 (2 : Int32) JJ (0 : Int64))) (sI3 d1 (pI c1 (0 : Int32) p4 (0 : Int32)) (pI c1 (1 : Int32) p4 (0 : Int32)) (pI c1 (2 : Int32) p4 (0 : Int32))) fb) (pJ c1 (0 : Int32) JJ (0 : Int64))) (pJ d1 (1 : Int32) (nc (sJ3 d1 (pJ c1 (0 : Int32) JJ (0 : Int64)) (pJ c1 (1 : Int32) JJ (0 : Int64)) (pJ c1 (2 : Int32) JJ (0 : Int64))) (sI3 d1 (pI c1 (0 : Int32) p4 (0 : Int32)) (pI c1 (1 : Int32) p4 (0 : Int32)) (pI c1 (2 : Int32) p4 (0 : Int32))) fb) (pJ c1 (1 : Int32) JJ (0 : Int64))) (pJ d1 (2 : Int32) (nc (sJ3 d1 (pJ c1 (0 : Int32) JJ (0 : Int64)) (pJ c1 (1 : Int32) JJ (0 : Int64)) (pJ c1 (2 : Int32) JJ (0 : Int64))) (sI3 d1 (pI c1 (0 : Int32) p4 (0 : Int32)) (pI c1 (1 : Int32) p4 (0 : Int32)) (pI c1 (2 : Int32) p4 (0 : Int32))) fb) (pJ c1 (2 : Int32) JJ (0 : Int64)))), se, un, un, un, un, un, un] [] tg → Steps p.tables e below S0 tg := fun tg kg => pre740 tg (by
    refine XS.aload X727.here hx rfl (hb hby at_201) rfl rfl ?_
    refine XS.iload X727.here hx rfl (hb hby at_203) rfl ?_
    refine XS.iload X727.here hx rfl (hb hby at_205) rfl ?_
    refine st743.trans ?_
    refine XS.lstore X743.here hx rfl (hb hby at_210) rfl (l' := #[iv p0, iv p1, iv p2, iv p3, iv p4, iv p5, iv (3 : Int32), iv c0, iv c1, iv d0, iv d1, iv na, iv sm, iv p4, iv fb, iv (1 : Int32), iv cl, rv t17, rv t18, rv t19, jv (sJ3 cl (pJ d1 (0 : Int32) (nc (sJ3 d1 (pJ c1 (0 : Int32) JJ (0 : Int64)) (pJ c1 (1 : Int32) JJ (0 : Int64)) (pJ c1 (2 : Int32) JJ (0 : Int64))) (sI3 d1 (pI c1 (0 : Int32) p4 (0 : Int32)) (pI c1 (1 : Int32) p4 (0 : Int32)) (pI c1 (2 : Int32) p4 (0 : Int32))) fb) (pJ c1 (0 : Int32) JJ (0 : Int64))) (pJ d1 (1 : Int32) (nc (sJ3 d1 (pJ c1 (0 : Int32) JJ (0 : Int64)) (pJ c1 (1 : Int32) JJ (0 : Int64)) (pJ c1 (2 : Int32) JJ (0 : Int64))) (sI3 d1 (pI c1 (0 : Int32) p4 (0 : Int32)) (pI c1 (1 : Int32) p4 (0 : Int32)) (pI c1 (2 : Int32) p4 (0 : Int32))) fb) (pJ c1 (1 : Int32) JJ (0 : Int64))) (pJ d1 (2 : Int32) (nc (sJ3 d1 (pJ c1 (0 : Int32) JJ (0 : Int64)) (pJ c1 (1 : Int32) JJ (0 : Int64)) (pJ c1 (2 : Int32) JJ (0 : Int64))) (sI3 d1 (pI c1 (0 : Int32) p4 (0 : Int32)) (pI c1 (1 : Int32) p4 (0 : Int32)) (pI c1 (2 : Int32) p4 (0 : Int32))) fb) (pJ c1 (2 : Int32) JJ (0 : Int64)))), se, un, un, un, un, un, un]) rfl ?_
    exact kg)
   exact tail_r1 _ _ _ _ _ (own_mono X743 (by decide) (by decide)) e743 N743 K727 O727 hS hk hZ hown CR727 _ _ _ _ _ _ _ _ _ _ _ _ _ _ hSp pre744
 have tail_m4 : ∀ (Tt : State) (vmt : Vm) (ht : Heap) (Lt : List Loc) (kt : Nat), Stand p l e room_1 (s.setVm vmt) m #[(.int p0), (.int p1), (.int p2), (.int p3), (.int p4), (.int p5)] below meth c Tt Lt 8 50 → Tt.heap = ht → Fr n0 Lt → Keep h0 ht [] → Old Z n0 ht → s.Since vmt kt → kt ≤ ht.size → Z.Warmed39 (s.setVm vmt).vm → (s.setVm vmt).vm.findClass "com/example/filters_under_siege/filtersundersiege/KeeperPairsCountPinLaw" = some m.cls → CHr Z EL0 s.vm h0 vmt ht → ∀ (c0 c1 d0 d1 na sm fb cl : Int32) (t17 t18 t19 shp fa ca : Addr) (kk kf kc : ClassId) (JJ : Int64), Exa Z ht t18 "[I" → Arv Z ht t18 kk .int (2 : Int32) [(.int d0), (.int d1)] (.int (0 : Int32)) → Exa Z ht t19 "com/example/filters_under_siege/filtersundersiege/KeeperPairs" → Fld Z ht t19 "com/example/filters_under_siege/filtersundersiege/KeeperPairs" "shape" "Lcom/example/filters_under_siege/filtersundersiege/SketchShape;" (.ref shp) → Fld Z ht t19 "com/example/filters_under_siege/filtersundersiege/KeeperPairs" "fingerprints" "[I" (.ref fa) → Fld Z ht t19 "com/example/filters_under_siege/filtersundersiege/KeeperPairs" "counts" "[J" (.ref ca) → Fld Z ht t19 "com/example/filters_under_siege/filtersundersiege/KeeperPairs" "knocksDown" "Ljava/util/function/LongPredicate;" (.ref w_lam) → Exa Z ht shp "com/example/filters_under_siege/filtersundersiege/SketchShape" → Fld Z ht shp "com/example/filters_under_siege/filtersundersiege/SketchShape" "width" "I" (.int (4 : Int32)) → Exa Z ht fa "[I" → Exa Z ht ca "[J" → Arv Z ht fa kf .int (8 : Int32) [(.int (pI c0 (0 : Int32) p4 (0 : Int32))), (.int (pI c0 (1 : Int32) p4 (0 : Int32))), (.int (pI c0 (2 : Int32) p4 (0 : Int32))), (.int (pI c0 (3 : Int32) p4 (0 : Int32))), (.int (pI c1 (0 : Int32) p4 (0 : Int32))), (.int (pI c1 (1 : Int32) p4 (0 : Int32))), (.int (pI c1 (2 : Int32) p4 (0 : Int32))), (.int (pI c1 (3 : Int32) p4 (0 : Int32)))] (.int (0 : Int32)) → Arv Z ht ca kc .long (8 : Int32) [(.long (pJ c0 (0 : Int32) JJ (0 : Int64))), (.long (pJ c0 (1 : Int32) JJ (0 : Int64))), (.long (pJ c0 (2 : Int32) JJ (0 : Int64))), (.long (pJ c0 (3 : Int32) JJ (0 : Int64))), (.long (pJ c1 (0 : Int32) JJ (0 : Int64))), (.long (pJ c1 (1 : Int32) JJ (0 : Int64))), (.long (pJ c1 (2 : Int32) JJ (0 : Int64))), (.long (pJ c1 (3 : Int32) JJ (0 : Int64)))] (.long (0 : Int64)) → n0 ≤ fa → n0 ≤ ca → h0.size ≤ fa → h0.size ≤ ca → t18 ≠ fa → (c0 = (0 : Int32) ∨ c0 = (1 : Int32) ∨ c0 = (2 : Int32) ∨ c0 = (3 : Int32)) → (c1 = (0 : Int32) ∨ c1 = (1 : Int32) ∨ c1 = (2 : Int32) ∨ c1 = (3 : Int32)) → (d0 = (0 : Int32) ∨ d0 = (1 : Int32) ∨ d0 = (2 : Int32) ∨ d0 = (3 : Int32)) → (d1 = (0 : Int32) ∨ d1 = (1 : Int32) ∨ d1 = (2 : Int32) ∨ d1 = (3 : Int32)) → (cl = (0 : Int32) ∨ cl = (1 : Int32) ∨ cl = (2 : Int32) ∨ cl = (3 : Int32)) → ((sm = (0 : Int32) ∧ fb = p4 + (1 : Int32)) ∨ (¬ sm = (0 : Int32) ∧ fb = p4)) → JJ = (na.toInt64) → (na = (1 : Int32) ∨ na = (2 : Int32) ∨ na = (3 : Int32)) → (∀ tg, AT p e below Tt m 192 #[iv p0, iv p1, iv p2, iv p3, iv p4, iv p5, iv (4 : Int32), iv c0, iv c1, iv d0, iv d1, iv na, iv sm, iv p4, iv fb, iv (p3 &&& (1 : Int32)), iv cl, rv t17, rv t18, rv t19, un, un, un, un, un, un, un, un] [] tg → Steps p.tables e below S0 tg) → G := by
  intro Tt vmt ht Lt kt Xt et Nt Kt Ot hS hk hZ hown CRt c0 c1 d0 d1 na sm fb cl t17 t18 t19 shp fa ca kk kf kc JJ it0 it1 it2 it3 it4 it5 it6 it7 it8 it9 it10 it11 it12 it13 it14 it15 it16 it17 hsc0 hsc1 hsd0 hsd1 hscl hfbs hJ hn123 pret
  obtain ⟨cq745, kq745, q745a, q745b, q745c⟩ := isOf hZ et it2
  obtain ⟨_, _, ⟨T745, L745, k745, n745⟩, -, X745, ⟨Lc745, hQ745, l745, y745, z745⟩, st745⟩ := Xt.virtualBack hx (y := y8) (z := y8) hown (mvT hZ (ow hw 62 rfl)) (mvT hZ (ow hw 63 rfl)) (notFace_of_selects (args := #[]) (mvT hZ (ow hw 65 rfl))) (mvT hZ (ow hw 65 rfl)) (mvT hZ (ow hw 64 rfl)) (by decide) (backOf (W := 0) (rm8_4 l Z ar hw [] t19 t18 fb _ _ _ _ _ _ _ _ _ _ _ _ _ _ _ _ _ _ _ _ _ _ _ _ ht n0 Ot HW it2 it3 it7 it8 it4 it5 it6 it0 it1 it9 it10 it11 it12 it13 it14 it17 hsd0 hsd1) hZ (ow hw 66 rfl) (ow hw 4 rfl) (by decide) (by decide)) q745a q745c (g := (mkF m 198 #[iv p0, iv p1, iv p2, iv p3, iv p4, iv p5, iv (4 : Int32), iv c0, iv c1, iv d0, iv d1, iv na, iv sm, iv p4, iv fb, iv (p3 &&& (1 : Int32)), iv cl, rv t17, rv t18, rv t19, un, un, un, un, un, un, un, un] [(.int fb), (.ref t18), (.ref t19)])) rfl (by rw [hml]; rfl) (Steps.refl _) (argsL := [(.ref t18), (.int fb)]) (rest := []) (lenOf pd_6 rfl) rfl (by show 2 * 0 + _ ≤ _; exact Nat.le_of_eq rfl) (hb hby at_198) (fun _ _ => ⟨rfl, et, (by decide : 8 + 0 ≤ _), (by decide : 50 + 0 ≤ _)⟩)
  dsimp only [Pt.U, Pt.locs, Pt.cells, Pt.slots] at X745 l745 y745 z745 st745 hQ745
  subst l745 y745 z745
  obtain ⟨rfl, N745q, Kq745, u745_0, u745_1⟩ := hQ745
  have N745 := Fr.app Nt N745q
  have E745_746 := it0.keep Kq745
  have V745_747 := it1.keep Kq745 (ninS it17 (ninS (ne_exa it0 it10 (by decide)) nin0))
  have E745_748 := it2.keep Kq745
  have F745_749 := it3.keep Kq745 (ninS (ne_exa it2 it9 (by decide)) (ninS (ne_exa it2 it10 (by decide)) nin0))
  have F745_750 := it4.keep Kq745 (ninS (ne_exa it2 it9 (by decide)) (ninS (ne_exa it2 it10 (by decide)) nin0))
  have F745_751 := it5.keep Kq745 (ninS (ne_exa it2 it9 (by decide)) (ninS (ne_exa it2 it10 (by decide)) nin0))
  have F745_752 := it6.keep Kq745 (ninS (ne_exa it2 it9 (by decide)) (ninS (ne_exa it2 it10 (by decide)) nin0))
  have E745_753 := it7.keep Kq745
  have F745_754 := it8.keep Kq745 (ninS (ne_exa it7 it9 (by decide)) (ninS (ne_exa it7 it10 (by decide)) nin0))
  have E745_755 := it9.keep Kq745
  have E745_756 := it10.keep Kq745
  have K745 := Kt.trans Kq745 (allS (Or.inr it15) (allS (Or.inr it16) all0))
  have O745 := Ot.keep Kq745 (allS it13 (allS it14 all0))
  have CR745 : CHr Z EL0 s.vm h0 vmt T745.heap := CRt.trans (CHr.keep Kq745 (allS own_sf0 (allS own_sf0 all0)) CRt.1)
  have hk := Nat.le_trans hk Kq745.1
  have pre757 : ∀ tg, AT p e below T745 m 201 #[iv p0, iv p1, iv p2, iv p3, iv p4, iv p5, iv (4 : Int32), iv c0, iv c1, iv d0, iv d1, iv na, iv sm, iv p4, iv fb, iv (p3 &&& (1 : Int32)), iv cl, rv t17, rv t18, rv t19, un, un, un, un, un, un, un, un] [] tg → Steps p.tables e below S0 tg := fun tg kg => pret tg (by
   refine XS.aload Xt.here hx rfl (hb hby at_192) rfl rfl ?_
   refine XS.aload Xt.here hx rfl (hb hby at_194) rfl rfl ?_
   refine XS.iload Xt.here hx rfl (hb hby at_196) rfl ?_
   refine st745.trans ?_
   exact kg)
  obtain ⟨rr, hrr⟩ : ∃ z, z = (p3 &&& (1 : Int32)) := ⟨_, rfl⟩
  have pre758 : ∀ tg, AT p e below T745 m 201 #[iv p0, iv p1, iv p2, iv p3, iv p4, iv p5, iv (4 : Int32), iv c0, iv c1, iv d0, iv d1, iv na, iv sm, iv p4, iv fb, iv rr, iv cl, rv t17, rv t18, rv t19, un, un, un, un, un, un, un, un] [] tg → Steps p.tables e below S0 tg := by rw [hrr]; exact pre757
  have hsrr : rr = (0 : Int32) ∨ rr = (1 : Int32) := by rw [hrr]; exact own_a1 p3
  rcases hsrr with rfl | rfl
  ·
   obtain ⟨cq759, kq759, q759a, q759b, q759c⟩ := isOf hZ rfl E745_748
   obtain ⟨_, _, ⟨T759, L759, k759, n759⟩, -, X759, ⟨Lc759, hQ759, l759, y759, z759⟩, st759⟩ := X745.virtualBack hx (y := y10) (z := y10) hown (mvT hZ (ow hw 72 rfl)) (mvT hZ (ow hw 73 rfl)) (notFace_of_selects (args := #[]) (mvT hZ (ow hw 75 rfl))) (mvT hZ (ow hw 75 rfl)) (mvT hZ (ow hw 74 rfl)) (by decide) (backOf (W := 0) (rm10_4_0 l Z ar hw [] t19 cl _ _ _ _ _ _ _ _ _ _ _ T745.heap n0 O745 E745_748 F745_749 E745_753 F745_754 F745_751 u745_1 hscl) hZ (ow hw 76 rfl) (ow hw 4 rfl) (by decide) (by decide)) q759a q759c (g := (mkF m 207 #[iv p0, iv p1, iv p2, iv p3, iv p4, iv p5, iv (4 : Int32), iv c0, iv c1, iv d0, iv d1, iv na, iv sm, iv p4, iv fb, iv (0 : Int32), iv cl, rv t17, rv t18, rv t19, un, un, un, un, un, un, un, un] [(.int cl), (.int (0 : Int32)), (.ref t19)])) rfl (by rw [hml]; rfl) (Steps.refl _) (argsL := [(.int (0 : Int32)), (.int cl)]) (rest := []) (lenOf pd_7 rfl) rfl (by show 2 * 0 + _ ≤ _; exact Nat.le_of_eq rfl) (hb hby at_207) (fun _ _ => ⟨rfl, rfl, (by decide : 8 + 0 ≤ _), (by decide : 50 + 0 ≤ _)⟩)
   dsimp only [Pt.U, Pt.locs, Pt.cells, Pt.slots] at X759 l759 y759 z759 st759 hQ759
   subst l759 y759 z759
   obtain ⟨rfl, N759q, e759⟩ := hQ759
   have N759 := Fr.app N745 N759q
   have hSp : Sp na sm c0 d0 cl (sJ4 cl (pJ d0 (0 : Int32) (nc (sJ4 d0 (pJ c0 (0 : Int32) JJ (0 : Int64)) (pJ c0 (1 : Int32) JJ (0 : Int64)) (pJ c0 (2 : Int32) JJ (0 : Int64)) (pJ c0 (3 : Int32) JJ (0 : Int64))) (sI4 d0 (pI c0 (0 : Int32) p4 (0 : Int32)) (pI c0 (1 : Int32) p4 (0 : Int32)) (pI c0 (2 : Int32) p4 (0 : Int32)) (pI c0 (3 : Int32) p4 (0 : Int32))) fb) (pJ c0 (0 : Int32) JJ (0 : Int64))) (pJ d0 (1 : Int32) (nc (sJ4 d0 (pJ c0 (0 : Int32) JJ (0 : Int64)) (pJ c0 (1 : Int32) JJ (0 : Int64)) (pJ c0 (2 : Int32) JJ (0 : Int64)) (pJ c0 (3 : Int32) JJ (0 : Int64))) (sI4 d0 (pI c0 (0 : Int32) p4 (0 : Int32)) (pI c0 (1 : Int32) p4 (0 : Int32)) (pI c0 (2 : Int32) p4 (0 : Int32)) (pI c0 (3 : Int32) p4 (0 : Int32))) fb) (pJ c0 (1 : Int32) JJ (0 : Int64))) (pJ d0 (2 : Int32) (nc (sJ4 d0 (pJ c0 (0 : Int32) JJ (0 : Int64)) (pJ c0 (1 : Int32) JJ (0 : Int64)) (pJ c0 (2 : Int32) JJ (0 : Int64)) (pJ c0 (3 : Int32) JJ (0 : Int64))) (sI4 d0 (pI c0 (0 : Int32) p4 (0 : Int32)) (pI c0 (1 : Int32) p4 (0 : Int32)) (pI c0 (2 : Int32) p4 (0 : Int32)) (pI c0 (3 : Int32) p4 (0 : Int32))) fb) (pJ c0 (2 : Int32) JJ (0 : Int64))) (pJ d0 (3 : Int32) (nc (sJ4 d0 (pJ c0 (0 : Int32) JJ (0 : Int64)) (pJ c0 (1 : Int32) JJ (0 : Int64)) (pJ c0 (2 : Int32) JJ (0 : Int64)) (pJ c0 (3 : Int32) JJ (0 : Int64))) (sI4 d0 (pI c0 (0 : Int32) p4 (0 : Int32)) (pI c0 (1 : Int32) p4 (0 : Int32)) (pI c0 (2 : Int32) p4 (0 : Int32)) (pI c0 (3 : Int32) p4 (0 : Int32))) fb) (pJ c0 (3 : Int32) JJ (0 : Int64)))) := by rw [own_selJ4 hsd0 hscl, own_selJ4 hsc0 hsd0, own_selJ4 hsc0 hscl, own_selI4 hsc0 hsd0, own_s0J4 d0, own_s0J4 cl, own_s0I4 d0]; exact own_SpJ hJ hn123 hfbs
   have pre760 : ∀ tg, AT p e below T759 m 212 #[iv p0, iv p1, iv p2, iv p3, iv p4, iv p5, iv (4 : Int32), iv c0, iv c1, iv d0, iv d1, iv na, iv sm, iv p4, iv fb, iv (0 : Int32), iv cl, rv t17, rv t18, rv t19, jv (sJ4 cl (pJ d0 (0 : Int32) (nc (sJ4 d0 (pJ c0 (0 : Int32) JJ (0 : Int64)) (pJ c0 (1 : Int32) JJ (0 : Int64)) (pJ c0 (2 : Int32) JJ (0 : Int64)) (pJ c0 (3 : Int32) JJ (0 : Int64))) (sI4 d0 (pI c0 (0 : Int32) p4 (0 : Int32)) (pI c0 (1 : Int32) p4 (0 : Int32)) (pI c0 (2 : Int32) p4 (0 : Int32)) (pI c0 (3 : Int32) p4 (0 : Int32))) fb) (pJ c0 (0 : Int32) JJ (0 : Int64))) (pJ d0 (1 : Int32) (nc (sJ4 d0 (pJ c0 (0 : Int32) JJ (0 : Int64)) (pJ c0 (1 : Int32) JJ (0 : Int64)) (pJ c0 (2 : Int32) JJ (0 : Int64)) (pJ c0 (3 : Int32) JJ (0 : Int64))) (sI4 d0 (pI c0 (0 : Int32) p4 (0 : Int32)) (pI c0 (1 : Int32) p4 (0 : Int32)) (pI c0 (2 : Int32) p4 (0 : Int32)) (pI c0 (3 : Int32) p4 (0 : Int32))) fb) (pJ c0 (1 : Int32) JJ (0 : Int64))) (pJ d0 (2 : Int32) (nc (sJ4 d0 (pJ c0 (0 : Int32) JJ (0 : Int64)) (pJ c0 (1 : Int32) JJ (0 : Int64)) (pJ c0 (2 : Int32) JJ (0 : Int64)) (pJ c0 (3 : Int32) JJ (0 : Int64))) (sI4 d0 (pI c0 (0 : Int32) p4 (0 : Int32)) (pI c0 (1 : Int32) p4 (0 : Int32)) (pI c0 (2 : Int32) p4 (0 : Int32)) (pI c0 (3 : Int32) p4 (0 : Int32))) fb) (pJ c0 (2 : Int32) JJ (0 : Int64))) (pJ d0 (3 : Int32) (nc (sJ4 d0 (pJ c0 (0 : Int32) JJ (0 : Int64)) (pJ c0 (1 : Int32) JJ (0 : Int64)) (pJ c0 (2 : Int32) JJ (0 : Int64)) (pJ c0 (3 : Int32) JJ (0 : Int64))) (sI4 d0 (pI c0 (0 : Int32) p4 (0 : Int32)) (pI c0 (1 : Int32) p4 (0 : Int32)) (pI c0 (2 : Int32) p4 (0 : Int32)) (pI c0 (3 : Int32) p4 (0 : Int32))) fb) (pJ c0 (3 : Int32) JJ (0 : Int64)))), se, un, un, un, un, un, un] [] tg → Steps p.tables e below S0 tg := fun tg kg => pre758 tg (by
    refine XS.aload X745.here hx rfl (hb hby at_201) rfl rfl ?_
    refine XS.iload X745.here hx rfl (hb hby at_203) rfl ?_
    refine XS.iload X745.here hx rfl (hb hby at_205) rfl ?_
    refine st759.trans ?_
    refine XS.lstore X759.here hx rfl (hb hby at_210) rfl (l' := #[iv p0, iv p1, iv p2, iv p3, iv p4, iv p5, iv (4 : Int32), iv c0, iv c1, iv d0, iv d1, iv na, iv sm, iv p4, iv fb, iv (0 : Int32), iv cl, rv t17, rv t18, rv t19, jv (sJ4 cl (pJ d0 (0 : Int32) (nc (sJ4 d0 (pJ c0 (0 : Int32) JJ (0 : Int64)) (pJ c0 (1 : Int32) JJ (0 : Int64)) (pJ c0 (2 : Int32) JJ (0 : Int64)) (pJ c0 (3 : Int32) JJ (0 : Int64))) (sI4 d0 (pI c0 (0 : Int32) p4 (0 : Int32)) (pI c0 (1 : Int32) p4 (0 : Int32)) (pI c0 (2 : Int32) p4 (0 : Int32)) (pI c0 (3 : Int32) p4 (0 : Int32))) fb) (pJ c0 (0 : Int32) JJ (0 : Int64))) (pJ d0 (1 : Int32) (nc (sJ4 d0 (pJ c0 (0 : Int32) JJ (0 : Int64)) (pJ c0 (1 : Int32) JJ (0 : Int64)) (pJ c0 (2 : Int32) JJ (0 : Int64)) (pJ c0 (3 : Int32) JJ (0 : Int64))) (sI4 d0 (pI c0 (0 : Int32) p4 (0 : Int32)) (pI c0 (1 : Int32) p4 (0 : Int32)) (pI c0 (2 : Int32) p4 (0 : Int32)) (pI c0 (3 : Int32) p4 (0 : Int32))) fb) (pJ c0 (1 : Int32) JJ (0 : Int64))) (pJ d0 (2 : Int32) (nc (sJ4 d0 (pJ c0 (0 : Int32) JJ (0 : Int64)) (pJ c0 (1 : Int32) JJ (0 : Int64)) (pJ c0 (2 : Int32) JJ (0 : Int64)) (pJ c0 (3 : Int32) JJ (0 : Int64))) (sI4 d0 (pI c0 (0 : Int32) p4 (0 : Int32)) (pI c0 (1 : Int32) p4 (0 : Int32)) (pI c0 (2 : Int32) p4 (0 : Int32)) (pI c0 (3 : Int32) p4 (0 : Int32))) fb) (pJ c0 (2 : Int32) JJ (0 : Int64))) (pJ d0 (3 : Int32) (nc (sJ4 d0 (pJ c0 (0 : Int32) JJ (0 : Int64)) (pJ c0 (1 : Int32) JJ (0 : Int64)) (pJ c0 (2 : Int32) JJ (0 : Int64)) (pJ c0 (3 : Int32) JJ (0 : Int64))) (sI4 d0 (pI c0 (0 : Int32) p4 (0 : Int32)) (pI c0 (1 : Int32) p4 (0 : Int32)) (pI c0 (2 : Int32) p4 (0 : Int32)) (pI c0 (3 : Int32) p4 (0 : Int32))) fb) (pJ c0 (3 : Int32) JJ (0 : Int64)))), se, un, un, un, un, un, un]) rfl ?_
    exact kg)
   exact tail_r0 _ _ _ _ _ (own_mono X759 (by decide) (by decide)) e759 N759 K745 O745 hS hk hZ hown CR745 _ _ _ _ _ _ _ _ _ _ _ _ _ _ hSp pre760
  ·
   obtain ⟨cq761, kq761, q761a, q761b, q761c⟩ := isOf hZ rfl E745_748
   obtain ⟨_, _, ⟨T761, L761, k761, n761⟩, -, X761, ⟨Lc761, hQ761, l761, y761, z761⟩, st761⟩ := X745.virtualBack hx (y := y10) (z := y10) hown (mvT hZ (ow hw 72 rfl)) (mvT hZ (ow hw 73 rfl)) (notFace_of_selects (args := #[]) (mvT hZ (ow hw 75 rfl))) (mvT hZ (ow hw 75 rfl)) (mvT hZ (ow hw 74 rfl)) (by decide) (backOf (W := 0) (rm10_4_1 l Z ar hw [] t19 cl _ _ _ _ _ _ _ _ _ _ _ T745.heap n0 O745 E745_748 F745_749 E745_753 F745_754 F745_751 u745_1 hscl) hZ (ow hw 76 rfl) (ow hw 4 rfl) (by decide) (by decide)) q761a q761c (g := (mkF m 207 #[iv p0, iv p1, iv p2, iv p3, iv p4, iv p5, iv (4 : Int32), iv c0, iv c1, iv d0, iv d1, iv na, iv sm, iv p4, iv fb, iv (1 : Int32), iv cl, rv t17, rv t18, rv t19, un, un, un, un, un, un, un, un] [(.int cl), (.int (1 : Int32)), (.ref t19)])) rfl (by rw [hml]; rfl) (Steps.refl _) (argsL := [(.int (1 : Int32)), (.int cl)]) (rest := []) (lenOf pd_7 rfl) rfl (by show 2 * 0 + _ ≤ _; exact Nat.le_of_eq rfl) (hb hby at_207) (fun _ _ => ⟨rfl, rfl, (by decide : 8 + 0 ≤ _), (by decide : 50 + 0 ≤ _)⟩)
   dsimp only [Pt.U, Pt.locs, Pt.cells, Pt.slots] at X761 l761 y761 z761 st761 hQ761
   subst l761 y761 z761
   obtain ⟨rfl, N761q, e761⟩ := hQ761
   have N761 := Fr.app N745 N761q
   have hSp : Sp na sm c1 d1 cl (sJ4 cl (pJ d1 (0 : Int32) (nc (sJ4 d1 (pJ c1 (0 : Int32) JJ (0 : Int64)) (pJ c1 (1 : Int32) JJ (0 : Int64)) (pJ c1 (2 : Int32) JJ (0 : Int64)) (pJ c1 (3 : Int32) JJ (0 : Int64))) (sI4 d1 (pI c1 (0 : Int32) p4 (0 : Int32)) (pI c1 (1 : Int32) p4 (0 : Int32)) (pI c1 (2 : Int32) p4 (0 : Int32)) (pI c1 (3 : Int32) p4 (0 : Int32))) fb) (pJ c1 (0 : Int32) JJ (0 : Int64))) (pJ d1 (1 : Int32) (nc (sJ4 d1 (pJ c1 (0 : Int32) JJ (0 : Int64)) (pJ c1 (1 : Int32) JJ (0 : Int64)) (pJ c1 (2 : Int32) JJ (0 : Int64)) (pJ c1 (3 : Int32) JJ (0 : Int64))) (sI4 d1 (pI c1 (0 : Int32) p4 (0 : Int32)) (pI c1 (1 : Int32) p4 (0 : Int32)) (pI c1 (2 : Int32) p4 (0 : Int32)) (pI c1 (3 : Int32) p4 (0 : Int32))) fb) (pJ c1 (1 : Int32) JJ (0 : Int64))) (pJ d1 (2 : Int32) (nc (sJ4 d1 (pJ c1 (0 : Int32) JJ (0 : Int64)) (pJ c1 (1 : Int32) JJ (0 : Int64)) (pJ c1 (2 : Int32) JJ (0 : Int64)) (pJ c1 (3 : Int32) JJ (0 : Int64))) (sI4 d1 (pI c1 (0 : Int32) p4 (0 : Int32)) (pI c1 (1 : Int32) p4 (0 : Int32)) (pI c1 (2 : Int32) p4 (0 : Int32)) (pI c1 (3 : Int32) p4 (0 : Int32))) fb) (pJ c1 (2 : Int32) JJ (0 : Int64))) (pJ d1 (3 : Int32) (nc (sJ4 d1 (pJ c1 (0 : Int32) JJ (0 : Int64)) (pJ c1 (1 : Int32) JJ (0 : Int64)) (pJ c1 (2 : Int32) JJ (0 : Int64)) (pJ c1 (3 : Int32) JJ (0 : Int64))) (sI4 d1 (pI c1 (0 : Int32) p4 (0 : Int32)) (pI c1 (1 : Int32) p4 (0 : Int32)) (pI c1 (2 : Int32) p4 (0 : Int32)) (pI c1 (3 : Int32) p4 (0 : Int32))) fb) (pJ c1 (3 : Int32) JJ (0 : Int64)))) := by rw [own_selJ4 hsd1 hscl, own_selJ4 hsc1 hsd1, own_selJ4 hsc1 hscl, own_selI4 hsc1 hsd1, own_s0J4 d1, own_s0J4 cl, own_s0I4 d1]; exact own_SpJ hJ hn123 hfbs
   have pre762 : ∀ tg, AT p e below T761 m 212 #[iv p0, iv p1, iv p2, iv p3, iv p4, iv p5, iv (4 : Int32), iv c0, iv c1, iv d0, iv d1, iv na, iv sm, iv p4, iv fb, iv (1 : Int32), iv cl, rv t17, rv t18, rv t19, jv (sJ4 cl (pJ d1 (0 : Int32) (nc (sJ4 d1 (pJ c1 (0 : Int32) JJ (0 : Int64)) (pJ c1 (1 : Int32) JJ (0 : Int64)) (pJ c1 (2 : Int32) JJ (0 : Int64)) (pJ c1 (3 : Int32) JJ (0 : Int64))) (sI4 d1 (pI c1 (0 : Int32) p4 (0 : Int32)) (pI c1 (1 : Int32) p4 (0 : Int32)) (pI c1 (2 : Int32) p4 (0 : Int32)) (pI c1 (3 : Int32) p4 (0 : Int32))) fb) (pJ c1 (0 : Int32) JJ (0 : Int64))) (pJ d1 (1 : Int32) (nc (sJ4 d1 (pJ c1 (0 : Int32) JJ (0 : Int64)) (pJ c1 (1 : Int32) JJ (0 : Int64)) (pJ c1 (2 : Int32) JJ (0 : Int64)) (pJ c1 (3 : Int32) JJ (0 : Int64))) (sI4 d1 (pI c1 (0 : Int32) p4 (0 : Int32)) (pI c1 (1 : Int32) p4 (0 : Int32)) (pI c1 (2 : Int32) p4 (0 : Int32)) (pI c1 (3 : Int32) p4 (0 : Int32))) fb) (pJ c1 (1 : Int32) JJ (0 : Int64))) (pJ d1 (2 : Int32) (nc (sJ4 d1 (pJ c1 (0 : Int32) JJ (0 : Int64)) (pJ c1 (1 : Int32) JJ (0 : Int64)) (pJ c1 (2 : Int32) JJ (0 : Int64)) (pJ c1 (3 : Int32) JJ (0 : Int64))) (sI4 d1 (pI c1 (0 : Int32) p4 (0 : Int32)) (pI c1 (1 : Int32) p4 (0 : Int32)) (pI c1 (2 : Int32) p4 (0 : Int32)) (pI c1 (3 : Int32) p4 (0 : Int32))) fb) (pJ c1 (2 : Int32) JJ (0 : Int64))) (pJ d1 (3 : Int32) (nc (sJ4 d1 (pJ c1 (0 : Int32) JJ (0 : Int64)) (pJ c1 (1 : Int32) JJ (0 : Int64)) (pJ c1 (2 : Int32) JJ (0 : Int64)) (pJ c1 (3 : Int32) JJ (0 : Int64))) (sI4 d1 (pI c1 (0 : Int32) p4 (0 : Int32)) (pI c1 (1 : Int32) p4 (0 : Int32)) (pI c1 (2 : Int32) p4 (0 : Int32)) (pI c1 (3 : Int32) p4 (0 : Int32))) fb) (pJ c1 (3 : Int32) JJ (0 : Int64)))), se, un, un, un, un, un, un] [] tg → Steps p.tables e below S0 tg := fun tg kg => pre758 tg (by
    refine XS.aload X745.here hx rfl (hb hby at_201) rfl rfl ?_
    refine XS.iload X745.here hx rfl (hb hby at_203) rfl ?_
    refine XS.iload X745.here hx rfl (hb hby at_205) rfl ?_
    refine st761.trans ?_
    refine XS.lstore X761.here hx rfl (hb hby at_210) rfl (l' := #[iv p0, iv p1, iv p2, iv p3, iv p4, iv p5, iv (4 : Int32), iv c0, iv c1, iv d0, iv d1, iv na, iv sm, iv p4, iv fb, iv (1 : Int32), iv cl, rv t17, rv t18, rv t19, jv (sJ4 cl (pJ d1 (0 : Int32) (nc (sJ4 d1 (pJ c1 (0 : Int32) JJ (0 : Int64)) (pJ c1 (1 : Int32) JJ (0 : Int64)) (pJ c1 (2 : Int32) JJ (0 : Int64)) (pJ c1 (3 : Int32) JJ (0 : Int64))) (sI4 d1 (pI c1 (0 : Int32) p4 (0 : Int32)) (pI c1 (1 : Int32) p4 (0 : Int32)) (pI c1 (2 : Int32) p4 (0 : Int32)) (pI c1 (3 : Int32) p4 (0 : Int32))) fb) (pJ c1 (0 : Int32) JJ (0 : Int64))) (pJ d1 (1 : Int32) (nc (sJ4 d1 (pJ c1 (0 : Int32) JJ (0 : Int64)) (pJ c1 (1 : Int32) JJ (0 : Int64)) (pJ c1 (2 : Int32) JJ (0 : Int64)) (pJ c1 (3 : Int32) JJ (0 : Int64))) (sI4 d1 (pI c1 (0 : Int32) p4 (0 : Int32)) (pI c1 (1 : Int32) p4 (0 : Int32)) (pI c1 (2 : Int32) p4 (0 : Int32)) (pI c1 (3 : Int32) p4 (0 : Int32))) fb) (pJ c1 (1 : Int32) JJ (0 : Int64))) (pJ d1 (2 : Int32) (nc (sJ4 d1 (pJ c1 (0 : Int32) JJ (0 : Int64)) (pJ c1 (1 : Int32) JJ (0 : Int64)) (pJ c1 (2 : Int32) JJ (0 : Int64)) (pJ c1 (3 : Int32) JJ (0 : Int64))) (sI4 d1 (pI c1 (0 : Int32) p4 (0 : Int32)) (pI c1 (1 : Int32) p4 (0 : Int32)) (pI c1 (2 : Int32) p4 (0 : Int32)) (pI c1 (3 : Int32) p4 (0 : Int32))) fb) (pJ c1 (2 : Int32) JJ (0 : Int64))) (pJ d1 (3 : Int32) (nc (sJ4 d1 (pJ c1 (0 : Int32) JJ (0 : Int64)) (pJ c1 (1 : Int32) JJ (0 : Int64)) (pJ c1 (2 : Int32) JJ (0 : Int64)) (pJ c1 (3 : Int32) JJ (0 : Int64))) (sI4 d1 (pI c1 (0 : Int32) p4 (0 : Int32)) (pI c1 (1 : Int32) p4 (0 : Int32)) (pI c1 (2 : Int32) p4 (0 : Int32)) (pI c1 (3 : Int32) p4 (0 : Int32))) fb) (pJ c1 (3 : Int32) JJ (0 : Int64)))), se, un, un, un, un, un, un]) rfl ?_
    exact kg)
   exact tail_r1 _ _ _ _ _ (own_mono X761 (by decide) (by decide)) e761 N761 K745 O745 hS hk hZ hown CR745 _ _ _ _ _ _ _ _ _ _ _ _ _ _ hSp pre762
 have pre1 : ∀ tg, AT p e below s₁ m 7 #[iv p0, iv p1, iv p2, iv p3, iv p4, iv p5, iv ((1 : Int32) + (p0 &&& (3 : Int32))), un, un, un, un, un, un, un, un, un, un, un, un, un, un, un, un, un, un, un, un, un] [] tg → Steps p.tables e below S0 tg := fun tg kg => pre0 tg (by
  refine XS.iconst X0.here hx rfl (hb hby at_0) ?_
  refine XS.iloadN X0.here hx rfl (hb hby at_1) rfl ?_
  refine XS.iconst X0.here hx rfl (hb hby at_2) ?_
  refine XS.iand X0.here hx rfl (hb hby at_3) rfl ?_
  refine XS.iadd X0.here hx rfl (hb hby at_4) rfl ?_
  refine XS.istore X0.here hx rfl (hb hby at_5) rfl (l' := #[iv p0, iv p1, iv p2, iv p3, iv p4, iv p5, iv ((1 : Int32) + (p0 &&& (3 : Int32))), un, un, un, un, un, un, un, un, un, un, un, un, un, un, un, un, un, un, un, un, un]) rfl ?_
  exact kg)
 obtain ⟨mz, hmz⟩ : ∃ z, z = ((1 : Int32) + (p0 &&& (3 : Int32))) := ⟨_, rfl⟩
 have pre2 : ∀ tg, AT p e below s₁ m 7 #[iv p0, iv p1, iv p2, iv p3, iv p4, iv p5, iv mz, un, un, un, un, un, un, un, un, un, un, un, un, un, un, un, un, un, un, un, un, un] [] tg → Steps p.tables e below S0 tg := by rw [hmz]; exact pre1
 have hsmz : mz = (1 : Int32) ∨ mz = (2 : Int32) ∨ mz = (3 : Int32) ∨ mz = (4 : Int32) := by rw [hmz]; exact own_m14 p0
 rcases hsmz with rfl | rfl | rfl | rfl
 ·
  have pre3 : ∀ tg, AT p e below s₁ m 49 #[iv p0, iv p1, iv p2, iv p3, iv p4, iv p5, iv (1 : Int32), iv ((p1 &&& (2147483647 : Int32)) % (1 : Int32)), iv (((p1.toUInt32 >>> ((16 : Int32) &&& 31).toUInt32).toInt32) % (1 : Int32)), iv ((p2 &&& (2147483647 : Int32)) % (1 : Int32)), iv (((p2.toUInt32 >>> ((16 : Int32) &&& 31).toUInt32).toInt32) % (1 : Int32)), iv (p5 &&& (3 : Int32)), un, un, un, un, un, un, un, un, un, un, un, un, un, un, un, un] [] tg → Steps p.tables e below S0 tg := fun tg kg => pre2 tg (by
   refine XS.iloadN X0.here hx rfl (hb hby at_7) rfl ?_
   refine X0.ldcInt hx hown (mvT hZ (ow hw 0 rfl)) (g := (mkF m 8 #[iv p0, iv p1, iv p2, iv p3, iv p4, iv p5, iv (1 : Int32), un, un, un, un, un, un, un, un, un, un, un, un, un, un, un, un, un, un, un, un, un] [(.int p1)])) rfl (hb hby at_8) _ ?_
   refine XS.iand X0.here hx rfl (hb hby at_10) rfl ?_
   refine XS.iload X0.here hx rfl (hb hby at_11) rfl ?_
   refine iremM X0 hx rfl (hb hby at_13) rfl (by decide) ?_
   refine XS.istore X0.here hx rfl (hb hby at_14) rfl (l' := #[iv p0, iv p1, iv p2, iv p3, iv p4, iv p5, iv (1 : Int32), iv ((p1 &&& (2147483647 : Int32)) % (1 : Int32)), un, un, un, un, un, un, un, un, un, un, un, un, un, un, un, un, un, un, un, un]) rfl ?_
   refine XS.iloadN X0.here hx rfl (hb hby at_16) rfl ?_
   refine XS.bipush X0.here hx rfl (hb hby at_17) ?_
   refine XS.iushr X0.here hx rfl (hb hby at_19) rfl ?_
   refine XS.iload X0.here hx rfl (hb hby at_20) rfl ?_
   refine iremM X0 hx rfl (hb hby at_22) rfl (by decide) ?_
   refine XS.istore X0.here hx rfl (hb hby at_23) rfl (l' := #[iv p0, iv p1, iv p2, iv p3, iv p4, iv p5, iv (1 : Int32), iv ((p1 &&& (2147483647 : Int32)) % (1 : Int32)), iv (((p1.toUInt32 >>> ((16 : Int32) &&& 31).toUInt32).toInt32) % (1 : Int32)), un, un, un, un, un, un, un, un, un, un, un, un, un, un, un, un, un, un, un]) rfl ?_
   refine XS.iloadN X0.here hx rfl (hb hby at_25) rfl ?_
   refine X0.ldcInt hx hown (mvT hZ (ow hw 0 rfl)) (g := (mkF m 26 #[iv p0, iv p1, iv p2, iv p3, iv p4, iv p5, iv (1 : Int32), iv ((p1 &&& (2147483647 : Int32)) % (1 : Int32)), iv (((p1.toUInt32 >>> ((16 : Int32) &&& 31).toUInt32).toInt32) % (1 : Int32)), un, un, un, un, un, un, un, un, un, un, un, un, un, un, un, un, un, un, un] [(.int p2)])) rfl (hb hby at_26) _ ?_
   refine XS.iand X0.here hx rfl (hb hby at_28) rfl ?_
   refine XS.iload X0.here hx rfl (hb hby at_29) rfl ?_
   refine iremM X0 hx rfl (hb hby at_31) rfl (by decide) ?_
   refine XS.istore X0.here hx rfl (hb hby at_32) rfl (l' := #[iv p0, iv p1, iv p2, iv p3, iv p4, iv p5, iv (1 : Int32), iv ((p1 &&& (2147483647 : Int32)) % (1 : Int32)), iv (((p1.toUInt32 >>> ((16 : Int32) &&& 31).toUInt32).toInt32) % (1 : Int32)), iv ((p2 &&& (2147483647 : Int32)) % (1 : Int32)), un, un, un, un, un, un, un, un, un, un, un, un, un, un, un, un, un, un]) rfl ?_
   refine XS.iloadN X0.here hx rfl (hb hby at_34) rfl ?_
   refine XS.bipush X0.here hx rfl (hb hby at_35) ?_
   refine XS.iushr X0.here hx rfl (hb hby at_37) rfl ?_
   refine XS.iload X0.here hx rfl (hb hby at_38) rfl ?_
   refine iremM X0 hx rfl (hb hby at_40) rfl (by decide) ?_
   refine XS.istore X0.here hx rfl (hb hby at_41) rfl (l' := #[iv p0, iv p1, iv p2, iv p3, iv p4, iv p5, iv (1 : Int32), iv ((p1 &&& (2147483647 : Int32)) % (1 : Int32)), iv (((p1.toUInt32 >>> ((16 : Int32) &&& 31).toUInt32).toInt32) % (1 : Int32)), iv ((p2 &&& (2147483647 : Int32)) % (1 : Int32)), iv (((p2.toUInt32 >>> ((16 : Int32) &&& 31).toUInt32).toInt32) % (1 : Int32)), un, un, un, un, un, un, un, un, un, un, un, un, un, un, un, un, un]) rfl ?_
   refine XS.iload X0.here hx rfl (hb hby at_43) rfl ?_
   refine XS.iconst X0.here hx rfl (hb hby at_45) ?_
   refine XS.iand X0.here hx rfl (hb hby at_46) rfl ?_
   refine XS.istore X0.here hx rfl (hb hby at_47) rfl (l' := #[iv p0, iv p1, iv p2, iv p3, iv p4, iv p5, iv (1 : Int32), iv ((p1 &&& (2147483647 : Int32)) % (1 : Int32)), iv (((p1.toUInt32 >>> ((16 : Int32) &&& 31).toUInt32).toInt32) % (1 : Int32)), iv ((p2 &&& (2147483647 : Int32)) % (1 : Int32)), iv (((p2.toUInt32 >>> ((16 : Int32) &&& 31).toUInt32).toInt32) % (1 : Int32)), iv (p5 &&& (3 : Int32)), un, un, un, un, un, un, un, un, un, un, un, un, un, un, un, un]) rfl ?_
   exact kg)
  obtain ⟨c0, hc0⟩ : ∃ z, z = ((p1 &&& (2147483647 : Int32)) % (1 : Int32)) := ⟨_, rfl⟩
  obtain ⟨c1, hc1⟩ : ∃ z, z = (((p1.toUInt32 >>> ((16 : Int32) &&& 31).toUInt32).toInt32) % (1 : Int32)) := ⟨_, rfl⟩
  obtain ⟨d0, hd0⟩ : ∃ z, z = ((p2 &&& (2147483647 : Int32)) % (1 : Int32)) := ⟨_, rfl⟩
  obtain ⟨d1, hd1⟩ : ∃ z, z = (((p2.toUInt32 >>> ((16 : Int32) &&& 31).toUInt32).toInt32) % (1 : Int32)) := ⟨_, rfl⟩
  obtain ⟨na, hna⟩ : ∃ z, z = (p5 &&& (3 : Int32)) := ⟨_, rfl⟩
  have pre4 : ∀ tg, AT p e below s₁ m 49 #[iv p0, iv p1, iv p2, iv p3, iv p4, iv p5, iv (1 : Int32), iv c0, iv c1, iv d0, iv d1, iv na, un, un, un, un, un, un, un, un, un, un, un, un, un, un, un, un] [] tg → Steps p.tables e below S0 tg := by rw [hc0, hc1, hd0, hd1, hna]; exact pre3
  have hsc0 : c0 = (0 : Int32) := by rw [hc0]; exact own_m1 p1
  have hsc1 : c1 = (0 : Int32) := by rw [hc1]; exact own_u16_1 p1
  have hsd0 : d0 = (0 : Int32) := by rw [hd0]; exact own_m1 p2
  have hsd1 : d1 = (0 : Int32) := by rw [hd1]; exact own_u16_1 p2
  have hsna : na = (0 : Int32) ∨ na = (1 : Int32) ∨ na = (2 : Int32) ∨ na = (3 : Int32) := by rw [hna]; exact own_n3 p5
  have pre5 : ∀ tg, AT p e below s₁ m 55 #[iv p0, iv p1, iv p2, iv p3, iv p4, iv p5, iv (1 : Int32), iv c0, iv c1, iv d0, iv d1, iv na, un, un, un, un, un, un, un, un, un, un, un, un, un, un, un, un] [(.int (((p5.toUInt32 >>> ((2 : Int32) &&& 31).toUInt32).toInt32) &&& (1 : Int32)))] tg → Steps p.tables e below S0 tg := fun tg kg => pre4 tg (by
   refine XS.iload X0.here hx rfl (hb hby at_49) rfl ?_
   refine XS.iconst X0.here hx rfl (hb hby at_51) ?_
   refine XS.iushr X0.here hx rfl (hb hby at_52) rfl ?_
   refine XS.iconst X0.here hx rfl (hb hby at_53) ?_
   refine XS.iand X0.here hx rfl (hb hby at_54) rfl ?_
   exact kg)
  have pre6 : ∀ tg, AT p e below s₁ m 63 #[iv p0, iv p1, iv p2, iv p3, iv p4, iv p5, iv (1 : Int32), iv c0, iv c1, iv d0, iv d1, iv na, un, un, un, un, un, un, un, un, un, un, un, un, un, un, un, un] [(.int (if (((p5.toUInt32 >>> ((2 : Int32) &&& 31).toUInt32).toInt32) &&& (1 : Int32)) = (0 : Int32) then (1 : Int32) else (0 : Int32)))] tg → Steps p.tables e below S0 tg := by
   intro tg kg
   rcases Decidable.em ((((p5.toUInt32 >>> ((2 : Int32) &&& 31).toUInt32).toInt32) &&& (1 : Int32)) = (0 : Int32)) with hd | hd
   ·
    simp only [if_pos hd] at kg
    exact pre5 tg (by
     refine XS.ifNo X0.here hx rfl (hb hby at_55) rfl (XT.i0_ne_f hd) ?_
     refine XS.iconst X0.here hx rfl (hb hby at_58) ?_
     refine XS.goto X0.here hx rfl (pc0 := 59) (pc' := 63) rfl (hb hby at_59) (by decide) (by decide) ?_
     exact kg)
   ·
    simp only [if_neg hd] at kg
    exact pre5 tg (by
     refine XS.ifYes X0.here hx rfl (pc0 := 55) (pc' := 62) rfl (hb hby at_55) rfl (XT.i0_ne_t hd) (by decide) (by decide) ?_
     refine XS.iconst X0.here hx rfl (hb hby at_62) ?_
     exact kg)
  have pre7 : ∀ tg, AT p e below s₁ m 65 #[iv p0, iv p1, iv p2, iv p3, iv p4, iv p5, iv (1 : Int32), iv c0, iv c1, iv d0, iv d1, iv na, iv (if (((p5.toUInt32 >>> ((2 : Int32) &&& 31).toUInt32).toInt32) &&& (1 : Int32)) = (0 : Int32) then (1 : Int32) else (0 : Int32)), un, un, un, un, un, un, un, un, un, un, un, un, un, un, un] [] tg → Steps p.tables e below S0 tg := fun tg kg => pre6 tg (by
   refine XS.istore X0.here hx rfl (hb hby at_63) rfl (l' := #[iv p0, iv p1, iv p2, iv p3, iv p4, iv p5, iv (1 : Int32), iv c0, iv c1, iv d0, iv d1, iv na, iv (if (((p5.toUInt32 >>> ((2 : Int32) &&& 31).toUInt32).toInt32) &&& (1 : Int32)) = (0 : Int32) then (1 : Int32) else (0 : Int32)), un, un, un, un, un, un, un, un, un, un, un, un, un, un, un]) rfl ?_
   exact kg)
  obtain ⟨sm, hsm⟩ : ∃ z, z = (if (((p5.toUInt32 >>> ((2 : Int32) &&& 31).toUInt32).toInt32) &&& (1 : Int32)) = (0 : Int32) then (1 : Int32) else (0 : Int32)) := ⟨_, rfl⟩
  have pre8 : ∀ tg, AT p e below s₁ m 65 #[iv p0, iv p1, iv p2, iv p3, iv p4, iv p5, iv (1 : Int32), iv c0, iv c1, iv d0, iv d1, iv na, iv sm, un, un, un, un, un, un, un, un, un, un, un, un, un, un, un] [] tg → Steps p.tables e below S0 tg := by rw [hsm]; exact pre7
  have pre9 : ∀ tg, AT p e below s₁ m 71 #[iv p0, iv p1, iv p2, iv p3, iv p4, iv p5, iv (1 : Int32), iv c0, iv c1, iv d0, iv d1, iv na, iv sm, iv p4, un, un, un, un, un, un, un, un, un, un, un, un, un, un] [(.int sm)] tg → Steps p.tables e below S0 tg := fun tg kg => pre8 tg (by
   refine XS.iload X0.here hx rfl (hb hby at_65) rfl ?_
   refine XS.istore X0.here hx rfl (hb hby at_67) rfl (l' := #[iv p0, iv p1, iv p2, iv p3, iv p4, iv p5, iv (1 : Int32), iv c0, iv c1, iv d0, iv d1, iv na, iv sm, iv p4, un, un, un, un, un, un, un, un, un, un, un, un, un, un]) rfl ?_
   refine XS.iload X0.here hx rfl (hb hby at_69) rfl ?_
   exact kg)
  have pre10 : ∀ tg, AT p e below s₁ m 83 #[iv p0, iv p1, iv p2, iv p3, iv p4, iv p5, iv (1 : Int32), iv c0, iv c1, iv d0, iv d1, iv na, iv sm, iv p4, un, un, un, un, un, un, un, un, un, un, un, un, un, un] [(.int (if sm = (0 : Int32) then (p4 + (1 : Int32)) else p4))] tg → Steps p.tables e below S0 tg := by
   intro tg kg
   rcases Decidable.em (sm = (0 : Int32)) with hd | hd
   ·
    simp only [if_pos hd] at kg
    exact pre9 tg (by
     refine XS.ifYes X0.here hx rfl (pc0 := 71) (pc' := 79) rfl (hb hby at_71) rfl (XT.i0_eq_t hd) (by decide) (by decide) ?_
     refine XS.iload X0.here hx rfl (hb hby at_79) rfl ?_
     refine XS.iconst X0.here hx rfl (hb hby at_81) ?_
     refine XS.iadd X0.here hx rfl (hb hby at_82) rfl ?_
     exact kg)
   ·
    simp only [if_neg hd] at kg
    exact pre9 tg (by
     refine XS.ifNo X0.here hx rfl (hb hby at_71) rfl (XT.i0_eq_f hd) ?_
     refine XS.iload X0.here hx rfl (hb hby at_74) rfl ?_
     refine XS.goto X0.here hx rfl (pc0 := 76) (pc' := 83) rfl (hb hby at_76) (by decide) (by decide) ?_
     exact kg)
  have pre11 : ∀ tg, AT p e below s₁ m 98 #[iv p0, iv p1, iv p2, iv p3, iv p4, iv p5, iv (1 : Int32), iv c0, iv c1, iv d0, iv d1, iv na, iv sm, iv p4, iv (if sm = (0 : Int32) then (p4 + (1 : Int32)) else p4), iv (p3 &&& (1 : Int32)), iv (((p3.toUInt32 >>> ((1 : Int32) &&& 31).toUInt32).toInt32) % (1 : Int32)), un, un, un, un, un, un, un, un, un, un, un] [] tg → Steps p.tables e below S0 tg := fun tg kg => pre10 tg (by
   refine XS.istore X0.here hx rfl (hb hby at_83) rfl (l' := #[iv p0, iv p1, iv p2, iv p3, iv p4, iv p5, iv (1 : Int32), iv c0, iv c1, iv d0, iv d1, iv na, iv sm, iv p4, iv (if sm = (0 : Int32) then (p4 + (1 : Int32)) else p4), un, un, un, un, un, un, un, un, un, un, un, un, un]) rfl ?_
   refine XS.iloadN X0.here hx rfl (hb hby at_85) rfl ?_
   refine XS.iconst X0.here hx rfl (hb hby at_86) ?_
   refine XS.iand X0.here hx rfl (hb hby at_87) rfl ?_
   refine XS.istore X0.here hx rfl (hb hby at_88) rfl (l' := #[iv p0, iv p1, iv p2, iv p3, iv p4, iv p5, iv (1 : Int32), iv c0, iv c1, iv d0, iv d1, iv na, iv sm, iv p4, iv (if sm = (0 : Int32) then (p4 + (1 : Int32)) else p4), iv (p3 &&& (1 : Int32)), un, un, un, un, un, un, un, un, un, un, un, un]) rfl ?_
   refine XS.iloadN X0.here hx rfl (hb hby at_90) rfl ?_
   refine XS.iconst X0.here hx rfl (hb hby at_91) ?_
   refine XS.iushr X0.here hx rfl (hb hby at_92) rfl ?_
   refine XS.iload X0.here hx rfl (hb hby at_93) rfl ?_
   refine iremM X0 hx rfl (hb hby at_95) rfl (by decide) ?_
   refine XS.istore X0.here hx rfl (hb hby at_96) rfl (l' := #[iv p0, iv p1, iv p2, iv p3, iv p4, iv p5, iv (1 : Int32), iv c0, iv c1, iv d0, iv d1, iv na, iv sm, iv p4, iv (if sm = (0 : Int32) then (p4 + (1 : Int32)) else p4), iv (p3 &&& (1 : Int32)), iv (((p3.toUInt32 >>> ((1 : Int32) &&& 31).toUInt32).toInt32) % (1 : Int32)), un, un, un, un, un, un, un, un, un, un, un]) rfl ?_
   exact kg)
  obtain ⟨fb, hfb⟩ : ∃ z, z = (if sm = (0 : Int32) then (p4 + (1 : Int32)) else p4) := ⟨_, rfl⟩
  obtain ⟨cl, hcl⟩ : ∃ z, z = (((p3.toUInt32 >>> ((1 : Int32) &&& 31).toUInt32).toInt32) % (1 : Int32)) := ⟨_, rfl⟩
  have pre12 : ∀ tg, AT p e below s₁ m 98 #[iv p0, iv p1, iv p2, iv p3, iv p4, iv p5, iv (1 : Int32), iv c0, iv c1, iv d0, iv d1, iv na, iv sm, iv p4, iv fb, iv (p3 &&& (1 : Int32)), iv cl, un, un, un, un, un, un, un, un, un, un, un] [] tg → Steps p.tables e below S0 tg := by rw [hfb, hcl]; exact pre11
  have hfbs := own_fb hfb
  have hscl : cl = (0 : Int32) := by rw [hcl]; exact own_u1_1 p3
  obtain ⟨T13, h13, k13, X13, e13, E13, A13, B13, st13⟩ := newPE X0 hx hZ (ow hw 1 rfl) e0 (g := (mkF m 99 #[iv p0, iv p1, iv p2, iv p3, iv p4, iv p5, iv (1 : Int32), iv c0, iv c1, iv d0, iv d1, iv na, iv sm, iv p4, iv fb, iv (p3 &&& (1 : Int32)), iv cl, un, un, un, un, un, un, un, un, un, un, un] [(.int (2 : Int32))])) rfl (hb hby at_99) rfl (by decide) (cap := 2) (by decide) (by decide) (by decide) (by decide) (ad := "[I") (by decide)
  obtain ⟨b13, g13⟩ : ∃ z, z = h0.size := ⟨_, rfl⟩
  rw [← g13] at A13 B13 st13
  have gn13 : n0 ≤ b13 := Nat.le_trans (Nat.le_trans (Nat.le_of_eq O0.1.symm) O0.2.1) (Nat.le_of_eq g13.symm)
  have sz13 : h0.size ≤ b13 := Nat.le_trans (Keep.refl h0 []).1 (Nat.le_of_eq g13.symm)
  have K13 := (Keep.refl h0 []).ext E13
  have O13 := O0.ext E13
  have CR13 : CHr Z EL0 s.vm h0 s.vm h13 := CR0.trans (CHr.ext E13 CR0.1)
  have hk := Nat.le_trans hk E13.1
  have V13_14 : Arv Z h13 b13 k13 .int (2 : Int32) [(.int (0 : Int32)), (.int (0 : Int32))] (.int (0 : Int32)) := (Arv.new A13 (by decide)).pad (pad_rep [] (.int (0 : Int32)) 2)
  obtain ⟨cl15, Ar15, q15, S15, M15, H15, G15⟩ := id V13_14
  have hin15 := own_in (0 : Int32) S15 ⟨by decide, by decide⟩
  obtain ⟨T15, h15, X15, e15, W15, st15⟩ := stI X13 hx hZ e13 Ar15 (j := (0 : Int32)) hin15 (g := (mkF m 105 #[iv p0, iv p1, iv p2, iv p3, iv p4, iv p5, iv (1 : Int32), iv c0, iv c1, iv d0, iv d1, iv na, iv sm, iv p4, iv fb, iv (p3 &&& (1 : Int32)), iv cl, un, un, un, un, un, un, un, un, un, un, un] [(.int c0), (.int (0 : Int32)), (.ref b13), (.ref b13)])) rfl rfl (hb hby at_105)
  have V15_16 : Arv Z h15 b13 k13 .int (2 : Int32) [(.int c0), (.int (0 : Int32))] (.int (0 : Int32)) := Arv.set Ar15 q15 S15 M15 H15 G15 rfl W15 0 rfl (Nat.le_of_ble_eq_true rfl)
  have E15_17 := B13.wr W15
  have K15 := K13.wr W15 (Or.inr sz13)
  have O15 := O13.wr W15 gn13
  have CR15 : CHr Z EL0 s.vm h0 s.vm h15 := CR13.trans (CHr.wr W15 own_sf0 CR13.1)
  have hk := Nat.le_trans hk (Keep.of_wr W15).1
  have N15 := Fr.snoc X15 N0 gn13
  obtain ⟨cl18, Ar18, q18, S18, M18, H18, G18⟩ := id V15_16
  have hin18 := own_in (1 : Int32) S18 ⟨by decide, by decide⟩
  obtain ⟨T18, h18, X18, e18, W18, st18⟩ := stI X15 hx hZ e15 Ar18 (j := (1 : Int32)) hin18 (g := (mkF m 110 #[iv p0, iv p1, iv p2, iv p3, iv p4, iv p5, iv (1 : Int32), iv c0, iv c1, iv d0, iv d1, iv na, iv sm, iv p4, iv fb, iv (p3 &&& (1 : Int32)), iv cl, un, un, un, un, un, un, un, un, un, un, un] [(.int c1), (.int (1 : Int32)), (.ref b13), (.ref b13)])) rfl rfl (hb hby at_110)
  have V18_19 : Arv Z h18 b13 k13 .int (2 : Int32) [(.int c0), (.int c1)] (.int (0 : Int32)) := Arv.set Ar18 q18 S18 M18 H18 G18 rfl W18 1 rfl (Nat.le_of_ble_eq_true rfl)
  have E18_20 := E15_17.wr W18
  have K18 := K15.wr W18 (Or.inr sz13)
  have O18 := O15.wr W18 gn13
  have CR18 : CHr Z EL0 s.vm h0 s.vm h18 := CR15.trans (CHr.wr W18 own_sf0 CR15.1)
  have hk := Nat.le_trans hk (Keep.of_wr W18).1
  have N18 := Fr.snoc X18 N15 gn13
  obtain ⟨T21, h21, k21, X21, e21, E21, A21, B21, st21⟩ := newPE X18 hx hZ (ow hw 1 rfl) e18 (g := (mkF m 114 #[iv p0, iv p1, iv p2, iv p3, iv p4, iv p5, iv (1 : Int32), iv c0, iv c1, iv d0, iv d1, iv na, iv sm, iv p4, iv fb, iv (p3 &&& (1 : Int32)), iv cl, rv b13, un, un, un, un, un, un, un, un, un, un] [(.int (2 : Int32))])) rfl (hb hby at_114) rfl (by decide) (cap := 2) (by decide) (by decide) (by decide) (by decide) (ad := "[I") (by decide)
  obtain ⟨b21, g21⟩ : ∃ z, z = h18.size := ⟨_, rfl⟩
  rw [← g21] at A21 B21 st21
  have ne21_22 : b13 ≠ b21 := Nat.ne_of_lt (Nat.lt_of_lt_of_le (V18_19).lt (Nat.le_of_eq g21.symm))
  have gn21 : n0 ≤ b21 := Nat.le_trans (Nat.le_trans (Nat.le_of_eq O18.1.symm) O18.2.1) (Nat.le_of_eq g21.symm)
  have sz21 : h0.size ≤ b21 := Nat.le_trans K18.1 (Nat.le_of_eq g21.symm)
  have V21_23 := V18_19.ext E21
  have E21_24 := E18_20.ext E21
  have K21 := K18.ext E21
  have O21 := O18.ext E21
  have CR21 : CHr Z EL0 s.vm h0 s.vm h21 := CR18.trans (CHr.ext E21 CR18.1)
  have hk := Nat.le_trans hk E21.1
  have V21_25 : Arv Z h21 b21 k21 .int (2 : Int32) [(.int (0 : Int32)), (.int (0 : Int32))] (.int (0 : Int32)) := (Arv.new A21 (by decide)).pad (pad_rep [] (.int (0 : Int32)) 2)
  obtain ⟨cl26, Ar26, q26, S26, M26, H26, G26⟩ := id V21_25
  have hin26 := own_in (0 : Int32) S26 ⟨by decide, by decide⟩
  obtain ⟨T26, h26, X26, e26, W26, st26⟩ := stI X21 hx hZ e21 Ar26 (j := (0 : Int32)) hin26 (g := (mkF m 120 #[iv p0, iv p1, iv p2, iv p3, iv p4, iv p5, iv (1 : Int32), iv c0, iv c1, iv d0, iv d1, iv na, iv sm, iv p4, iv fb, iv (p3 &&& (1 : Int32)), iv cl, rv b13, un, un, un, un, un, un, un, un, un, un] [(.int d0), (.int (0 : Int32)), (.ref b21), (.ref b21)])) rfl rfl (hb hby at_120)
  have V26_27 : Arv Z h26 b21 k21 .int (2 : Int32) [(.int d0), (.int (0 : Int32))] (.int (0 : Int32)) := Arv.set Ar26 q26 S26 M26 H26 G26 rfl W26 0 rfl (Nat.le_of_ble_eq_true rfl)
  have V26_28 := V21_23.other W26 ne21_22
  have E26_29 := E21_24.wr W26
  have E26_30 := B21.wr W26
  have K26 := K21.wr W26 (Or.inr sz21)
  have O26 := O21.wr W26 gn21
  have CR26 : CHr Z EL0 s.vm h0 s.vm h26 := CR21.trans (CHr.wr W26 own_sf0 CR21.1)
  have hk := Nat.le_trans hk (Keep.of_wr W26).1
  have N26 := Fr.snoc X26 N18 gn21
  obtain ⟨cl31, Ar31, q31, S31, M31, H31, G31⟩ := id V26_27
  have hin31 := own_in (1 : Int32) S31 ⟨by decide, by decide⟩
  obtain ⟨T31, h31, X31, e31, W31, st31⟩ := stI X26 hx hZ e26 Ar31 (j := (1 : Int32)) hin31 (g := (mkF m 125 #[iv p0, iv p1, iv p2, iv p3, iv p4, iv p5, iv (1 : Int32), iv c0, iv c1, iv d0, iv d1, iv na, iv sm, iv p4, iv fb, iv (p3 &&& (1 : Int32)), iv cl, rv b13, un, un, un, un, un, un, un, un, un, un] [(.int d1), (.int (1 : Int32)), (.ref b21), (.ref b21)])) rfl rfl (hb hby at_125)
  have V31_32 : Arv Z h31 b21 k21 .int (2 : Int32) [(.int d0), (.int d1)] (.int (0 : Int32)) := Arv.set Ar31 q31 S31 M31 H31 G31 rfl W31 1 rfl (Nat.le_of_ble_eq_true rfl)
  have V31_33 := V26_28.other W31 ne21_22
  have E31_34 := E26_29.wr W31
  have E31_35 := E26_30.wr W31
  have K31 := K26.wr W31 (Or.inr sz21)
  have O31 := O26.wr W31 gn21
  have CR31 : CHr Z EL0 s.vm h0 s.vm h31 := CR26.trans (CHr.wr W31 own_sf0 CR26.1)
  have hk := Nat.le_trans hk (Keep.of_wr W31).1
  have N31 := Fr.snoc X31 N26 gn21
  obtain ⟨T36, h36, X36, e36, E36, A36, D36, -, st36⟩ := newO X31 hx hZ hown (ow hw 2 rfl) (ow hw 3 rfl) (ow hw 4 rfl) e31 (g := (mkF m 128 #[iv p0, iv p1, iv p2, iv p3, iv p4, iv p5, iv (1 : Int32), iv c0, iv c1, iv d0, iv d1, iv na, iv sm, iv p4, iv fb, iv (p3 &&& (1 : Int32)), iv cl, rv b13, rv b21, un, un, un, un, un, un, un, un, un] [])) rfl (hb hby at_128) (by decide) (by decide)
  obtain ⟨b36, g36⟩ : ∃ z, z = h31.size := ⟨_, rfl⟩
  rw [← g36] at A36 D36 st36
  have ne36_37 : b13 ≠ b36 := Nat.ne_of_lt (Nat.lt_of_lt_of_le (V31_33).lt (Nat.le_of_eq g36.symm))
  have ne36_38 : b21 ≠ b36 := Nat.ne_of_lt (Nat.lt_of_lt_of_le (V31_32).lt (Nat.le_of_eq g36.symm))
  have gn36 : n0 ≤ b36 := Nat.le_trans (Nat.le_trans (Nat.le_of_eq O31.1.symm) O31.2.1) (Nat.le_of_eq g36.symm)
  have sz36 : h0.size ≤ b36 := Nat.le_trans K31.1 (Nat.le_of_eq g36.symm)
  have V36_39 := V31_33.ext E36
  have E36_40 := E31_34.ext E36
  have V36_41 := V31_32.ext E36
  have E36_42 := E31_35.ext E36
  have K36 := K31.ext E36
  have O36 := O31.ext E36
  have CR36 : CHr Z EL0 s.vm h0 s.vm h36 := CR31.trans (CHr.ext E36 CR31.1)
  have hk := Nat.le_trans hk E36.1
  have F36_43 : Fld Z h36 b36 "com/example/filters_under_siege/filtersundersiege/KeeperPairs" "shape" "Lcom/example/filters_under_siege/filtersundersiege/SketchShape;" .null := D36 (Or.inr (ow hw 49 rfl)) (ty := (.object "com/example/filters_under_siege/filtersundersiege/SketchShape")) (by decide)
  have F36_44 : Fld Z h36 b36 "com/example/filters_under_siege/filtersundersiege/KeeperPairs" "knocksDown" "Ljava/util/function/LongPredicate;" .null := D36 (Or.inr (ow hw 51 rfl)) (ty := (.object "java/util/function/LongPredicate")) (by decide)
  have F36_45 : Fld Z h36 b36 "com/example/filters_under_siege/filtersundersiege/KeeperPairs" "fingerprints" "[I" .null := D36 (Or.inr (ow hw 58 rfl)) (ty := (.array .int)) (by decide)
  have F36_46 : Fld Z h36 b36 "com/example/filters_under_siege/filtersundersiege/KeeperPairs" "counts" "[J" .null := D36 (Or.inr (ow hw 61 rfl)) (ty := (.array .long)) (by decide)
  obtain ⟨T47, h47, X47, e47, E47, A47, D47, -, st47⟩ := newO X36 hx hZ hown (ow hw 5 rfl) (ow hw 6 rfl) (ow hw 7 rfl) e36 (g := (mkF m 132 #[iv p0, iv p1, iv p2, iv p3, iv p4, iv p5, iv (1 : Int32), iv c0, iv c1, iv d0, iv d1, iv na, iv sm, iv p4, iv fb, iv (p3 &&& (1 : Int32)), iv cl, rv b13, rv b21, un, un, un, un, un, un, un, un, un] [(.ref b36), (.ref b36)])) rfl (hb hby at_132) (by decide) (by decide)
  obtain ⟨b47, g47⟩ : ∃ z, z = h36.size := ⟨_, rfl⟩
  rw [← g47] at A47 D47 st47
  have ne47_48 : b13 ≠ b47 := Nat.ne_of_lt (Nat.lt_of_lt_of_le (V36_39).lt (Nat.le_of_eq g47.symm))
  have ne47_49 : b21 ≠ b47 := Nat.ne_of_lt (Nat.lt_of_lt_of_le (V36_41).lt (Nat.le_of_eq g47.symm))
  have ne47_50 : b36 ≠ b47 := Nat.ne_of_lt (Nat.lt_of_lt_of_le (A36).lt (Nat.le_of_eq g47.symm))
  have gn47 : n0 ≤ b47 := Nat.le_trans (Nat.le_trans (Nat.le_of_eq O36.1.symm) O36.2.1) (Nat.le_of_eq g47.symm)
  have sz47 : h0.size ≤ b47 := Nat.le_trans K36.1 (Nat.le_of_eq g47.symm)
  have V47_51 := V36_39.ext E47
  have E47_52 := E36_40.ext E47
  have V47_53 := V36_41.ext E47
  have E47_54 := E36_42.ext E47
  have E47_55 := A36.ext E47
  have F47_56 := F36_43.ext E47
  have F47_57 := F36_44.ext E47
  have F47_58 := F36_45.ext E47
  have F47_59 := F36_46.ext E47
  have K47 := K36.ext E47
  have O47 := O36.ext E47
  have CR47 : CHr Z EL0 s.vm h0 s.vm h47 := CR36.trans (CHr.ext E47 CR36.1)
  have hk := Nat.le_trans hk E47.1
  have F47_60 : Fld Z h47 b47 "com/example/filters_under_siege/filtersundersiege/SketchShape" "rows" "I" (.int (0 : Int32)) := D47 (Or.inr (ow hw 21 rfl)) (ty := .int) (by decide)
  have F47_61 : Fld Z h47 b47 "com/example/filters_under_siege/filtersundersiege/SketchShape" "width" "I" (.int (0 : Int32)) := D47 (Or.inr (ow hw 23 rfl)) (ty := .int) (by decide)
  obtain ⟨_, _, ⟨T62, L62, k62, n62⟩, -, X62, ⟨Lc62, hQ62, l62, y62, z62⟩, st62⟩ := X47.specialBack hx (y := y1) rfl hown (mvT hZ (ow hw 8 rfl)) (mvT hZ (ow hw 9 rfl)) (mvT hZ (ow hw 10 rfl)) (by decide) (backOf (W := 3) (rm1_1 l Z ar hw [] b47 h47 n0 O47 A47 F47_60 F47_61 gn47) hZ (ow hw 10 rfl) (ow hw 7 rfl) (by decide) (by decide)) (g := (mkF m 139 #[iv p0, iv p1, iv p2, iv p3, iv p4, iv p5, iv (1 : Int32), iv c0, iv c1, iv d0, iv d1, iv na, iv sm, iv p4, iv fb, iv (p3 &&& (1 : Int32)), iv cl, rv b13, rv b21, un, un, un, un, un, un, un, un, un] [(.int (1 : Int32)), (.int (2 : Int32)), (.ref b47), (.ref b47), (.ref b36), (.ref b36)])) rfl (by rw [hml]; rfl) (Steps.refl _) (a := b47) (argsL := [(.int (2 : Int32)), (.int (1 : Int32))]) (rest := [(.ref b47), (.ref b36), (.ref b36)]) (lenOf pd_4 rfl) rfl (by show 2 * 0 + _ ≤ _; exact Nat.le_of_eq rfl) (hb hby at_139) (fun _ _ => ⟨rfl, e47, (by decide : 4 + 0 ≤ _), (by decide : 10 + 0 ≤ _)⟩)
  dsimp only [Pt.U, Pt.locs, Pt.cells, Pt.slots] at X62 l62 y62 z62 st62 hQ62
  subst l62 y62 z62
  obtain ⟨rfl, N62q, Kq62, u62_0, u62_1, u62_2⟩ := hQ62
  have N62 := Fr.app N31 N62q
  have V62_63 := V47_51.keep Kq62 (ninS ne47_48 nin0)
  have E62_64 := E47_52.keep Kq62
  have V62_65 := V47_53.keep Kq62 (ninS ne47_49 nin0)
  have E62_66 := E47_54.keep Kq62
  have E62_67 := E47_55.keep Kq62
  have F62_68 := F47_56.keep Kq62 (ninS ne47_50 nin0)
  have F62_69 := F47_57.keep Kq62 (ninS ne47_50 nin0)
  have F62_70 := F47_58.keep Kq62 (ninS ne47_50 nin0)
  have F62_71 := F47_59.keep Kq62 (ninS ne47_50 nin0)
  have E62_72 := A47.keep Kq62
  have K62 := K47.trans Kq62 (allS (Or.inr sz47) all0)
  have O62 := O47.keep Kq62 (allS gn47 all0)
  have CR62 : CHr Z EL0 s.vm h0 s.vm T62.heap := CR47.trans (CHr.keep Kq62 (allS own_sf0 all0) CR47.1)
  have hk := Nat.le_trans hk Kq62.1
  obtain ⟨_, _, ⟨T73, L73, k73, n73⟩, -, X73, hS73, hg73, ⟨Lc73, hQ73, l73, y73, z73, CRq73⟩, st73⟩ := X62.specialBackS hx (y := y4) rfl hown (mvT hZ (ow hw 24 rfl)) (mvT hZ (ow hw 25 rfl)) (mvT hZ (ow hw 26 rfl)) (by decide) (backOfSH (W := 1) (rm4_1 l Z ar hw [] b36 b47 T62.heap n0 O62 hEL HW E62_67 F62_68 F62_70 F62_71 F62_69 gn36 E62_72 u62_1 u62_2 ne47_50) hZ (ow hw 26 rfl) (ow hw 4 rfl) (by decide) (by decide) hEL CR62.1) (g := (mkF m 142 #[iv p0, iv p1, iv p2, iv p3, iv p4, iv p5, iv (1 : Int32), iv c0, iv c1, iv d0, iv d1, iv na, iv sm, iv p4, iv fb, iv (p3 &&& (1 : Int32)), iv cl, rv b13, rv b21, un, un, un, un, un, un, un, un, un] [(.ref b47), (.ref b36), (.ref b36)])) rfl (by rw [hml]; rfl) (Steps.refl _) (a := b36) (argsL := [(.ref b47)]) (rest := [(.ref b36)]) (lenOf pd_5 rfl) rfl (by show 2 * 0 + _ ≤ _; exact Nat.le_of_eq rfl) (hb hby at_142) (fun _ _ => ⟨rfl, rfl, (by decide : 4 + 4 ≤ _), (by decide : 10 + 28 ≤ _)⟩)
  dsimp only [Pt.U, Pt.locs, Pt.cells, Pt.slots] at X73 l73 y73 z73 st73 hQ73 hS73 hg73 CRq73
  subst l73 y73 z73
  obtain ⟨X73, hS, hZ, hown⟩ := rebS hS hk X73 hS73 hg73 hZ hown
  have CR73 : CHr Z EL0 s.vm h0 T73.vm T73.heap := CR62.trans CRq73
  obtain ⟨fa_73, ca_73, kf_73, kc_73, rfl, N73q, Kq73, u73_0, u73_1, u73_2, u73_3, u73_4, u73_5, u73_6, u73_7, u73_8, u73_9, u73_10⟩ := hQ73
  have N73 := Fr.app N62 N73q
  have V73_74 := V62_63.keep Kq73 (ninS ne36_37 nin0)
  have E73_75 := E62_64.keep Kq73
  have V73_76 := V62_65.keep Kq73 (ninS ne36_38 nin0)
  have E73_77 := E62_66.keep Kq73
  have E73_78 := E62_67.keep Kq73
  have E73_79 := E62_72.keep Kq73
  have F73_80 := u62_1.keep Kq73 (ninS (Ne.symm ne47_50) nin0)
  have F73_81 := u62_2.keep Kq73 (ninS (Ne.symm ne47_50) nin0)
  have K73 := K62.trans Kq73 (allS (Or.inr sz36) all0)
  have O73 := O62.keep Kq73 (allS gn36 all0)
  have hk := Nat.le_trans hk Kq73.1
  have hk := Nat.le_refl (Array.size T73.heap)
  have sz82 : h0.size ≤ fa_73 := Nat.le_trans K62.1 u73_7
  have gn82 : n0 ≤ fa_73 := Nat.le_trans (Nat.le_trans (Nat.le_of_eq O62.1.symm) O62.2.1) u73_7
  have ne83 : b13 ≠ fa_73 := Nat.ne_of_lt (Nat.lt_of_lt_of_le (V62_63).lt u73_7)
  have ne84 : b21 ≠ fa_73 := Nat.ne_of_lt (Nat.lt_of_lt_of_le (V62_65).lt u73_7)
  have ne85 : b36 ≠ fa_73 := Nat.ne_of_lt (Nat.lt_of_lt_of_le (E62_67).lt u73_7)
  have ne86 : b47 ≠ fa_73 := Nat.ne_of_lt (Nat.lt_of_lt_of_le (E62_72).lt u73_7)
  have sz87 : h0.size ≤ ca_73 := Nat.le_trans K62.1 u73_8
  have gn87 : n0 ≤ ca_73 := Nat.le_trans (Nat.le_trans (Nat.le_of_eq O62.1.symm) O62.2.1) u73_8
  have ne88 : b13 ≠ ca_73 := Nat.ne_of_lt (Nat.lt_of_lt_of_le (V62_63).lt u73_8)
  have ne89 : b21 ≠ ca_73 := Nat.ne_of_lt (Nat.lt_of_lt_of_le (V62_65).lt u73_8)
  have ne90 : b36 ≠ ca_73 := Nat.ne_of_lt (Nat.lt_of_lt_of_le (E62_67).lt u73_8)
  have ne91 : b47 ≠ ca_73 := Nat.ne_of_lt (Nat.lt_of_lt_of_le (E62_72).lt u73_8)
  have pre92 : ∀ tg, AT p e below T73 m 150 #[iv p0, iv p1, iv p2, iv p3, iv p4, iv p5, iv (1 : Int32), iv c0, iv c1, iv d0, iv d1, iv na, iv sm, iv p4, iv fb, iv (p3 &&& (1 : Int32)), iv cl, rv b13, rv b21, rv b36, un, un, un, un, un, un, un, un] [(.int (1 : Int32)), (.int na)] tg → Steps p.tables e below S0 tg := fun tg kg => pre12 tg (by
   refine XS.iconst X0.here hx rfl (hb hby at_98) ?_
   refine st13 _ ?_
   refine XS.dup X13.here hx rfl (hb hby at_101) rfl rfl ?_
   refine XS.iconst X13.here hx rfl (hb hby at_102) ?_
   refine XS.iload X13.here hx rfl (hb hby at_103) rfl ?_
   refine st15 _ ?_
   refine XS.dup X15.here hx rfl (hb hby at_106) rfl rfl ?_
   refine XS.iconst X15.here hx rfl (hb hby at_107) ?_
   refine XS.iload X15.here hx rfl (hb hby at_108) rfl ?_
   refine st18 _ ?_
   refine XS.astore X18.here hx rfl (hb hby at_111) rfl rfl (l' := #[iv p0, iv p1, iv p2, iv p3, iv p4, iv p5, iv (1 : Int32), iv c0, iv c1, iv d0, iv d1, iv na, iv sm, iv p4, iv fb, iv (p3 &&& (1 : Int32)), iv cl, rv b13, un, un, un, un, un, un, un, un, un, un]) rfl ?_
   refine XS.iconst X18.here hx rfl (hb hby at_113) ?_
   refine st21 _ ?_
   refine XS.dup X21.here hx rfl (hb hby at_116) rfl rfl ?_
   refine XS.iconst X21.here hx rfl (hb hby at_117) ?_
   refine XS.iload X21.here hx rfl (hb hby at_118) rfl ?_
   refine st26 _ ?_
   refine XS.dup X26.here hx rfl (hb hby at_121) rfl rfl ?_
   refine XS.iconst X26.here hx rfl (hb hby at_122) ?_
   refine XS.iload X26.here hx rfl (hb hby at_123) rfl ?_
   refine st31 _ ?_
   refine XS.astore X31.here hx rfl (hb hby at_126) rfl rfl (l' := #[iv p0, iv p1, iv p2, iv p3, iv p4, iv p5, iv (1 : Int32), iv c0, iv c1, iv d0, iv d1, iv na, iv sm, iv p4, iv fb, iv (p3 &&& (1 : Int32)), iv cl, rv b13, rv b21, un, un, un, un, un, un, un, un, un]) rfl ?_
   refine st36 _ ?_
   refine XS.dup X36.here hx rfl (hb hby at_131) rfl rfl ?_
   refine st47 _ ?_
   refine XS.dup X47.here hx rfl (hb hby at_135) rfl rfl ?_
   refine XS.iconst X47.here hx rfl (hb hby at_136) ?_
   refine XS.iload X47.here hx rfl (hb hby at_137) rfl ?_
   refine st62.trans ?_
   refine st73.trans ?_
   refine XS.astore X73.here hx rfl (hb hby at_145) rfl rfl (l' := #[iv p0, iv p1, iv p2, iv p3, iv p4, iv p5, iv (1 : Int32), iv c0, iv c1, iv d0, iv d1, iv na, iv sm, iv p4, iv fb, iv (p3 &&& (1 : Int32)), iv cl, rv b13, rv b21, rv b36, un, un, un, un, un, un, un, un]) rfl ?_
   refine XS.iload X73.here hx rfl (hb hby at_147) rfl ?_
   refine XS.iconst X73.here hx rfl (hb hby at_149) ?_
   exact kg)
  rcases Decidable.em (na < (1 : Int32)) with hc93 | hc93
  ·
   have hna : na = (0 : Int32) := own_na0 hsna hc93
   obtain ⟨cq94, kq94, q94a, q94b, q94c⟩ := isOf hZ rfl E73_78
   obtain ⟨_, _, ⟨T94, L94, k94, n94⟩, -, X94, ⟨Lc94, hQ94, l94, y94, z94⟩, st94⟩ := X73.virtualBack hx (y := y8) (z := y8) hown (mvT hZ (ow hw 62 rfl)) (mvT hZ (ow hw 63 rfl)) (notFace_of_selects (args := #[]) (mvT hZ (ow hw 65 rfl))) (mvT hZ (ow hw 65 rfl)) (mvT hZ (ow hw 64 rfl)) (by decide) (backOf (W := 0) (rm8_1 l Z ar hw [] b36 b21 fb _ _ _ _ _ _ _ _ _ _ _ _ T73.heap n0 O73 HW E73_78 u73_1 E73_79 F73_81 u73_3 u73_4 u73_2 E73_77 V73_76 u73_9 u73_10 u73_5 u73_6 gn82 gn87 ne84 hsd0 hsd1) hZ (ow hw 66 rfl) (ow hw 4 rfl) (by decide) (by decide)) q94a q94c (g := (mkF m 198 #[iv p0, iv p1, iv p2, iv p3, iv p4, iv p5, iv (1 : Int32), iv c0, iv c1, iv d0, iv d1, iv na, iv sm, iv p4, iv fb, iv (p3 &&& (1 : Int32)), iv cl, rv b13, rv b21, rv b36, un, un, un, un, un, un, un, un] [(.int fb), (.ref b21), (.ref b36)])) rfl (by rw [hml]; rfl) (Steps.refl _) (argsL := [(.ref b21), (.int fb)]) (rest := []) (lenOf pd_6 rfl) rfl (by show 2 * 0 + _ ≤ _; exact Nat.le_of_eq rfl) (hb hby at_198) (fun _ _ => ⟨rfl, rfl, (by decide : 8 + 0 ≤ _), (by decide : 38 + 0 ≤ _)⟩)
   dsimp only [Pt.U, Pt.locs, Pt.cells, Pt.slots] at X94 l94 y94 z94 st94 hQ94
   subst l94 y94 z94
   obtain ⟨rfl, N94q, Kq94, u94_0, u94_1⟩ := hQ94
   have N94 := Fr.app N73 N94q
   have V94_95 := V73_74.keep Kq94 (ninS ne83 (ninS ne88 nin0))
   have E94_96 := E73_75.keep Kq94
   have V94_97 := V73_76.keep Kq94 (ninS ne84 (ninS ne89 nin0))
   have E94_98 := E73_77.keep Kq94
   have E94_99 := E73_78.keep Kq94
   have E94_100 := E73_79.keep Kq94
   have F94_101 := F73_80.keep Kq94 (ninS ne86 (ninS ne91 nin0))
   have F94_102 := F73_81.keep Kq94 (ninS ne86 (ninS ne91 nin0))
   have F94_103 := u73_1.keep Kq94 (ninS ne85 (ninS ne90 nin0))
   have F94_104 := u73_2.keep Kq94 (ninS ne85 (ninS ne90 nin0))
   have F94_105 := u73_3.keep Kq94 (ninS ne85 (ninS ne90 nin0))
   have F94_106 := u73_4.keep Kq94 (ninS ne85 (ninS ne90 nin0))
   have E94_107 := u73_9.keep Kq94
   have E94_108 := u73_10.keep Kq94
   have K94 := K73.trans Kq94 (allS (Or.inr sz82) (allS (Or.inr sz87) all0))
   have O94 := O73.keep Kq94 (allS gn82 (allS gn87 all0))
   have CR94 : CHr Z EL0 s.vm h0 T73.vm T94.heap := CR73.trans (CHr.keep Kq94 (allS own_sf0 (allS own_sf0 all0)) CR73.1)
   have hk := Nat.le_trans hk Kq94.1
   have Vz109 : Arv Z T94.heap fa_73 kf_73 .int (2 : Int32) [(.int (pI d0 (0 : Int32) fb (0 : Int32))), (.int (pI d1 (0 : Int32) fb (0 : Int32)))] (.int (0 : Int32)) := by have q := u94_0; simp only [own_nc0_1, own_nf0_1] at q; exact q
   have Vz110 : Arv Z T94.heap ca_73 kc_73 .long (2 : Int32) [(.long (pJ d0 (0 : Int32) (1 : Int64) (0 : Int64))), (.long (pJ d1 (0 : Int32) (1 : Int64) (0 : Int64)))] (.long (0 : Int64)) := by have q := u94_1; simp only [own_nc0_1, own_nf0_1] at q; exact q
   have pre111 : ∀ tg, AT p e below T94 m 201 #[iv p0, iv p1, iv p2, iv p3, iv p4, iv p5, iv (1 : Int32), iv c0, iv c1, iv d0, iv d1, iv na, iv sm, iv p4, iv fb, iv (p3 &&& (1 : Int32)), iv cl, rv b13, rv b21, rv b36, un, un, un, un, un, un, un, un] [] tg → Steps p.tables e below S0 tg := fun tg kg => pre92 tg (by
    refine XS.icmpYes X73.here hx rfl (pc0 := 150) (pc' := 162) rfl (hb hby at_150) rfl (XT.ii_lt_t hc93) (by decide) (by decide) ?_
    refine XS.iload X73.here hx rfl (hb hby at_162) rfl ?_
    refine XS.iconst X73.here hx rfl (hb hby at_164) ?_
    show AT p e below T73 m 165 #[iv p0, iv p1, iv p2, iv p3, iv p4, iv p5, iv (1 : Int32), iv c0, iv c1, iv d0, iv d1, iv na, iv sm, iv p4, iv fb, iv (p3 &&& (1 : Int32)), iv cl, rv b13, rv b21, rv b36, un, un, un, un, un, un, un, un] [(.int (2 : Int32)), (.int na)] _
    refine XS.icmpYes X73.here hx rfl (pc0 := 165) (pc' := 177) rfl (hb hby at_165) rfl (XT.ii_lt_t ((own_up hc93 (by decide)) : na < (2 : Int32))) (by decide) (by decide) ?_
    refine XS.iload X73.here hx rfl (hb hby at_177) rfl ?_
    refine XS.iconst X73.here hx rfl (hb hby at_179) ?_
    show AT p e below T73 m 180 #[iv p0, iv p1, iv p2, iv p3, iv p4, iv p5, iv (1 : Int32), iv c0, iv c1, iv d0, iv d1, iv na, iv sm, iv p4, iv fb, iv (p3 &&& (1 : Int32)), iv cl, rv b13, rv b21, rv b36, un, un, un, un, un, un, un, un] [(.int (3 : Int32)), (.int na)] _
    refine XS.icmpYes X73.here hx rfl (pc0 := 180) (pc' := 192) rfl (hb hby at_180) rfl (XT.ii_lt_t ((own_up hc93 (by decide)) : na < (3 : Int32))) (by decide) (by decide) ?_
    refine XS.aload X73.here hx rfl (hb hby at_192) rfl rfl ?_
    refine XS.aload X73.here hx rfl (hb hby at_194) rfl rfl ?_
    refine XS.iload X73.here hx rfl (hb hby at_196) rfl ?_
    show AT p e below T73 m 198 #[iv p0, iv p1, iv p2, iv p3, iv p4, iv p5, iv (1 : Int32), iv c0, iv c1, iv d0, iv d1, iv na, iv sm, iv p4, iv fb, iv (p3 &&& (1 : Int32)), iv cl, rv b13, rv b21, rv b36, un, un, un, un, un, un, un, un] [(.int fb), (.ref b21), (.ref b36)] _
    refine st94.trans ?_
    exact kg)
   obtain ⟨rr, hrr⟩ : ∃ z, z = (p3 &&& (1 : Int32)) := ⟨_, rfl⟩
   have pre112 : ∀ tg, AT p e below T94 m 201 #[iv p0, iv p1, iv p2, iv p3, iv p4, iv p5, iv (1 : Int32), iv c0, iv c1, iv d0, iv d1, iv na, iv sm, iv p4, iv fb, iv rr, iv cl, rv b13, rv b21, rv b36, un, un, un, un, un, un, un, un] [] tg → Steps p.tables e below S0 tg := by rw [hrr]; exact pre111
   have hsrr : rr = (0 : Int32) ∨ rr = (1 : Int32) := by rw [hrr]; exact own_a1 p3
   rcases hsrr with rfl | rfl
   ·
    obtain ⟨cq113, kq113, q113a, q113b, q113c⟩ := isOf hZ rfl E94_99
    obtain ⟨_, _, ⟨T113, L113, k113, n113⟩, -, X113, ⟨Lc113, hQ113, l113, y113, z113⟩, st113⟩ := X94.virtualBack hx (y := y10) (z := y10) hown (mvT hZ (ow hw 72 rfl)) (mvT hZ (ow hw 73 rfl)) (notFace_of_selects (args := #[]) (mvT hZ (ow hw 75 rfl))) (mvT hZ (ow hw 75 rfl)) (mvT hZ (ow hw 74 rfl)) (by decide) (backOf (W := 0) (rm10_1_0 l Z ar hw [] b36 cl _ _ _ _ _ T94.heap n0 O94 E94_99 F94_103 E94_100 F94_102 F94_106 Vz110 hscl) hZ (ow hw 76 rfl) (ow hw 4 rfl) (by decide) (by decide)) q113a q113c (g := (mkF m 207 #[iv p0, iv p1, iv p2, iv p3, iv p4, iv p5, iv (1 : Int32), iv c0, iv c1, iv d0, iv d1, iv na, iv sm, iv p4, iv fb, iv (0 : Int32), iv cl, rv b13, rv b21, rv b36, un, un, un, un, un, un, un, un] [(.int cl), (.int (0 : Int32)), (.ref b36)])) rfl (by rw [hml]; rfl) (Steps.refl _) (argsL := [(.int (0 : Int32)), (.int cl)]) (rest := []) (lenOf pd_7 rfl) rfl (by show 2 * 0 + _ ≤ _; exact Nat.le_of_eq rfl) (hb hby at_207) (fun _ _ => ⟨rfl, rfl, (by decide : 8 + 0 ≤ _), (by decide : 38 + 0 ≤ _)⟩)
    dsimp only [Pt.U, Pt.locs, Pt.cells, Pt.slots] at X113 l113 y113 z113 st113 hQ113
    subst l113 y113 z113
    obtain ⟨rfl, N113q, e113⟩ := hQ113
    have N113 := Fr.app N94 N113q
    have hSp : Sp na sm c0 d0 cl (sJ1 cl (pJ d0 (0 : Int32) (1 : Int64) (0 : Int64))) := by rw [own_selJ1 hsd0 hscl, own_s0J1, hna]; exact own_Sp0
    have pre114 : ∀ tg, AT p e below T113 m 212 #[iv p0, iv p1, iv p2, iv p3, iv p4, iv p5, iv (1 : Int32), iv c0, iv c1, iv d0, iv d1, iv na, iv sm, iv p4, iv fb, iv (0 : Int32), iv cl, rv b13, rv b21, rv b36, jv (sJ1 cl (pJ d0 (0 : Int32) (1 : Int64) (0 : Int64))), se, un, un, un, un, un, un] [] tg → Steps p.tables e below S0 tg := fun tg kg => pre112 tg (by
     refine XS.aload X94.here hx rfl (hb hby at_201) rfl rfl ?_
     refine XS.iload X94.here hx rfl (hb hby at_203) rfl ?_
     refine XS.iload X94.here hx rfl (hb hby at_205) rfl ?_
     refine st113.trans ?_
     refine XS.lstore X113.here hx rfl (hb hby at_210) rfl (l' := #[iv p0, iv p1, iv p2, iv p3, iv p4, iv p5, iv (1 : Int32), iv c0, iv c1, iv d0, iv d1, iv na, iv sm, iv p4, iv fb, iv (0 : Int32), iv cl, rv b13, rv b21, rv b36, jv (sJ1 cl (pJ d0 (0 : Int32) (1 : Int64) (0 : Int64))), se, un, un, un, un, un, un]) rfl ?_
     exact kg)
    exact tail_r0 _ _ _ _ _ (own_mono X113 (by decide) (by decide)) e113 N113 K94 O94 hS hk hZ hown CR94 _ _ _ _ _ _ _ _ _ _ _ _ _ _ hSp pre114
   ·
    obtain ⟨cq115, kq115, q115a, q115b, q115c⟩ := isOf hZ rfl E94_99
    obtain ⟨_, _, ⟨T115, L115, k115, n115⟩, -, X115, ⟨Lc115, hQ115, l115, y115, z115⟩, st115⟩ := X94.virtualBack hx (y := y10) (z := y10) hown (mvT hZ (ow hw 72 rfl)) (mvT hZ (ow hw 73 rfl)) (notFace_of_selects (args := #[]) (mvT hZ (ow hw 75 rfl))) (mvT hZ (ow hw 75 rfl)) (mvT hZ (ow hw 74 rfl)) (by decide) (backOf (W := 0) (rm10_1_1 l Z ar hw [] b36 cl _ _ _ _ _ T94.heap n0 O94 E94_99 F94_103 E94_100 F94_102 F94_106 Vz110 hscl) hZ (ow hw 76 rfl) (ow hw 4 rfl) (by decide) (by decide)) q115a q115c (g := (mkF m 207 #[iv p0, iv p1, iv p2, iv p3, iv p4, iv p5, iv (1 : Int32), iv c0, iv c1, iv d0, iv d1, iv na, iv sm, iv p4, iv fb, iv (1 : Int32), iv cl, rv b13, rv b21, rv b36, un, un, un, un, un, un, un, un] [(.int cl), (.int (1 : Int32)), (.ref b36)])) rfl (by rw [hml]; rfl) (Steps.refl _) (argsL := [(.int (1 : Int32)), (.int cl)]) (rest := []) (lenOf pd_7 rfl) rfl (by show 2 * 0 + _ ≤ _; exact Nat.le_of_eq rfl) (hb hby at_207) (fun _ _ => ⟨rfl, rfl, (by decide : 8 + 0 ≤ _), (by decide : 38 + 0 ≤ _)⟩)
    dsimp only [Pt.U, Pt.locs, Pt.cells, Pt.slots] at X115 l115 y115 z115 st115 hQ115
    subst l115 y115 z115
    obtain ⟨rfl, N115q, e115⟩ := hQ115
    have N115 := Fr.app N94 N115q
    have hSp : Sp na sm c1 d1 cl (sJ1 cl (pJ d1 (0 : Int32) (1 : Int64) (0 : Int64))) := by rw [own_selJ1 hsd1 hscl, own_s0J1, hna]; exact own_Sp0
    have pre116 : ∀ tg, AT p e below T115 m 212 #[iv p0, iv p1, iv p2, iv p3, iv p4, iv p5, iv (1 : Int32), iv c0, iv c1, iv d0, iv d1, iv na, iv sm, iv p4, iv fb, iv (1 : Int32), iv cl, rv b13, rv b21, rv b36, jv (sJ1 cl (pJ d1 (0 : Int32) (1 : Int64) (0 : Int64))), se, un, un, un, un, un, un] [] tg → Steps p.tables e below S0 tg := fun tg kg => pre112 tg (by
     refine XS.aload X94.here hx rfl (hb hby at_201) rfl rfl ?_
     refine XS.iload X94.here hx rfl (hb hby at_203) rfl ?_
     refine XS.iload X94.here hx rfl (hb hby at_205) rfl ?_
     refine st115.trans ?_
     refine XS.lstore X115.here hx rfl (hb hby at_210) rfl (l' := #[iv p0, iv p1, iv p2, iv p3, iv p4, iv p5, iv (1 : Int32), iv c0, iv c1, iv d0, iv d1, iv na, iv sm, iv p4, iv fb, iv (1 : Int32), iv cl, rv b13, rv b21, rv b36, jv (sJ1 cl (pJ d1 (0 : Int32) (1 : Int64) (0 : Int64))), se, un, un, un, un, un, un]) rfl ?_
     exact kg)
    exact tail_r1 _ _ _ _ _ (own_mono X115 (by decide) (by decide)) e115 N115 K94 O94 hS hk hZ hown CR94 _ _ _ _ _ _ _ _ _ _ _ _ _ _ hSp pre116
  ·
   obtain ⟨cq117, kq117, q117a, q117b, q117c⟩ := isOf hZ rfl E73_78
   obtain ⟨_, _, ⟨T117, L117, k117, n117⟩, -, X117, ⟨Lc117, hQ117, l117, y117, z117⟩, st117⟩ := X73.virtualBack hx (y := y8) (z := y8) hown (mvT hZ (ow hw 62 rfl)) (mvT hZ (ow hw 63 rfl)) (notFace_of_selects (args := #[]) (mvT hZ (ow hw 65 rfl))) (mvT hZ (ow hw 65 rfl)) (mvT hZ (ow hw 64 rfl)) (by decide) (backOf (W := 0) (rm8_1 l Z ar hw [] b36 b13 p4 _ _ _ _ _ _ _ _ _ _ _ _ T73.heap n0 O73 HW E73_78 u73_1 E73_79 F73_81 u73_3 u73_4 u73_2 E73_75 V73_74 u73_9 u73_10 u73_5 u73_6 gn82 gn87 ne83 hsc0 hsc1) hZ (ow hw 66 rfl) (ow hw 4 rfl) (by decide) (by decide)) q117a q117c (g := (mkF m 159 #[iv p0, iv p1, iv p2, iv p3, iv p4, iv p5, iv (1 : Int32), iv c0, iv c1, iv d0, iv d1, iv na, iv sm, iv p4, iv fb, iv (p3 &&& (1 : Int32)), iv cl, rv b13, rv b21, rv b36, un, un, un, un, un, un, un, un] [(.int p4), (.ref b13), (.ref b36)])) rfl (by rw [hml]; rfl) (Steps.refl _) (argsL := [(.ref b13), (.int p4)]) (rest := []) (lenOf pd_6 rfl) rfl (by show 2 * 0 + _ ≤ _; exact Nat.le_of_eq rfl) (hb hby at_159) (fun _ _ => ⟨rfl, rfl, (by decide : 8 + 0 ≤ _), (by decide : 38 + 0 ≤ _)⟩)
   dsimp only [Pt.U, Pt.locs, Pt.cells, Pt.slots] at X117 l117 y117 z117 st117 hQ117
   subst l117 y117 z117
   obtain ⟨rfl, N117q, Kq117, u117_0, u117_1⟩ := hQ117
   have N117 := Fr.app N73 N117q
   have V117_118 := V73_74.keep Kq117 (ninS ne83 (ninS ne88 nin0))
   have E117_119 := E73_75.keep Kq117
   have V117_120 := V73_76.keep Kq117 (ninS ne84 (ninS ne89 nin0))
   have E117_121 := E73_77.keep Kq117
   have E117_122 := E73_78.keep Kq117
   have E117_123 := E73_79.keep Kq117
   have F117_124 := F73_80.keep Kq117 (ninS ne86 (ninS ne91 nin0))
   have F117_125 := F73_81.keep Kq117 (ninS ne86 (ninS ne91 nin0))
   have F117_126 := u73_1.keep Kq117 (ninS ne85 (ninS ne90 nin0))
   have F117_127 := u73_2.keep Kq117 (ninS ne85 (ninS ne90 nin0))
   have F117_128 := u73_3.keep Kq117 (ninS ne85 (ninS ne90 nin0))
   have F117_129 := u73_4.keep Kq117 (ninS ne85 (ninS ne90 nin0))
   have E117_130 := u73_9.keep Kq117
   have E117_131 := u73_10.keep Kq117
   have K117 := K73.trans Kq117 (allS (Or.inr sz82) (allS (Or.inr sz87) all0))
   have O117 := O73.keep Kq117 (allS gn82 (allS gn87 all0))
   have CR117 : CHr Z EL0 s.vm h0 T73.vm T117.heap := CR73.trans (CHr.keep Kq117 (allS own_sf0 (allS own_sf0 all0)) CR73.1)
   have hk := Nat.le_trans hk Kq117.1
   have Vz132 : Arv Z T117.heap fa_73 kf_73 .int (2 : Int32) [(.int (pI c0 (0 : Int32) p4 (0 : Int32))), (.int (pI c1 (0 : Int32) p4 (0 : Int32)))] (.int (0 : Int32)) := by have q := u117_0; simp only [own_nc0_1, own_nf0_1] at q; exact q
   have Vz133 : Arv Z T117.heap ca_73 kc_73 .long (2 : Int32) [(.long (pJ c0 (0 : Int32) (1 : Int64) (0 : Int64))), (.long (pJ c1 (0 : Int32) (1 : Int64) (0 : Int64)))] (.long (0 : Int64)) := by have q := u117_1; simp only [own_nc0_1, own_nf0_1] at q; exact q
   have pre134 : ∀ tg, AT p e below T117 m 165 #[iv p0, iv p1, iv p2, iv p3, iv p4, iv p5, iv (1 : Int32), iv c0, iv c1, iv d0, iv d1, iv na, iv sm, iv p4, iv fb, iv (p3 &&& (1 : Int32)), iv cl, rv b13, rv b21, rv b36, un, un, un, un, un, un, un, un] [(.int (2 : Int32)), (.int na)] tg → Steps p.tables e below S0 tg := fun tg kg => pre92 tg (by
    refine XS.icmpNo X73.here hx rfl (hb hby at_150) rfl (XT.ii_lt_f hc93) ?_
    refine XS.aload X73.here hx rfl (hb hby at_153) rfl rfl ?_
    refine XS.aload X73.here hx rfl (hb hby at_155) rfl rfl ?_
    refine XS.iload X73.here hx rfl (hb hby at_157) rfl ?_
    refine st117.trans ?_
    refine XS.iload X117.here hx rfl (hb hby at_162) rfl ?_
    refine XS.iconst X117.here hx rfl (hb hby at_164) ?_
    exact kg)
   rcases Decidable.em (na < (2 : Int32)) with hc135 | hc135
   ·
    have hna : na = (1 : Int32) := own_na1 hsna hc93 hc135
    have pre136 : ∀ tg, AT p e below T117 m 192 #[iv p0, iv p1, iv p2, iv p3, iv p4, iv p5, iv (1 : Int32), iv c0, iv c1, iv d0, iv d1, iv na, iv sm, iv p4, iv fb, iv (p3 &&& (1 : Int32)), iv cl, rv b13, rv b21, rv b36, un, un, un, un, un, un, un, un] [] tg → Steps p.tables e below S0 tg := fun tg kg => pre134 tg (by
     refine XS.icmpYes X117.here hx rfl (pc0 := 165) (pc' := 177) rfl (hb hby at_165) rfl (XT.ii_lt_t hc135) (by decide) (by decide) ?_
     refine XS.iload X117.here hx rfl (hb hby at_177) rfl ?_
     show AT p e below T117 m 179 #[iv p0, iv p1, iv p2, iv p3, iv p4, iv p5, iv (1 : Int32), iv c0, iv c1, iv d0, iv d1, iv na, iv sm, iv p4, iv fb, iv (p3 &&& (1 : Int32)), iv cl, rv b13, rv b21, rv b36, un, un, un, un, un, un, un, un] [(.int na)] _
     refine XS.iconst X117.here hx rfl (hb hby at_179) ?_
     show AT p e below T117 m 180 #[iv p0, iv p1, iv p2, iv p3, iv p4, iv p5, iv (1 : Int32), iv c0, iv c1, iv d0, iv d1, iv na, iv sm, iv p4, iv fb, iv (p3 &&& (1 : Int32)), iv cl, rv b13, rv b21, rv b36, un, un, un, un, un, un, un, un] [(.int (3 : Int32)), (.int na)] _
     refine XS.icmpYes X117.here hx rfl (pc0 := 180) (pc' := 192) rfl (hb hby at_180) rfl (XT.ii_lt_t ((own_up hc135 (by decide)) : na < (3 : Int32))) (by decide) (by decide) ?_
     exact kg)
    exact tail_m1 _ _ _ _ _ (own_mono X117 (by decide) (by decide)) rfl N117 K117 O117 hS hk hZ hown CR117 _ _ _ _ _ _ _ _ _ _ _ _ _ _ _ _ _ _ E117_121 V117_120 E117_122 F117_126 F117_128 F117_129 F117_127 E117_123 F117_125 E117_130 E117_131 Vz132 Vz133 gn82 gn87 sz82 sz87 ne84 hsc0 hsc1 hsd0 hsd1 hscl hfbs (by rw [hna] <;> decide) (by rw [hna] <;> decide) pre136
   ·
    obtain ⟨cq137, kq137, q137a, q137b, q137c⟩ := isOf hZ rfl E117_122
    obtain ⟨_, _, ⟨T137, L137, k137, n137⟩, -, X137, ⟨Lc137, hQ137, l137, y137, z137⟩, st137⟩ := X117.virtualBack hx (y := y8) (z := y8) hown (mvT hZ (ow hw 62 rfl)) (mvT hZ (ow hw 63 rfl)) (notFace_of_selects (args := #[]) (mvT hZ (ow hw 65 rfl))) (mvT hZ (ow hw 65 rfl)) (mvT hZ (ow hw 64 rfl)) (by decide) (backOf (W := 0) (rm8_1 l Z ar hw [] b36 b13 p4 _ _ _ _ _ _ _ _ _ _ _ _ T117.heap n0 O117 HW E117_122 F117_126 E117_123 F117_125 F117_128 F117_129 F117_127 E117_119 V117_118 E117_130 E117_131 Vz132 Vz133 gn82 gn87 ne83 hsc0 hsc1) hZ (ow hw 66 rfl) (ow hw 4 rfl) (by decide) (by decide)) q137a q137c (g := (mkF m 174 #[iv p0, iv p1, iv p2, iv p3, iv p4, iv p5, iv (1 : Int32), iv c0, iv c1, iv d0, iv d1, iv na, iv sm, iv p4, iv fb, iv (p3 &&& (1 : Int32)), iv cl, rv b13, rv b21, rv b36, un, un, un, un, un, un, un, un] [(.int p4), (.ref b13), (.ref b36)])) rfl (by rw [hml]; rfl) (Steps.refl _) (argsL := [(.ref b13), (.int p4)]) (rest := []) (lenOf pd_6 rfl) rfl (by show 2 * 0 + _ ≤ _; exact Nat.le_of_eq rfl) (hb hby at_174) (fun _ _ => ⟨rfl, rfl, (by decide : 8 + 0 ≤ _), (by decide : 38 + 0 ≤ _)⟩)
    dsimp only [Pt.U, Pt.locs, Pt.cells, Pt.slots] at X137 l137 y137 z137 st137 hQ137
    subst l137 y137 z137
    obtain ⟨rfl, N137q, Kq137, u137_0, u137_1⟩ := hQ137
    have N137 := Fr.app N117 N137q
    have V137_138 := V117_118.keep Kq137 (ninS ne83 (ninS ne88 nin0))
    have E137_139 := E117_119.keep Kq137
    have V137_140 := V117_120.keep Kq137 (ninS ne84 (ninS ne89 nin0))
    have E137_141 := E117_121.keep Kq137
    have E137_142 := E117_122.keep Kq137
    have E137_143 := E117_123.keep Kq137
    have F137_144 := F117_124.keep Kq137 (ninS ne86 (ninS ne91 nin0))
    have F137_145 := F117_125.keep Kq137 (ninS ne86 (ninS ne91 nin0))
    have F137_146 := F117_126.keep Kq137 (ninS ne85 (ninS ne90 nin0))
    have F137_147 := F117_127.keep Kq137 (ninS ne85 (ninS ne90 nin0))
    have F137_148 := F117_128.keep Kq137 (ninS ne85 (ninS ne90 nin0))
    have F137_149 := F117_129.keep Kq137 (ninS ne85 (ninS ne90 nin0))
    have E137_150 := E117_130.keep Kq137
    have E137_151 := E117_131.keep Kq137
    have K137 := K117.trans Kq137 (allS (Or.inr sz82) (allS (Or.inr sz87) all0))
    have O137 := O117.keep Kq137 (allS gn82 (allS gn87 all0))
    have CR137 : CHr Z EL0 s.vm h0 T73.vm T137.heap := CR117.trans (CHr.keep Kq137 (allS own_sf0 (allS own_sf0 all0)) CR117.1)
    have hk := Nat.le_trans hk Kq137.1
    have Vz152 : Arv Z T137.heap fa_73 kf_73 .int (2 : Int32) [(.int (pI c0 (0 : Int32) p4 (0 : Int32))), (.int (pI c1 (0 : Int32) p4 (0 : Int32)))] (.int (0 : Int32)) := by have q := u137_0; rw [own_spJ1 hsc0, own_spI1 hsc0, own_spJ1 hsc1, own_spI1 hsc1] at q; simp only [own_ncf, own_nff, own_ppJ, own_ppI] at q; exact q
    have Vz153 : Arv Z T137.heap ca_73 kc_73 .long (2 : Int32) [(.long (pJ c0 (0 : Int32) (2 : Int64) (0 : Int64))), (.long (pJ c1 (0 : Int32) (2 : Int64) (0 : Int64)))] (.long (0 : Int64)) := by have q := u137_1; rw [own_spJ1 hsc0, own_spI1 hsc0, own_spJ1 hsc1, own_spI1 hsc1] at q; simp only [own_ncf, own_nff, own_ppJ, own_ppI, show (1 : Int64) + (1 : Int64) = (2 : Int64) from by decide] at q; exact q
    have pre154 : ∀ tg, AT p e below T137 m 180 #[iv p0, iv p1, iv p2, iv p3, iv p4, iv p5, iv (1 : Int32), iv c0, iv c1, iv d0, iv d1, iv na, iv sm, iv p4, iv fb, iv (p3 &&& (1 : Int32)), iv cl, rv b13, rv b21, rv b36, un, un, un, un, un, un, un, un] [(.int (3 : Int32)), (.int na)] tg → Steps p.tables e below S0 tg := fun tg kg => pre134 tg (by
     refine XS.icmpNo X117.here hx rfl (hb hby at_165) rfl (XT.ii_lt_f hc135) ?_
     refine XS.aload X117.here hx rfl (hb hby at_168) rfl rfl ?_
     show AT p e below T117 m 170 #[iv p0, iv p1, iv p2, iv p3, iv p4, iv p5, iv (1 : Int32), iv c0, iv c1, iv d0, iv d1, iv na, iv sm, iv p4, iv fb, iv (p3 &&& (1 : Int32)), iv cl, rv b13, rv b21, rv b36, un, un, un, un, un, un, un, un] [(.ref b36)] _
     refine XS.aload X117.here hx rfl (hb hby at_170) rfl rfl ?_
     refine XS.iload X117.here hx rfl (hb hby at_172) rfl ?_
     refine st137.trans ?_
     refine XS.iload X137.here hx rfl (hb hby at_177) rfl ?_
     refine XS.iconst X137.here hx rfl (hb hby at_179) ?_
     exact kg)
    rcases Decidable.em (na < (3 : Int32)) with hc155 | hc155
    ·
     have hna : na = (2 : Int32) := own_na2 hsna hc135 hc155
     have pre156 : ∀ tg, AT p e below T137 m 192 #[iv p0, iv p1, iv p2, iv p3, iv p4, iv p5, iv (1 : Int32), iv c0, iv c1, iv d0, iv d1, iv na, iv sm, iv p4, iv fb, iv (p3 &&& (1 : Int32)), iv cl, rv b13, rv b21, rv b36, un, un, un, un, un, un, un, un] [] tg → Steps p.tables e below S0 tg := fun tg kg => pre154 tg (by
      refine XS.icmpYes X137.here hx rfl (pc0 := 180) (pc' := 192) rfl (hb hby at_180) rfl (XT.ii_lt_t hc155) (by decide) (by decide) ?_
      exact kg)
     exact tail_m1 _ _ _ _ _ (own_mono X137 (by decide) (by decide)) rfl N137 K137 O137 hS hk hZ hown CR137 _ _ _ _ _ _ _ _ _ _ _ _ _ _ _ _ _ _ E137_141 V137_140 E137_142 F137_146 F137_148 F137_149 F137_147 E137_143 F137_145 E137_150 E137_151 Vz152 Vz153 gn82 gn87 sz82 sz87 ne84 hsc0 hsc1 hsd0 hsd1 hscl hfbs (by rw [hna] <;> decide) (by rw [hna] <;> decide) pre156
    ·
     obtain ⟨cq157, kq157, q157a, q157b, q157c⟩ := isOf hZ rfl E137_142
     obtain ⟨_, _, ⟨T157, L157, k157, n157⟩, -, X157, ⟨Lc157, hQ157, l157, y157, z157⟩, st157⟩ := X137.virtualBack hx (y := y8) (z := y8) hown (mvT hZ (ow hw 62 rfl)) (mvT hZ (ow hw 63 rfl)) (notFace_of_selects (args := #[]) (mvT hZ (ow hw 65 rfl))) (mvT hZ (ow hw 65 rfl)) (mvT hZ (ow hw 64 rfl)) (by decide) (backOf (W := 0) (rm8_1 l Z ar hw [] b36 b13 p4 _ _ _ _ _ _ _ _ _ _ _ _ T137.heap n0 O137 HW E137_142 F137_146 E137_143 F137_145 F137_148 F137_149 F137_147 E137_139 V137_138 E137_150 E137_151 Vz152 Vz153 gn82 gn87 ne83 hsc0 hsc1) hZ (ow hw 66 rfl) (ow hw 4 rfl) (by decide) (by decide)) q157a q157c (g := (mkF m 189 #[iv p0, iv p1, iv p2, iv p3, iv p4, iv p5, iv (1 : Int32), iv c0, iv c1, iv d0, iv d1, iv na, iv sm, iv p4, iv fb, iv (p3 &&& (1 : Int32)), iv cl, rv b13, rv b21, rv b36, un, un, un, un, un, un, un, un] [(.int p4), (.ref b13), (.ref b36)])) rfl (by rw [hml]; rfl) (Steps.refl _) (argsL := [(.ref b13), (.int p4)]) (rest := []) (lenOf pd_6 rfl) rfl (by show 2 * 0 + _ ≤ _; exact Nat.le_of_eq rfl) (hb hby at_189) (fun _ _ => ⟨rfl, rfl, (by decide : 8 + 0 ≤ _), (by decide : 38 + 0 ≤ _)⟩)
     dsimp only [Pt.U, Pt.locs, Pt.cells, Pt.slots] at X157 l157 y157 z157 st157 hQ157
     subst l157 y157 z157
     obtain ⟨rfl, N157q, Kq157, u157_0, u157_1⟩ := hQ157
     have N157 := Fr.app N137 N157q
     have V157_158 := V137_138.keep Kq157 (ninS ne83 (ninS ne88 nin0))
     have E157_159 := E137_139.keep Kq157
     have V157_160 := V137_140.keep Kq157 (ninS ne84 (ninS ne89 nin0))
     have E157_161 := E137_141.keep Kq157
     have E157_162 := E137_142.keep Kq157
     have E157_163 := E137_143.keep Kq157
     have F157_164 := F137_144.keep Kq157 (ninS ne86 (ninS ne91 nin0))
     have F157_165 := F137_145.keep Kq157 (ninS ne86 (ninS ne91 nin0))
     have F157_166 := F137_146.keep Kq157 (ninS ne85 (ninS ne90 nin0))
     have F157_167 := F137_147.keep Kq157 (ninS ne85 (ninS ne90 nin0))
     have F157_168 := F137_148.keep Kq157 (ninS ne85 (ninS ne90 nin0))
     have F157_169 := F137_149.keep Kq157 (ninS ne85 (ninS ne90 nin0))
     have E157_170 := E137_150.keep Kq157
     have E157_171 := E137_151.keep Kq157
     have K157 := K137.trans Kq157 (allS (Or.inr sz82) (allS (Or.inr sz87) all0))
     have O157 := O137.keep Kq157 (allS gn82 (allS gn87 all0))
     have CR157 : CHr Z EL0 s.vm h0 T73.vm T157.heap := CR137.trans (CHr.keep Kq157 (allS own_sf0 (allS own_sf0 all0)) CR137.1)
     have hk := Nat.le_trans hk Kq157.1
     have Vz172 : Arv Z T157.heap fa_73 kf_73 .int (2 : Int32) [(.int (pI c0 (0 : Int32) p4 (0 : Int32))), (.int (pI c1 (0 : Int32) p4 (0 : Int32)))] (.int (0 : Int32)) := by have q := u157_0; rw [own_spJ1 hsc0, own_spI1 hsc0, own_spJ1 hsc1, own_spI1 hsc1] at q; simp only [own_ncf, own_nff, own_ppJ, own_ppI] at q; exact q
     have Vz173 : Arv Z T157.heap ca_73 kc_73 .long (2 : Int32) [(.long (pJ c0 (0 : Int32) (3 : Int64) (0 : Int64))), (.long (pJ c1 (0 : Int32) (3 : Int64) (0 : Int64)))] (.long (0 : Int64)) := by have q := u157_1; rw [own_spJ1 hsc0, own_spI1 hsc0, own_spJ1 hsc1, own_spI1 hsc1] at q; simp only [own_ncf, own_nff, own_ppJ, own_ppI, show (2 : Int64) + (1 : Int64) = (3 : Int64) from by decide] at q; exact q
     have hna : na = (3 : Int32) := own_na3 hsna hc155
     have pre174 : ∀ tg, AT p e below T157 m 192 #[iv p0, iv p1, iv p2, iv p3, iv p4, iv p5, iv (1 : Int32), iv c0, iv c1, iv d0, iv d1, iv na, iv sm, iv p4, iv fb, iv (p3 &&& (1 : Int32)), iv cl, rv b13, rv b21, rv b36, un, un, un, un, un, un, un, un] [] tg → Steps p.tables e below S0 tg := fun tg kg => pre154 tg (by
      refine XS.icmpNo X137.here hx rfl (hb hby at_180) rfl (XT.ii_lt_f hc155) ?_
      refine XS.aload X137.here hx rfl (hb hby at_183) rfl rfl ?_
      refine XS.aload X137.here hx rfl (hb hby at_185) rfl rfl ?_
      refine XS.iload X137.here hx rfl (hb hby at_187) rfl ?_
      refine st157.trans ?_
      exact kg)
     exact tail_m1 _ _ _ _ _ (own_mono X157 (by decide) (by decide)) rfl N157 K157 O157 hS hk hZ hown CR157 _ _ _ _ _ _ _ _ _ _ _ _ _ _ _ _ _ _ E157_161 V157_160 E157_162 F157_166 F157_168 F157_169 F157_167 E157_163 F157_165 E157_170 E157_171 Vz172 Vz173 gn82 gn87 sz82 sz87 ne84 hsc0 hsc1 hsd0 hsd1 hscl hfbs (by rw [hna] <;> decide) (by rw [hna] <;> decide) pre174
 ·
  have pre175 : ∀ tg, AT p e below s₁ m 49 #[iv p0, iv p1, iv p2, iv p3, iv p4, iv p5, iv (2 : Int32), iv ((p1 &&& (2147483647 : Int32)) % (2 : Int32)), iv (((p1.toUInt32 >>> ((16 : Int32) &&& 31).toUInt32).toInt32) % (2 : Int32)), iv ((p2 &&& (2147483647 : Int32)) % (2 : Int32)), iv (((p2.toUInt32 >>> ((16 : Int32) &&& 31).toUInt32).toInt32) % (2 : Int32)), iv (p5 &&& (3 : Int32)), un, un, un, un, un, un, un, un, un, un, un, un, un, un, un, un] [] tg → Steps p.tables e below S0 tg := fun tg kg => pre2 tg (by
   refine XS.iloadN X0.here hx rfl (hb hby at_7) rfl ?_
   refine X0.ldcInt hx hown (mvT hZ (ow hw 0 rfl)) (g := (mkF m 8 #[iv p0, iv p1, iv p2, iv p3, iv p4, iv p5, iv (2 : Int32), un, un, un, un, un, un, un, un, un, un, un, un, un, un, un, un, un, un, un, un, un] [(.int p1)])) rfl (hb hby at_8) _ ?_
   refine XS.iand X0.here hx rfl (hb hby at_10) rfl ?_
   refine XS.iload X0.here hx rfl (hb hby at_11) rfl ?_
   refine iremM X0 hx rfl (hb hby at_13) rfl (by decide) ?_
   refine XS.istore X0.here hx rfl (hb hby at_14) rfl (l' := #[iv p0, iv p1, iv p2, iv p3, iv p4, iv p5, iv (2 : Int32), iv ((p1 &&& (2147483647 : Int32)) % (2 : Int32)), un, un, un, un, un, un, un, un, un, un, un, un, un, un, un, un, un, un, un, un]) rfl ?_
   refine XS.iloadN X0.here hx rfl (hb hby at_16) rfl ?_
   refine XS.bipush X0.here hx rfl (hb hby at_17) ?_
   refine XS.iushr X0.here hx rfl (hb hby at_19) rfl ?_
   refine XS.iload X0.here hx rfl (hb hby at_20) rfl ?_
   refine iremM X0 hx rfl (hb hby at_22) rfl (by decide) ?_
   refine XS.istore X0.here hx rfl (hb hby at_23) rfl (l' := #[iv p0, iv p1, iv p2, iv p3, iv p4, iv p5, iv (2 : Int32), iv ((p1 &&& (2147483647 : Int32)) % (2 : Int32)), iv (((p1.toUInt32 >>> ((16 : Int32) &&& 31).toUInt32).toInt32) % (2 : Int32)), un, un, un, un, un, un, un, un, un, un, un, un, un, un, un, un, un, un, un]) rfl ?_
   refine XS.iloadN X0.here hx rfl (hb hby at_25) rfl ?_
   refine X0.ldcInt hx hown (mvT hZ (ow hw 0 rfl)) (g := (mkF m 26 #[iv p0, iv p1, iv p2, iv p3, iv p4, iv p5, iv (2 : Int32), iv ((p1 &&& (2147483647 : Int32)) % (2 : Int32)), iv (((p1.toUInt32 >>> ((16 : Int32) &&& 31).toUInt32).toInt32) % (2 : Int32)), un, un, un, un, un, un, un, un, un, un, un, un, un, un, un, un, un, un, un] [(.int p2)])) rfl (hb hby at_26) _ ?_
   refine XS.iand X0.here hx rfl (hb hby at_28) rfl ?_
   refine XS.iload X0.here hx rfl (hb hby at_29) rfl ?_
   refine iremM X0 hx rfl (hb hby at_31) rfl (by decide) ?_
   refine XS.istore X0.here hx rfl (hb hby at_32) rfl (l' := #[iv p0, iv p1, iv p2, iv p3, iv p4, iv p5, iv (2 : Int32), iv ((p1 &&& (2147483647 : Int32)) % (2 : Int32)), iv (((p1.toUInt32 >>> ((16 : Int32) &&& 31).toUInt32).toInt32) % (2 : Int32)), iv ((p2 &&& (2147483647 : Int32)) % (2 : Int32)), un, un, un, un, un, un, un, un, un, un, un, un, un, un, un, un, un, un]) rfl ?_
   refine XS.iloadN X0.here hx rfl (hb hby at_34) rfl ?_
   refine XS.bipush X0.here hx rfl (hb hby at_35) ?_
   refine XS.iushr X0.here hx rfl (hb hby at_37) rfl ?_
   refine XS.iload X0.here hx rfl (hb hby at_38) rfl ?_
   refine iremM X0 hx rfl (hb hby at_40) rfl (by decide) ?_
   refine XS.istore X0.here hx rfl (hb hby at_41) rfl (l' := #[iv p0, iv p1, iv p2, iv p3, iv p4, iv p5, iv (2 : Int32), iv ((p1 &&& (2147483647 : Int32)) % (2 : Int32)), iv (((p1.toUInt32 >>> ((16 : Int32) &&& 31).toUInt32).toInt32) % (2 : Int32)), iv ((p2 &&& (2147483647 : Int32)) % (2 : Int32)), iv (((p2.toUInt32 >>> ((16 : Int32) &&& 31).toUInt32).toInt32) % (2 : Int32)), un, un, un, un, un, un, un, un, un, un, un, un, un, un, un, un, un]) rfl ?_
   refine XS.iload X0.here hx rfl (hb hby at_43) rfl ?_
   refine XS.iconst X0.here hx rfl (hb hby at_45) ?_
   refine XS.iand X0.here hx rfl (hb hby at_46) rfl ?_
   refine XS.istore X0.here hx rfl (hb hby at_47) rfl (l' := #[iv p0, iv p1, iv p2, iv p3, iv p4, iv p5, iv (2 : Int32), iv ((p1 &&& (2147483647 : Int32)) % (2 : Int32)), iv (((p1.toUInt32 >>> ((16 : Int32) &&& 31).toUInt32).toInt32) % (2 : Int32)), iv ((p2 &&& (2147483647 : Int32)) % (2 : Int32)), iv (((p2.toUInt32 >>> ((16 : Int32) &&& 31).toUInt32).toInt32) % (2 : Int32)), iv (p5 &&& (3 : Int32)), un, un, un, un, un, un, un, un, un, un, un, un, un, un, un, un]) rfl ?_
   exact kg)
  obtain ⟨c0, hc0⟩ : ∃ z, z = ((p1 &&& (2147483647 : Int32)) % (2 : Int32)) := ⟨_, rfl⟩
  obtain ⟨c1, hc1⟩ : ∃ z, z = (((p1.toUInt32 >>> ((16 : Int32) &&& 31).toUInt32).toInt32) % (2 : Int32)) := ⟨_, rfl⟩
  obtain ⟨d0, hd0⟩ : ∃ z, z = ((p2 &&& (2147483647 : Int32)) % (2 : Int32)) := ⟨_, rfl⟩
  obtain ⟨d1, hd1⟩ : ∃ z, z = (((p2.toUInt32 >>> ((16 : Int32) &&& 31).toUInt32).toInt32) % (2 : Int32)) := ⟨_, rfl⟩
  obtain ⟨na, hna⟩ : ∃ z, z = (p5 &&& (3 : Int32)) := ⟨_, rfl⟩
  have pre176 : ∀ tg, AT p e below s₁ m 49 #[iv p0, iv p1, iv p2, iv p3, iv p4, iv p5, iv (2 : Int32), iv c0, iv c1, iv d0, iv d1, iv na, un, un, un, un, un, un, un, un, un, un, un, un, un, un, un, un] [] tg → Steps p.tables e below S0 tg := by rw [hc0, hc1, hd0, hd1, hna]; exact pre175
  have hsc0 : c0 = (0 : Int32) ∨ c0 = (1 : Int32) := by rw [hc0]; exact own_m2 p1
  have hsc1 : c1 = (0 : Int32) ∨ c1 = (1 : Int32) := by rw [hc1]; exact own_u16_2 p1
  have hsd0 : d0 = (0 : Int32) ∨ d0 = (1 : Int32) := by rw [hd0]; exact own_m2 p2
  have hsd1 : d1 = (0 : Int32) ∨ d1 = (1 : Int32) := by rw [hd1]; exact own_u16_2 p2
  have hsna : na = (0 : Int32) ∨ na = (1 : Int32) ∨ na = (2 : Int32) ∨ na = (3 : Int32) := by rw [hna]; exact own_n3 p5
  have pre177 : ∀ tg, AT p e below s₁ m 55 #[iv p0, iv p1, iv p2, iv p3, iv p4, iv p5, iv (2 : Int32), iv c0, iv c1, iv d0, iv d1, iv na, un, un, un, un, un, un, un, un, un, un, un, un, un, un, un, un] [(.int (((p5.toUInt32 >>> ((2 : Int32) &&& 31).toUInt32).toInt32) &&& (1 : Int32)))] tg → Steps p.tables e below S0 tg := fun tg kg => pre176 tg (by
   refine XS.iload X0.here hx rfl (hb hby at_49) rfl ?_
   refine XS.iconst X0.here hx rfl (hb hby at_51) ?_
   refine XS.iushr X0.here hx rfl (hb hby at_52) rfl ?_
   refine XS.iconst X0.here hx rfl (hb hby at_53) ?_
   refine XS.iand X0.here hx rfl (hb hby at_54) rfl ?_
   exact kg)
  have pre178 : ∀ tg, AT p e below s₁ m 63 #[iv p0, iv p1, iv p2, iv p3, iv p4, iv p5, iv (2 : Int32), iv c0, iv c1, iv d0, iv d1, iv na, un, un, un, un, un, un, un, un, un, un, un, un, un, un, un, un] [(.int (if (((p5.toUInt32 >>> ((2 : Int32) &&& 31).toUInt32).toInt32) &&& (1 : Int32)) = (0 : Int32) then (1 : Int32) else (0 : Int32)))] tg → Steps p.tables e below S0 tg := by
   intro tg kg
   rcases Decidable.em ((((p5.toUInt32 >>> ((2 : Int32) &&& 31).toUInt32).toInt32) &&& (1 : Int32)) = (0 : Int32)) with hd | hd
   ·
    simp only [if_pos hd] at kg
    exact pre177 tg (by
     refine XS.ifNo X0.here hx rfl (hb hby at_55) rfl (XT.i0_ne_f hd) ?_
     refine XS.iconst X0.here hx rfl (hb hby at_58) ?_
     refine XS.goto X0.here hx rfl (pc0 := 59) (pc' := 63) rfl (hb hby at_59) (by decide) (by decide) ?_
     exact kg)
   ·
    simp only [if_neg hd] at kg
    exact pre177 tg (by
     refine XS.ifYes X0.here hx rfl (pc0 := 55) (pc' := 62) rfl (hb hby at_55) rfl (XT.i0_ne_t hd) (by decide) (by decide) ?_
     refine XS.iconst X0.here hx rfl (hb hby at_62) ?_
     exact kg)
  have pre179 : ∀ tg, AT p e below s₁ m 65 #[iv p0, iv p1, iv p2, iv p3, iv p4, iv p5, iv (2 : Int32), iv c0, iv c1, iv d0, iv d1, iv na, iv (if (((p5.toUInt32 >>> ((2 : Int32) &&& 31).toUInt32).toInt32) &&& (1 : Int32)) = (0 : Int32) then (1 : Int32) else (0 : Int32)), un, un, un, un, un, un, un, un, un, un, un, un, un, un, un] [] tg → Steps p.tables e below S0 tg := fun tg kg => pre178 tg (by
   refine XS.istore X0.here hx rfl (hb hby at_63) rfl (l' := #[iv p0, iv p1, iv p2, iv p3, iv p4, iv p5, iv (2 : Int32), iv c0, iv c1, iv d0, iv d1, iv na, iv (if (((p5.toUInt32 >>> ((2 : Int32) &&& 31).toUInt32).toInt32) &&& (1 : Int32)) = (0 : Int32) then (1 : Int32) else (0 : Int32)), un, un, un, un, un, un, un, un, un, un, un, un, un, un, un]) rfl ?_
   exact kg)
  obtain ⟨sm, hsm⟩ : ∃ z, z = (if (((p5.toUInt32 >>> ((2 : Int32) &&& 31).toUInt32).toInt32) &&& (1 : Int32)) = (0 : Int32) then (1 : Int32) else (0 : Int32)) := ⟨_, rfl⟩
  have pre180 : ∀ tg, AT p e below s₁ m 65 #[iv p0, iv p1, iv p2, iv p3, iv p4, iv p5, iv (2 : Int32), iv c0, iv c1, iv d0, iv d1, iv na, iv sm, un, un, un, un, un, un, un, un, un, un, un, un, un, un, un] [] tg → Steps p.tables e below S0 tg := by rw [hsm]; exact pre179
  have pre181 : ∀ tg, AT p e below s₁ m 71 #[iv p0, iv p1, iv p2, iv p3, iv p4, iv p5, iv (2 : Int32), iv c0, iv c1, iv d0, iv d1, iv na, iv sm, iv p4, un, un, un, un, un, un, un, un, un, un, un, un, un, un] [(.int sm)] tg → Steps p.tables e below S0 tg := fun tg kg => pre180 tg (by
   refine XS.iload X0.here hx rfl (hb hby at_65) rfl ?_
   refine XS.istore X0.here hx rfl (hb hby at_67) rfl (l' := #[iv p0, iv p1, iv p2, iv p3, iv p4, iv p5, iv (2 : Int32), iv c0, iv c1, iv d0, iv d1, iv na, iv sm, iv p4, un, un, un, un, un, un, un, un, un, un, un, un, un, un]) rfl ?_
   refine XS.iload X0.here hx rfl (hb hby at_69) rfl ?_
   exact kg)
  have pre182 : ∀ tg, AT p e below s₁ m 83 #[iv p0, iv p1, iv p2, iv p3, iv p4, iv p5, iv (2 : Int32), iv c0, iv c1, iv d0, iv d1, iv na, iv sm, iv p4, un, un, un, un, un, un, un, un, un, un, un, un, un, un] [(.int (if sm = (0 : Int32) then (p4 + (1 : Int32)) else p4))] tg → Steps p.tables e below S0 tg := by
   intro tg kg
   rcases Decidable.em (sm = (0 : Int32)) with hd | hd
   ·
    simp only [if_pos hd] at kg
    exact pre181 tg (by
     refine XS.ifYes X0.here hx rfl (pc0 := 71) (pc' := 79) rfl (hb hby at_71) rfl (XT.i0_eq_t hd) (by decide) (by decide) ?_
     refine XS.iload X0.here hx rfl (hb hby at_79) rfl ?_
     refine XS.iconst X0.here hx rfl (hb hby at_81) ?_
     refine XS.iadd X0.here hx rfl (hb hby at_82) rfl ?_
     exact kg)
   ·
    simp only [if_neg hd] at kg
    exact pre181 tg (by
     refine XS.ifNo X0.here hx rfl (hb hby at_71) rfl (XT.i0_eq_f hd) ?_
     refine XS.iload X0.here hx rfl (hb hby at_74) rfl ?_
     refine XS.goto X0.here hx rfl (pc0 := 76) (pc' := 83) rfl (hb hby at_76) (by decide) (by decide) ?_
     exact kg)
  have pre183 : ∀ tg, AT p e below s₁ m 98 #[iv p0, iv p1, iv p2, iv p3, iv p4, iv p5, iv (2 : Int32), iv c0, iv c1, iv d0, iv d1, iv na, iv sm, iv p4, iv (if sm = (0 : Int32) then (p4 + (1 : Int32)) else p4), iv (p3 &&& (1 : Int32)), iv (((p3.toUInt32 >>> ((1 : Int32) &&& 31).toUInt32).toInt32) % (2 : Int32)), un, un, un, un, un, un, un, un, un, un, un] [] tg → Steps p.tables e below S0 tg := fun tg kg => pre182 tg (by
   refine XS.istore X0.here hx rfl (hb hby at_83) rfl (l' := #[iv p0, iv p1, iv p2, iv p3, iv p4, iv p5, iv (2 : Int32), iv c0, iv c1, iv d0, iv d1, iv na, iv sm, iv p4, iv (if sm = (0 : Int32) then (p4 + (1 : Int32)) else p4), un, un, un, un, un, un, un, un, un, un, un, un, un]) rfl ?_
   refine XS.iloadN X0.here hx rfl (hb hby at_85) rfl ?_
   refine XS.iconst X0.here hx rfl (hb hby at_86) ?_
   refine XS.iand X0.here hx rfl (hb hby at_87) rfl ?_
   refine XS.istore X0.here hx rfl (hb hby at_88) rfl (l' := #[iv p0, iv p1, iv p2, iv p3, iv p4, iv p5, iv (2 : Int32), iv c0, iv c1, iv d0, iv d1, iv na, iv sm, iv p4, iv (if sm = (0 : Int32) then (p4 + (1 : Int32)) else p4), iv (p3 &&& (1 : Int32)), un, un, un, un, un, un, un, un, un, un, un, un]) rfl ?_
   refine XS.iloadN X0.here hx rfl (hb hby at_90) rfl ?_
   refine XS.iconst X0.here hx rfl (hb hby at_91) ?_
   refine XS.iushr X0.here hx rfl (hb hby at_92) rfl ?_
   refine XS.iload X0.here hx rfl (hb hby at_93) rfl ?_
   refine iremM X0 hx rfl (hb hby at_95) rfl (by decide) ?_
   refine XS.istore X0.here hx rfl (hb hby at_96) rfl (l' := #[iv p0, iv p1, iv p2, iv p3, iv p4, iv p5, iv (2 : Int32), iv c0, iv c1, iv d0, iv d1, iv na, iv sm, iv p4, iv (if sm = (0 : Int32) then (p4 + (1 : Int32)) else p4), iv (p3 &&& (1 : Int32)), iv (((p3.toUInt32 >>> ((1 : Int32) &&& 31).toUInt32).toInt32) % (2 : Int32)), un, un, un, un, un, un, un, un, un, un, un]) rfl ?_
   exact kg)
  obtain ⟨fb, hfb⟩ : ∃ z, z = (if sm = (0 : Int32) then (p4 + (1 : Int32)) else p4) := ⟨_, rfl⟩
  obtain ⟨cl, hcl⟩ : ∃ z, z = (((p3.toUInt32 >>> ((1 : Int32) &&& 31).toUInt32).toInt32) % (2 : Int32)) := ⟨_, rfl⟩
  have pre184 : ∀ tg, AT p e below s₁ m 98 #[iv p0, iv p1, iv p2, iv p3, iv p4, iv p5, iv (2 : Int32), iv c0, iv c1, iv d0, iv d1, iv na, iv sm, iv p4, iv fb, iv (p3 &&& (1 : Int32)), iv cl, un, un, un, un, un, un, un, un, un, un, un] [] tg → Steps p.tables e below S0 tg := by rw [hfb, hcl]; exact pre183
  have hfbs := own_fb hfb
  have hscl : cl = (0 : Int32) ∨ cl = (1 : Int32) := by rw [hcl]; exact own_u1_2 p3
  obtain ⟨T185, h185, k185, X185, e185, E185, A185, B185, st185⟩ := newPE X0 hx hZ (ow hw 1 rfl) e0 (g := (mkF m 99 #[iv p0, iv p1, iv p2, iv p3, iv p4, iv p5, iv (2 : Int32), iv c0, iv c1, iv d0, iv d1, iv na, iv sm, iv p4, iv fb, iv (p3 &&& (1 : Int32)), iv cl, un, un, un, un, un, un, un, un, un, un, un] [(.int (2 : Int32))])) rfl (hb hby at_99) rfl (by decide) (cap := 2) (by decide) (by decide) (by decide) (by decide) (ad := "[I") (by decide)
  obtain ⟨b185, g185⟩ : ∃ z, z = h0.size := ⟨_, rfl⟩
  rw [← g185] at A185 B185 st185
  have gn185 : n0 ≤ b185 := Nat.le_trans (Nat.le_trans (Nat.le_of_eq O0.1.symm) O0.2.1) (Nat.le_of_eq g185.symm)
  have sz185 : h0.size ≤ b185 := Nat.le_trans (Keep.refl h0 []).1 (Nat.le_of_eq g185.symm)
  have K185 := (Keep.refl h0 []).ext E185
  have O185 := O0.ext E185
  have CR185 : CHr Z EL0 s.vm h0 s.vm h185 := CR0.trans (CHr.ext E185 CR0.1)
  have hk := Nat.le_trans hk E185.1
  have V185_186 : Arv Z h185 b185 k185 .int (2 : Int32) [(.int (0 : Int32)), (.int (0 : Int32))] (.int (0 : Int32)) := (Arv.new A185 (by decide)).pad (pad_rep [] (.int (0 : Int32)) 2)
  obtain ⟨cl187, Ar187, q187, S187, M187, H187, G187⟩ := id V185_186
  have hin187 := own_in (0 : Int32) S187 ⟨by decide, by decide⟩
  obtain ⟨T187, h187, X187, e187, W187, st187⟩ := stI X185 hx hZ e185 Ar187 (j := (0 : Int32)) hin187 (g := (mkF m 105 #[iv p0, iv p1, iv p2, iv p3, iv p4, iv p5, iv (2 : Int32), iv c0, iv c1, iv d0, iv d1, iv na, iv sm, iv p4, iv fb, iv (p3 &&& (1 : Int32)), iv cl, un, un, un, un, un, un, un, un, un, un, un] [(.int c0), (.int (0 : Int32)), (.ref b185), (.ref b185)])) rfl rfl (hb hby at_105)
  have V187_188 : Arv Z h187 b185 k185 .int (2 : Int32) [(.int c0), (.int (0 : Int32))] (.int (0 : Int32)) := Arv.set Ar187 q187 S187 M187 H187 G187 rfl W187 0 rfl (Nat.le_of_ble_eq_true rfl)
  have E187_189 := B185.wr W187
  have K187 := K185.wr W187 (Or.inr sz185)
  have O187 := O185.wr W187 gn185
  have CR187 : CHr Z EL0 s.vm h0 s.vm h187 := CR185.trans (CHr.wr W187 own_sf0 CR185.1)
  have hk := Nat.le_trans hk (Keep.of_wr W187).1
  have N187 := Fr.snoc X187 N0 gn185
  obtain ⟨cl190, Ar190, q190, S190, M190, H190, G190⟩ := id V187_188
  have hin190 := own_in (1 : Int32) S190 ⟨by decide, by decide⟩
  obtain ⟨T190, h190, X190, e190, W190, st190⟩ := stI X187 hx hZ e187 Ar190 (j := (1 : Int32)) hin190 (g := (mkF m 110 #[iv p0, iv p1, iv p2, iv p3, iv p4, iv p5, iv (2 : Int32), iv c0, iv c1, iv d0, iv d1, iv na, iv sm, iv p4, iv fb, iv (p3 &&& (1 : Int32)), iv cl, un, un, un, un, un, un, un, un, un, un, un] [(.int c1), (.int (1 : Int32)), (.ref b185), (.ref b185)])) rfl rfl (hb hby at_110)
  have V190_191 : Arv Z h190 b185 k185 .int (2 : Int32) [(.int c0), (.int c1)] (.int (0 : Int32)) := Arv.set Ar190 q190 S190 M190 H190 G190 rfl W190 1 rfl (Nat.le_of_ble_eq_true rfl)
  have E190_192 := E187_189.wr W190
  have K190 := K187.wr W190 (Or.inr sz185)
  have O190 := O187.wr W190 gn185
  have CR190 : CHr Z EL0 s.vm h0 s.vm h190 := CR187.trans (CHr.wr W190 own_sf0 CR187.1)
  have hk := Nat.le_trans hk (Keep.of_wr W190).1
  have N190 := Fr.snoc X190 N187 gn185
  obtain ⟨T193, h193, k193, X193, e193, E193, A193, B193, st193⟩ := newPE X190 hx hZ (ow hw 1 rfl) e190 (g := (mkF m 114 #[iv p0, iv p1, iv p2, iv p3, iv p4, iv p5, iv (2 : Int32), iv c0, iv c1, iv d0, iv d1, iv na, iv sm, iv p4, iv fb, iv (p3 &&& (1 : Int32)), iv cl, rv b185, un, un, un, un, un, un, un, un, un, un] [(.int (2 : Int32))])) rfl (hb hby at_114) rfl (by decide) (cap := 2) (by decide) (by decide) (by decide) (by decide) (ad := "[I") (by decide)
  obtain ⟨b193, g193⟩ : ∃ z, z = h190.size := ⟨_, rfl⟩
  rw [← g193] at A193 B193 st193
  have ne193_194 : b185 ≠ b193 := Nat.ne_of_lt (Nat.lt_of_lt_of_le (V190_191).lt (Nat.le_of_eq g193.symm))
  have gn193 : n0 ≤ b193 := Nat.le_trans (Nat.le_trans (Nat.le_of_eq O190.1.symm) O190.2.1) (Nat.le_of_eq g193.symm)
  have sz193 : h0.size ≤ b193 := Nat.le_trans K190.1 (Nat.le_of_eq g193.symm)
  have V193_195 := V190_191.ext E193
  have E193_196 := E190_192.ext E193
  have K193 := K190.ext E193
  have O193 := O190.ext E193
  have CR193 : CHr Z EL0 s.vm h0 s.vm h193 := CR190.trans (CHr.ext E193 CR190.1)
  have hk := Nat.le_trans hk E193.1
  have V193_197 : Arv Z h193 b193 k193 .int (2 : Int32) [(.int (0 : Int32)), (.int (0 : Int32))] (.int (0 : Int32)) := (Arv.new A193 (by decide)).pad (pad_rep [] (.int (0 : Int32)) 2)
  obtain ⟨cl198, Ar198, q198, S198, M198, H198, G198⟩ := id V193_197
  have hin198 := own_in (0 : Int32) S198 ⟨by decide, by decide⟩
  obtain ⟨T198, h198, X198, e198, W198, st198⟩ := stI X193 hx hZ e193 Ar198 (j := (0 : Int32)) hin198 (g := (mkF m 120 #[iv p0, iv p1, iv p2, iv p3, iv p4, iv p5, iv (2 : Int32), iv c0, iv c1, iv d0, iv d1, iv na, iv sm, iv p4, iv fb, iv (p3 &&& (1 : Int32)), iv cl, rv b185, un, un, un, un, un, un, un, un, un, un] [(.int d0), (.int (0 : Int32)), (.ref b193), (.ref b193)])) rfl rfl (hb hby at_120)
  have V198_199 : Arv Z h198 b193 k193 .int (2 : Int32) [(.int d0), (.int (0 : Int32))] (.int (0 : Int32)) := Arv.set Ar198 q198 S198 M198 H198 G198 rfl W198 0 rfl (Nat.le_of_ble_eq_true rfl)
  have V198_200 := V193_195.other W198 ne193_194
  have E198_201 := E193_196.wr W198
  have E198_202 := B193.wr W198
  have K198 := K193.wr W198 (Or.inr sz193)
  have O198 := O193.wr W198 gn193
  have CR198 : CHr Z EL0 s.vm h0 s.vm h198 := CR193.trans (CHr.wr W198 own_sf0 CR193.1)
  have hk := Nat.le_trans hk (Keep.of_wr W198).1
  have N198 := Fr.snoc X198 N190 gn193
  obtain ⟨cl203, Ar203, q203, S203, M203, H203, G203⟩ := id V198_199
  have hin203 := own_in (1 : Int32) S203 ⟨by decide, by decide⟩
  obtain ⟨T203, h203, X203, e203, W203, st203⟩ := stI X198 hx hZ e198 Ar203 (j := (1 : Int32)) hin203 (g := (mkF m 125 #[iv p0, iv p1, iv p2, iv p3, iv p4, iv p5, iv (2 : Int32), iv c0, iv c1, iv d0, iv d1, iv na, iv sm, iv p4, iv fb, iv (p3 &&& (1 : Int32)), iv cl, rv b185, un, un, un, un, un, un, un, un, un, un] [(.int d1), (.int (1 : Int32)), (.ref b193), (.ref b193)])) rfl rfl (hb hby at_125)
  have V203_204 : Arv Z h203 b193 k193 .int (2 : Int32) [(.int d0), (.int d1)] (.int (0 : Int32)) := Arv.set Ar203 q203 S203 M203 H203 G203 rfl W203 1 rfl (Nat.le_of_ble_eq_true rfl)
  have V203_205 := V198_200.other W203 ne193_194
  have E203_206 := E198_201.wr W203
  have E203_207 := E198_202.wr W203
  have K203 := K198.wr W203 (Or.inr sz193)
  have O203 := O198.wr W203 gn193
  have CR203 : CHr Z EL0 s.vm h0 s.vm h203 := CR198.trans (CHr.wr W203 own_sf0 CR198.1)
  have hk := Nat.le_trans hk (Keep.of_wr W203).1
  have N203 := Fr.snoc X203 N198 gn193
  obtain ⟨T208, h208, X208, e208, E208, A208, D208, -, st208⟩ := newO X203 hx hZ hown (ow hw 2 rfl) (ow hw 3 rfl) (ow hw 4 rfl) e203 (g := (mkF m 128 #[iv p0, iv p1, iv p2, iv p3, iv p4, iv p5, iv (2 : Int32), iv c0, iv c1, iv d0, iv d1, iv na, iv sm, iv p4, iv fb, iv (p3 &&& (1 : Int32)), iv cl, rv b185, rv b193, un, un, un, un, un, un, un, un, un] [])) rfl (hb hby at_128) (by decide) (by decide)
  obtain ⟨b208, g208⟩ : ∃ z, z = h203.size := ⟨_, rfl⟩
  rw [← g208] at A208 D208 st208
  have ne208_209 : b185 ≠ b208 := Nat.ne_of_lt (Nat.lt_of_lt_of_le (V203_205).lt (Nat.le_of_eq g208.symm))
  have ne208_210 : b193 ≠ b208 := Nat.ne_of_lt (Nat.lt_of_lt_of_le (V203_204).lt (Nat.le_of_eq g208.symm))
  have gn208 : n0 ≤ b208 := Nat.le_trans (Nat.le_trans (Nat.le_of_eq O203.1.symm) O203.2.1) (Nat.le_of_eq g208.symm)
  have sz208 : h0.size ≤ b208 := Nat.le_trans K203.1 (Nat.le_of_eq g208.symm)
  have V208_211 := V203_205.ext E208
  have E208_212 := E203_206.ext E208
  have V208_213 := V203_204.ext E208
  have E208_214 := E203_207.ext E208
  have K208 := K203.ext E208
  have O208 := O203.ext E208
  have CR208 : CHr Z EL0 s.vm h0 s.vm h208 := CR203.trans (CHr.ext E208 CR203.1)
  have hk := Nat.le_trans hk E208.1
  have F208_215 : Fld Z h208 b208 "com/example/filters_under_siege/filtersundersiege/KeeperPairs" "shape" "Lcom/example/filters_under_siege/filtersundersiege/SketchShape;" .null := D208 (Or.inr (ow hw 49 rfl)) (ty := (.object "com/example/filters_under_siege/filtersundersiege/SketchShape")) (by decide)
  have F208_216 : Fld Z h208 b208 "com/example/filters_under_siege/filtersundersiege/KeeperPairs" "knocksDown" "Ljava/util/function/LongPredicate;" .null := D208 (Or.inr (ow hw 51 rfl)) (ty := (.object "java/util/function/LongPredicate")) (by decide)
  have F208_217 : Fld Z h208 b208 "com/example/filters_under_siege/filtersundersiege/KeeperPairs" "fingerprints" "[I" .null := D208 (Or.inr (ow hw 58 rfl)) (ty := (.array .int)) (by decide)
  have F208_218 : Fld Z h208 b208 "com/example/filters_under_siege/filtersundersiege/KeeperPairs" "counts" "[J" .null := D208 (Or.inr (ow hw 61 rfl)) (ty := (.array .long)) (by decide)
  obtain ⟨T219, h219, X219, e219, E219, A219, D219, -, st219⟩ := newO X208 hx hZ hown (ow hw 5 rfl) (ow hw 6 rfl) (ow hw 7 rfl) e208 (g := (mkF m 132 #[iv p0, iv p1, iv p2, iv p3, iv p4, iv p5, iv (2 : Int32), iv c0, iv c1, iv d0, iv d1, iv na, iv sm, iv p4, iv fb, iv (p3 &&& (1 : Int32)), iv cl, rv b185, rv b193, un, un, un, un, un, un, un, un, un] [(.ref b208), (.ref b208)])) rfl (hb hby at_132) (by decide) (by decide)
  obtain ⟨b219, g219⟩ : ∃ z, z = h208.size := ⟨_, rfl⟩
  rw [← g219] at A219 D219 st219
  have ne219_220 : b185 ≠ b219 := Nat.ne_of_lt (Nat.lt_of_lt_of_le (V208_211).lt (Nat.le_of_eq g219.symm))
  have ne219_221 : b193 ≠ b219 := Nat.ne_of_lt (Nat.lt_of_lt_of_le (V208_213).lt (Nat.le_of_eq g219.symm))
  have ne219_222 : b208 ≠ b219 := Nat.ne_of_lt (Nat.lt_of_lt_of_le (A208).lt (Nat.le_of_eq g219.symm))
  have gn219 : n0 ≤ b219 := Nat.le_trans (Nat.le_trans (Nat.le_of_eq O208.1.symm) O208.2.1) (Nat.le_of_eq g219.symm)
  have sz219 : h0.size ≤ b219 := Nat.le_trans K208.1 (Nat.le_of_eq g219.symm)
  have V219_223 := V208_211.ext E219
  have E219_224 := E208_212.ext E219
  have V219_225 := V208_213.ext E219
  have E219_226 := E208_214.ext E219
  have E219_227 := A208.ext E219
  have F219_228 := F208_215.ext E219
  have F219_229 := F208_216.ext E219
  have F219_230 := F208_217.ext E219
  have F219_231 := F208_218.ext E219
  have K219 := K208.ext E219
  have O219 := O208.ext E219
  have CR219 : CHr Z EL0 s.vm h0 s.vm h219 := CR208.trans (CHr.ext E219 CR208.1)
  have hk := Nat.le_trans hk E219.1
  have F219_232 : Fld Z h219 b219 "com/example/filters_under_siege/filtersundersiege/SketchShape" "rows" "I" (.int (0 : Int32)) := D219 (Or.inr (ow hw 21 rfl)) (ty := .int) (by decide)
  have F219_233 : Fld Z h219 b219 "com/example/filters_under_siege/filtersundersiege/SketchShape" "width" "I" (.int (0 : Int32)) := D219 (Or.inr (ow hw 23 rfl)) (ty := .int) (by decide)
  obtain ⟨_, _, ⟨T234, L234, k234, n234⟩, -, X234, ⟨Lc234, hQ234, l234, y234, z234⟩, st234⟩ := X219.specialBack hx (y := y1) rfl hown (mvT hZ (ow hw 8 rfl)) (mvT hZ (ow hw 9 rfl)) (mvT hZ (ow hw 10 rfl)) (by decide) (backOf (W := 3) (rm1_2 l Z ar hw [] b219 h219 n0 O219 A219 F219_232 F219_233 gn219) hZ (ow hw 10 rfl) (ow hw 7 rfl) (by decide) (by decide)) (g := (mkF m 139 #[iv p0, iv p1, iv p2, iv p3, iv p4, iv p5, iv (2 : Int32), iv c0, iv c1, iv d0, iv d1, iv na, iv sm, iv p4, iv fb, iv (p3 &&& (1 : Int32)), iv cl, rv b185, rv b193, un, un, un, un, un, un, un, un, un] [(.int (2 : Int32)), (.int (2 : Int32)), (.ref b219), (.ref b219), (.ref b208), (.ref b208)])) rfl (by rw [hml]; rfl) (Steps.refl _) (a := b219) (argsL := [(.int (2 : Int32)), (.int (2 : Int32))]) (rest := [(.ref b219), (.ref b208), (.ref b208)]) (lenOf pd_4 rfl) rfl (by show 2 * 0 + _ ≤ _; exact Nat.le_of_eq rfl) (hb hby at_139) (fun _ _ => ⟨rfl, e219, (by decide : 4 + 0 ≤ _), (by decide : 10 + 0 ≤ _)⟩)
  dsimp only [Pt.U, Pt.locs, Pt.cells, Pt.slots] at X234 l234 y234 z234 st234 hQ234
  subst l234 y234 z234
  obtain ⟨rfl, N234q, Kq234, u234_0, u234_1, u234_2⟩ := hQ234
  have N234 := Fr.app N203 N234q
  have V234_235 := V219_223.keep Kq234 (ninS ne219_220 nin0)
  have E234_236 := E219_224.keep Kq234
  have V234_237 := V219_225.keep Kq234 (ninS ne219_221 nin0)
  have E234_238 := E219_226.keep Kq234
  have E234_239 := E219_227.keep Kq234
  have F234_240 := F219_228.keep Kq234 (ninS ne219_222 nin0)
  have F234_241 := F219_229.keep Kq234 (ninS ne219_222 nin0)
  have F234_242 := F219_230.keep Kq234 (ninS ne219_222 nin0)
  have F234_243 := F219_231.keep Kq234 (ninS ne219_222 nin0)
  have E234_244 := A219.keep Kq234
  have K234 := K219.trans Kq234 (allS (Or.inr sz219) all0)
  have O234 := O219.keep Kq234 (allS gn219 all0)
  have CR234 : CHr Z EL0 s.vm h0 s.vm T234.heap := CR219.trans (CHr.keep Kq234 (allS own_sf0 all0) CR219.1)
  have hk := Nat.le_trans hk Kq234.1
  obtain ⟨_, _, ⟨T245, L245, k245, n245⟩, -, X245, hS245, hg245, ⟨Lc245, hQ245, l245, y245, z245, CRq245⟩, st245⟩ := X234.specialBackS hx (y := y4) rfl hown (mvT hZ (ow hw 24 rfl)) (mvT hZ (ow hw 25 rfl)) (mvT hZ (ow hw 26 rfl)) (by decide) (backOfSH (W := 1) (rm4_2 l Z ar hw [] b208 b219 T234.heap n0 O234 hEL HW E234_239 F234_240 F234_242 F234_243 F234_241 gn208 E234_244 u234_1 u234_2 ne219_222) hZ (ow hw 26 rfl) (ow hw 4 rfl) (by decide) (by decide) hEL CR234.1) (g := (mkF m 142 #[iv p0, iv p1, iv p2, iv p3, iv p4, iv p5, iv (2 : Int32), iv c0, iv c1, iv d0, iv d1, iv na, iv sm, iv p4, iv fb, iv (p3 &&& (1 : Int32)), iv cl, rv b185, rv b193, un, un, un, un, un, un, un, un, un] [(.ref b219), (.ref b208), (.ref b208)])) rfl (by rw [hml]; rfl) (Steps.refl _) (a := b208) (argsL := [(.ref b219)]) (rest := [(.ref b208)]) (lenOf pd_5 rfl) rfl (by show 2 * 0 + _ ≤ _; exact Nat.le_of_eq rfl) (hb hby at_142) (fun _ _ => ⟨rfl, rfl, (by decide : 4 + 4 ≤ _), (by decide : 10 + 32 ≤ _)⟩)
  dsimp only [Pt.U, Pt.locs, Pt.cells, Pt.slots] at X245 l245 y245 z245 st245 hQ245 hS245 hg245 CRq245
  subst l245 y245 z245
  obtain ⟨X245, hS, hZ, hown⟩ := rebS hS hk X245 hS245 hg245 hZ hown
  have CR245 : CHr Z EL0 s.vm h0 T245.vm T245.heap := CR234.trans CRq245
  obtain ⟨fa_245, ca_245, kf_245, kc_245, rfl, N245q, Kq245, u245_0, u245_1, u245_2, u245_3, u245_4, u245_5, u245_6, u245_7, u245_8, u245_9, u245_10⟩ := hQ245
  have N245 := Fr.app N234 N245q
  have V245_246 := V234_235.keep Kq245 (ninS ne208_209 nin0)
  have E245_247 := E234_236.keep Kq245
  have V245_248 := V234_237.keep Kq245 (ninS ne208_210 nin0)
  have E245_249 := E234_238.keep Kq245
  have E245_250 := E234_239.keep Kq245
  have E245_251 := E234_244.keep Kq245
  have F245_252 := u234_1.keep Kq245 (ninS (Ne.symm ne219_222) nin0)
  have F245_253 := u234_2.keep Kq245 (ninS (Ne.symm ne219_222) nin0)
  have K245 := K234.trans Kq245 (allS (Or.inr sz208) all0)
  have O245 := O234.keep Kq245 (allS gn208 all0)
  have hk := Nat.le_trans hk Kq245.1
  have hk := Nat.le_refl (Array.size T245.heap)
  have sz254 : h0.size ≤ fa_245 := Nat.le_trans K234.1 u245_7
  have gn254 : n0 ≤ fa_245 := Nat.le_trans (Nat.le_trans (Nat.le_of_eq O234.1.symm) O234.2.1) u245_7
  have ne255 : b185 ≠ fa_245 := Nat.ne_of_lt (Nat.lt_of_lt_of_le (V234_235).lt u245_7)
  have ne256 : b193 ≠ fa_245 := Nat.ne_of_lt (Nat.lt_of_lt_of_le (V234_237).lt u245_7)
  have ne257 : b208 ≠ fa_245 := Nat.ne_of_lt (Nat.lt_of_lt_of_le (E234_239).lt u245_7)
  have ne258 : b219 ≠ fa_245 := Nat.ne_of_lt (Nat.lt_of_lt_of_le (E234_244).lt u245_7)
  have sz259 : h0.size ≤ ca_245 := Nat.le_trans K234.1 u245_8
  have gn259 : n0 ≤ ca_245 := Nat.le_trans (Nat.le_trans (Nat.le_of_eq O234.1.symm) O234.2.1) u245_8
  have ne260 : b185 ≠ ca_245 := Nat.ne_of_lt (Nat.lt_of_lt_of_le (V234_235).lt u245_8)
  have ne261 : b193 ≠ ca_245 := Nat.ne_of_lt (Nat.lt_of_lt_of_le (V234_237).lt u245_8)
  have ne262 : b208 ≠ ca_245 := Nat.ne_of_lt (Nat.lt_of_lt_of_le (E234_239).lt u245_8)
  have ne263 : b219 ≠ ca_245 := Nat.ne_of_lt (Nat.lt_of_lt_of_le (E234_244).lt u245_8)
  have pre264 : ∀ tg, AT p e below T245 m 150 #[iv p0, iv p1, iv p2, iv p3, iv p4, iv p5, iv (2 : Int32), iv c0, iv c1, iv d0, iv d1, iv na, iv sm, iv p4, iv fb, iv (p3 &&& (1 : Int32)), iv cl, rv b185, rv b193, rv b208, un, un, un, un, un, un, un, un] [(.int (1 : Int32)), (.int na)] tg → Steps p.tables e below S0 tg := fun tg kg => pre184 tg (by
   refine XS.iconst X0.here hx rfl (hb hby at_98) ?_
   refine st185 _ ?_
   refine XS.dup X185.here hx rfl (hb hby at_101) rfl rfl ?_
   refine XS.iconst X185.here hx rfl (hb hby at_102) ?_
   refine XS.iload X185.here hx rfl (hb hby at_103) rfl ?_
   refine st187 _ ?_
   refine XS.dup X187.here hx rfl (hb hby at_106) rfl rfl ?_
   refine XS.iconst X187.here hx rfl (hb hby at_107) ?_
   refine XS.iload X187.here hx rfl (hb hby at_108) rfl ?_
   refine st190 _ ?_
   refine XS.astore X190.here hx rfl (hb hby at_111) rfl rfl (l' := #[iv p0, iv p1, iv p2, iv p3, iv p4, iv p5, iv (2 : Int32), iv c0, iv c1, iv d0, iv d1, iv na, iv sm, iv p4, iv fb, iv (p3 &&& (1 : Int32)), iv cl, rv b185, un, un, un, un, un, un, un, un, un, un]) rfl ?_
   refine XS.iconst X190.here hx rfl (hb hby at_113) ?_
   refine st193 _ ?_
   refine XS.dup X193.here hx rfl (hb hby at_116) rfl rfl ?_
   refine XS.iconst X193.here hx rfl (hb hby at_117) ?_
   refine XS.iload X193.here hx rfl (hb hby at_118) rfl ?_
   refine st198 _ ?_
   refine XS.dup X198.here hx rfl (hb hby at_121) rfl rfl ?_
   refine XS.iconst X198.here hx rfl (hb hby at_122) ?_
   refine XS.iload X198.here hx rfl (hb hby at_123) rfl ?_
   refine st203 _ ?_
   refine XS.astore X203.here hx rfl (hb hby at_126) rfl rfl (l' := #[iv p0, iv p1, iv p2, iv p3, iv p4, iv p5, iv (2 : Int32), iv c0, iv c1, iv d0, iv d1, iv na, iv sm, iv p4, iv fb, iv (p3 &&& (1 : Int32)), iv cl, rv b185, rv b193, un, un, un, un, un, un, un, un, un]) rfl ?_
   refine st208 _ ?_
   refine XS.dup X208.here hx rfl (hb hby at_131) rfl rfl ?_
   refine st219 _ ?_
   refine XS.dup X219.here hx rfl (hb hby at_135) rfl rfl ?_
   refine XS.iconst X219.here hx rfl (hb hby at_136) ?_
   refine XS.iload X219.here hx rfl (hb hby at_137) rfl ?_
   refine st234.trans ?_
   refine st245.trans ?_
   refine XS.astore X245.here hx rfl (hb hby at_145) rfl rfl (l' := #[iv p0, iv p1, iv p2, iv p3, iv p4, iv p5, iv (2 : Int32), iv c0, iv c1, iv d0, iv d1, iv na, iv sm, iv p4, iv fb, iv (p3 &&& (1 : Int32)), iv cl, rv b185, rv b193, rv b208, un, un, un, un, un, un, un, un]) rfl ?_
   refine XS.iload X245.here hx rfl (hb hby at_147) rfl ?_
   refine XS.iconst X245.here hx rfl (hb hby at_149) ?_
   exact kg)
  rcases Decidable.em (na < (1 : Int32)) with hc265 | hc265
  ·
   have hna : na = (0 : Int32) := own_na0 hsna hc265
   obtain ⟨cq266, kq266, q266a, q266b, q266c⟩ := isOf hZ rfl E245_250
   obtain ⟨_, _, ⟨T266, L266, k266, n266⟩, -, X266, ⟨Lc266, hQ266, l266, y266, z266⟩, st266⟩ := X245.virtualBack hx (y := y8) (z := y8) hown (mvT hZ (ow hw 62 rfl)) (mvT hZ (ow hw 63 rfl)) (notFace_of_selects (args := #[]) (mvT hZ (ow hw 65 rfl))) (mvT hZ (ow hw 65 rfl)) (mvT hZ (ow hw 64 rfl)) (by decide) (backOf (W := 0) (rm8_2 l Z ar hw [] b208 b193 fb _ _ _ _ _ _ _ _ _ _ _ _ _ _ _ _ T245.heap n0 O245 HW E245_250 u245_1 E245_251 F245_253 u245_3 u245_4 u245_2 E245_249 V245_248 u245_9 u245_10 u245_5 u245_6 gn254 gn259 ne256 hsd0 hsd1) hZ (ow hw 66 rfl) (ow hw 4 rfl) (by decide) (by decide)) q266a q266c (g := (mkF m 198 #[iv p0, iv p1, iv p2, iv p3, iv p4, iv p5, iv (2 : Int32), iv c0, iv c1, iv d0, iv d1, iv na, iv sm, iv p4, iv fb, iv (p3 &&& (1 : Int32)), iv cl, rv b185, rv b193, rv b208, un, un, un, un, un, un, un, un] [(.int fb), (.ref b193), (.ref b208)])) rfl (by rw [hml]; rfl) (Steps.refl _) (argsL := [(.ref b193), (.int fb)]) (rest := []) (lenOf pd_6 rfl) rfl (by show 2 * 0 + _ ≤ _; exact Nat.le_of_eq rfl) (hb hby at_198) (fun _ _ => ⟨rfl, rfl, (by decide : 8 + 0 ≤ _), (by decide : 42 + 0 ≤ _)⟩)
   dsimp only [Pt.U, Pt.locs, Pt.cells, Pt.slots] at X266 l266 y266 z266 st266 hQ266
   subst l266 y266 z266
   obtain ⟨rfl, N266q, Kq266, u266_0, u266_1⟩ := hQ266
   have N266 := Fr.app N245 N266q
   have V266_267 := V245_246.keep Kq266 (ninS ne255 (ninS ne260 nin0))
   have E266_268 := E245_247.keep Kq266
   have V266_269 := V245_248.keep Kq266 (ninS ne256 (ninS ne261 nin0))
   have E266_270 := E245_249.keep Kq266
   have E266_271 := E245_250.keep Kq266
   have E266_272 := E245_251.keep Kq266
   have F266_273 := F245_252.keep Kq266 (ninS ne258 (ninS ne263 nin0))
   have F266_274 := F245_253.keep Kq266 (ninS ne258 (ninS ne263 nin0))
   have F266_275 := u245_1.keep Kq266 (ninS ne257 (ninS ne262 nin0))
   have F266_276 := u245_2.keep Kq266 (ninS ne257 (ninS ne262 nin0))
   have F266_277 := u245_3.keep Kq266 (ninS ne257 (ninS ne262 nin0))
   have F266_278 := u245_4.keep Kq266 (ninS ne257 (ninS ne262 nin0))
   have E266_279 := u245_9.keep Kq266
   have E266_280 := u245_10.keep Kq266
   have K266 := K245.trans Kq266 (allS (Or.inr sz254) (allS (Or.inr sz259) all0))
   have O266 := O245.keep Kq266 (allS gn254 (allS gn259 all0))
   have CR266 : CHr Z EL0 s.vm h0 T245.vm T266.heap := CR245.trans (CHr.keep Kq266 (allS own_sf0 (allS own_sf0 all0)) CR245.1)
   have hk := Nat.le_trans hk Kq266.1
   have Vz281 : Arv Z T266.heap fa_245 kf_245 .int (4 : Int32) [(.int (pI d0 (0 : Int32) fb (0 : Int32))), (.int (pI d0 (1 : Int32) fb (0 : Int32))), (.int (pI d1 (0 : Int32) fb (0 : Int32))), (.int (pI d1 (1 : Int32) fb (0 : Int32)))] (.int (0 : Int32)) := by have q := u266_0; simp only [own_nc0_2, own_nf0_2] at q; exact q
   have Vz282 : Arv Z T266.heap ca_245 kc_245 .long (4 : Int32) [(.long (pJ d0 (0 : Int32) (1 : Int64) (0 : Int64))), (.long (pJ d0 (1 : Int32) (1 : Int64) (0 : Int64))), (.long (pJ d1 (0 : Int32) (1 : Int64) (0 : Int64))), (.long (pJ d1 (1 : Int32) (1 : Int64) (0 : Int64)))] (.long (0 : Int64)) := by have q := u266_1; simp only [own_nc0_2, own_nf0_2] at q; exact q
   have pre283 : ∀ tg, AT p e below T266 m 201 #[iv p0, iv p1, iv p2, iv p3, iv p4, iv p5, iv (2 : Int32), iv c0, iv c1, iv d0, iv d1, iv na, iv sm, iv p4, iv fb, iv (p3 &&& (1 : Int32)), iv cl, rv b185, rv b193, rv b208, un, un, un, un, un, un, un, un] [] tg → Steps p.tables e below S0 tg := fun tg kg => pre264 tg (by
    refine XS.icmpYes X245.here hx rfl (pc0 := 150) (pc' := 162) rfl (hb hby at_150) rfl (XT.ii_lt_t hc265) (by decide) (by decide) ?_
    refine XS.iload X245.here hx rfl (hb hby at_162) rfl ?_
    refine XS.iconst X245.here hx rfl (hb hby at_164) ?_
    show AT p e below T245 m 165 #[iv p0, iv p1, iv p2, iv p3, iv p4, iv p5, iv (2 : Int32), iv c0, iv c1, iv d0, iv d1, iv na, iv sm, iv p4, iv fb, iv (p3 &&& (1 : Int32)), iv cl, rv b185, rv b193, rv b208, un, un, un, un, un, un, un, un] [(.int (2 : Int32)), (.int na)] _
    refine XS.icmpYes X245.here hx rfl (pc0 := 165) (pc' := 177) rfl (hb hby at_165) rfl (XT.ii_lt_t ((own_up hc265 (by decide)) : na < (2 : Int32))) (by decide) (by decide) ?_
    refine XS.iload X245.here hx rfl (hb hby at_177) rfl ?_
    refine XS.iconst X245.here hx rfl (hb hby at_179) ?_
    show AT p e below T245 m 180 #[iv p0, iv p1, iv p2, iv p3, iv p4, iv p5, iv (2 : Int32), iv c0, iv c1, iv d0, iv d1, iv na, iv sm, iv p4, iv fb, iv (p3 &&& (1 : Int32)), iv cl, rv b185, rv b193, rv b208, un, un, un, un, un, un, un, un] [(.int (3 : Int32)), (.int na)] _
    refine XS.icmpYes X245.here hx rfl (pc0 := 180) (pc' := 192) rfl (hb hby at_180) rfl (XT.ii_lt_t ((own_up hc265 (by decide)) : na < (3 : Int32))) (by decide) (by decide) ?_
    refine XS.aload X245.here hx rfl (hb hby at_192) rfl rfl ?_
    refine XS.aload X245.here hx rfl (hb hby at_194) rfl rfl ?_
    refine XS.iload X245.here hx rfl (hb hby at_196) rfl ?_
    show AT p e below T245 m 198 #[iv p0, iv p1, iv p2, iv p3, iv p4, iv p5, iv (2 : Int32), iv c0, iv c1, iv d0, iv d1, iv na, iv sm, iv p4, iv fb, iv (p3 &&& (1 : Int32)), iv cl, rv b185, rv b193, rv b208, un, un, un, un, un, un, un, un] [(.int fb), (.ref b193), (.ref b208)] _
    refine st266.trans ?_
    exact kg)
   obtain ⟨rr, hrr⟩ : ∃ z, z = (p3 &&& (1 : Int32)) := ⟨_, rfl⟩
   have pre284 : ∀ tg, AT p e below T266 m 201 #[iv p0, iv p1, iv p2, iv p3, iv p4, iv p5, iv (2 : Int32), iv c0, iv c1, iv d0, iv d1, iv na, iv sm, iv p4, iv fb, iv rr, iv cl, rv b185, rv b193, rv b208, un, un, un, un, un, un, un, un] [] tg → Steps p.tables e below S0 tg := by rw [hrr]; exact pre283
   have hsrr : rr = (0 : Int32) ∨ rr = (1 : Int32) := by rw [hrr]; exact own_a1 p3
   rcases hsrr with rfl | rfl
   ·
    obtain ⟨cq285, kq285, q285a, q285b, q285c⟩ := isOf hZ rfl E266_271
    obtain ⟨_, _, ⟨T285, L285, k285, n285⟩, -, X285, ⟨Lc285, hQ285, l285, y285, z285⟩, st285⟩ := X266.virtualBack hx (y := y10) (z := y10) hown (mvT hZ (ow hw 72 rfl)) (mvT hZ (ow hw 73 rfl)) (notFace_of_selects (args := #[]) (mvT hZ (ow hw 75 rfl))) (mvT hZ (ow hw 75 rfl)) (mvT hZ (ow hw 74 rfl)) (by decide) (backOf (W := 0) (rm10_2_0 l Z ar hw [] b208 cl _ _ _ _ _ _ _ T266.heap n0 O266 E266_271 F266_275 E266_272 F266_274 F266_278 Vz282 hscl) hZ (ow hw 76 rfl) (ow hw 4 rfl) (by decide) (by decide)) q285a q285c (g := (mkF m 207 #[iv p0, iv p1, iv p2, iv p3, iv p4, iv p5, iv (2 : Int32), iv c0, iv c1, iv d0, iv d1, iv na, iv sm, iv p4, iv fb, iv (0 : Int32), iv cl, rv b185, rv b193, rv b208, un, un, un, un, un, un, un, un] [(.int cl), (.int (0 : Int32)), (.ref b208)])) rfl (by rw [hml]; rfl) (Steps.refl _) (argsL := [(.int (0 : Int32)), (.int cl)]) (rest := []) (lenOf pd_7 rfl) rfl (by show 2 * 0 + _ ≤ _; exact Nat.le_of_eq rfl) (hb hby at_207) (fun _ _ => ⟨rfl, rfl, (by decide : 8 + 0 ≤ _), (by decide : 42 + 0 ≤ _)⟩)
    dsimp only [Pt.U, Pt.locs, Pt.cells, Pt.slots] at X285 l285 y285 z285 st285 hQ285
    subst l285 y285 z285
    obtain ⟨rfl, N285q, e285⟩ := hQ285
    have N285 := Fr.app N266 N285q
    have hSp : Sp na sm c0 d0 cl (sJ2 cl (pJ d0 (0 : Int32) (1 : Int64) (0 : Int64)) (pJ d0 (1 : Int32) (1 : Int64) (0 : Int64))) := by rw [own_selJ2 hsd0 hscl, own_s0J2, hna]; exact own_Sp0
    have pre286 : ∀ tg, AT p e below T285 m 212 #[iv p0, iv p1, iv p2, iv p3, iv p4, iv p5, iv (2 : Int32), iv c0, iv c1, iv d0, iv d1, iv na, iv sm, iv p4, iv fb, iv (0 : Int32), iv cl, rv b185, rv b193, rv b208, jv (sJ2 cl (pJ d0 (0 : Int32) (1 : Int64) (0 : Int64)) (pJ d0 (1 : Int32) (1 : Int64) (0 : Int64))), se, un, un, un, un, un, un] [] tg → Steps p.tables e below S0 tg := fun tg kg => pre284 tg (by
     refine XS.aload X266.here hx rfl (hb hby at_201) rfl rfl ?_
     refine XS.iload X266.here hx rfl (hb hby at_203) rfl ?_
     refine XS.iload X266.here hx rfl (hb hby at_205) rfl ?_
     refine st285.trans ?_
     refine XS.lstore X285.here hx rfl (hb hby at_210) rfl (l' := #[iv p0, iv p1, iv p2, iv p3, iv p4, iv p5, iv (2 : Int32), iv c0, iv c1, iv d0, iv d1, iv na, iv sm, iv p4, iv fb, iv (0 : Int32), iv cl, rv b185, rv b193, rv b208, jv (sJ2 cl (pJ d0 (0 : Int32) (1 : Int64) (0 : Int64)) (pJ d0 (1 : Int32) (1 : Int64) (0 : Int64))), se, un, un, un, un, un, un]) rfl ?_
     exact kg)
    exact tail_r0 _ _ _ _ _ (own_mono X285 (by decide) (by decide)) e285 N285 K266 O266 hS hk hZ hown CR266 _ _ _ _ _ _ _ _ _ _ _ _ _ _ hSp pre286
   ·
    obtain ⟨cq287, kq287, q287a, q287b, q287c⟩ := isOf hZ rfl E266_271
    obtain ⟨_, _, ⟨T287, L287, k287, n287⟩, -, X287, ⟨Lc287, hQ287, l287, y287, z287⟩, st287⟩ := X266.virtualBack hx (y := y10) (z := y10) hown (mvT hZ (ow hw 72 rfl)) (mvT hZ (ow hw 73 rfl)) (notFace_of_selects (args := #[]) (mvT hZ (ow hw 75 rfl))) (mvT hZ (ow hw 75 rfl)) (mvT hZ (ow hw 74 rfl)) (by decide) (backOf (W := 0) (rm10_2_1 l Z ar hw [] b208 cl _ _ _ _ _ _ _ T266.heap n0 O266 E266_271 F266_275 E266_272 F266_274 F266_278 Vz282 hscl) hZ (ow hw 76 rfl) (ow hw 4 rfl) (by decide) (by decide)) q287a q287c (g := (mkF m 207 #[iv p0, iv p1, iv p2, iv p3, iv p4, iv p5, iv (2 : Int32), iv c0, iv c1, iv d0, iv d1, iv na, iv sm, iv p4, iv fb, iv (1 : Int32), iv cl, rv b185, rv b193, rv b208, un, un, un, un, un, un, un, un] [(.int cl), (.int (1 : Int32)), (.ref b208)])) rfl (by rw [hml]; rfl) (Steps.refl _) (argsL := [(.int (1 : Int32)), (.int cl)]) (rest := []) (lenOf pd_7 rfl) rfl (by show 2 * 0 + _ ≤ _; exact Nat.le_of_eq rfl) (hb hby at_207) (fun _ _ => ⟨rfl, rfl, (by decide : 8 + 0 ≤ _), (by decide : 42 + 0 ≤ _)⟩)
    dsimp only [Pt.U, Pt.locs, Pt.cells, Pt.slots] at X287 l287 y287 z287 st287 hQ287
    subst l287 y287 z287
    obtain ⟨rfl, N287q, e287⟩ := hQ287
    have N287 := Fr.app N266 N287q
    have hSp : Sp na sm c1 d1 cl (sJ2 cl (pJ d1 (0 : Int32) (1 : Int64) (0 : Int64)) (pJ d1 (1 : Int32) (1 : Int64) (0 : Int64))) := by rw [own_selJ2 hsd1 hscl, own_s0J2, hna]; exact own_Sp0
    have pre288 : ∀ tg, AT p e below T287 m 212 #[iv p0, iv p1, iv p2, iv p3, iv p4, iv p5, iv (2 : Int32), iv c0, iv c1, iv d0, iv d1, iv na, iv sm, iv p4, iv fb, iv (1 : Int32), iv cl, rv b185, rv b193, rv b208, jv (sJ2 cl (pJ d1 (0 : Int32) (1 : Int64) (0 : Int64)) (pJ d1 (1 : Int32) (1 : Int64) (0 : Int64))), se, un, un, un, un, un, un] [] tg → Steps p.tables e below S0 tg := fun tg kg => pre284 tg (by
     refine XS.aload X266.here hx rfl (hb hby at_201) rfl rfl ?_
     refine XS.iload X266.here hx rfl (hb hby at_203) rfl ?_
     refine XS.iload X266.here hx rfl (hb hby at_205) rfl ?_
     refine st287.trans ?_
     refine XS.lstore X287.here hx rfl (hb hby at_210) rfl (l' := #[iv p0, iv p1, iv p2, iv p3, iv p4, iv p5, iv (2 : Int32), iv c0, iv c1, iv d0, iv d1, iv na, iv sm, iv p4, iv fb, iv (1 : Int32), iv cl, rv b185, rv b193, rv b208, jv (sJ2 cl (pJ d1 (0 : Int32) (1 : Int64) (0 : Int64)) (pJ d1 (1 : Int32) (1 : Int64) (0 : Int64))), se, un, un, un, un, un, un]) rfl ?_
     exact kg)
    exact tail_r1 _ _ _ _ _ (own_mono X287 (by decide) (by decide)) e287 N287 K266 O266 hS hk hZ hown CR266 _ _ _ _ _ _ _ _ _ _ _ _ _ _ hSp pre288
  ·
   obtain ⟨cq289, kq289, q289a, q289b, q289c⟩ := isOf hZ rfl E245_250
   obtain ⟨_, _, ⟨T289, L289, k289, n289⟩, -, X289, ⟨Lc289, hQ289, l289, y289, z289⟩, st289⟩ := X245.virtualBack hx (y := y8) (z := y8) hown (mvT hZ (ow hw 62 rfl)) (mvT hZ (ow hw 63 rfl)) (notFace_of_selects (args := #[]) (mvT hZ (ow hw 65 rfl))) (mvT hZ (ow hw 65 rfl)) (mvT hZ (ow hw 64 rfl)) (by decide) (backOf (W := 0) (rm8_2 l Z ar hw [] b208 b185 p4 _ _ _ _ _ _ _ _ _ _ _ _ _ _ _ _ T245.heap n0 O245 HW E245_250 u245_1 E245_251 F245_253 u245_3 u245_4 u245_2 E245_247 V245_246 u245_9 u245_10 u245_5 u245_6 gn254 gn259 ne255 hsc0 hsc1) hZ (ow hw 66 rfl) (ow hw 4 rfl) (by decide) (by decide)) q289a q289c (g := (mkF m 159 #[iv p0, iv p1, iv p2, iv p3, iv p4, iv p5, iv (2 : Int32), iv c0, iv c1, iv d0, iv d1, iv na, iv sm, iv p4, iv fb, iv (p3 &&& (1 : Int32)), iv cl, rv b185, rv b193, rv b208, un, un, un, un, un, un, un, un] [(.int p4), (.ref b185), (.ref b208)])) rfl (by rw [hml]; rfl) (Steps.refl _) (argsL := [(.ref b185), (.int p4)]) (rest := []) (lenOf pd_6 rfl) rfl (by show 2 * 0 + _ ≤ _; exact Nat.le_of_eq rfl) (hb hby at_159) (fun _ _ => ⟨rfl, rfl, (by decide : 8 + 0 ≤ _), (by decide : 42 + 0 ≤ _)⟩)
   dsimp only [Pt.U, Pt.locs, Pt.cells, Pt.slots] at X289 l289 y289 z289 st289 hQ289
   subst l289 y289 z289
   obtain ⟨rfl, N289q, Kq289, u289_0, u289_1⟩ := hQ289
   have N289 := Fr.app N245 N289q
   have V289_290 := V245_246.keep Kq289 (ninS ne255 (ninS ne260 nin0))
   have E289_291 := E245_247.keep Kq289
   have V289_292 := V245_248.keep Kq289 (ninS ne256 (ninS ne261 nin0))
   have E289_293 := E245_249.keep Kq289
   have E289_294 := E245_250.keep Kq289
   have E289_295 := E245_251.keep Kq289
   have F289_296 := F245_252.keep Kq289 (ninS ne258 (ninS ne263 nin0))
   have F289_297 := F245_253.keep Kq289 (ninS ne258 (ninS ne263 nin0))
   have F289_298 := u245_1.keep Kq289 (ninS ne257 (ninS ne262 nin0))
   have F289_299 := u245_2.keep Kq289 (ninS ne257 (ninS ne262 nin0))
   have F289_300 := u245_3.keep Kq289 (ninS ne257 (ninS ne262 nin0))
   have F289_301 := u245_4.keep Kq289 (ninS ne257 (ninS ne262 nin0))
   have E289_302 := u245_9.keep Kq289
   have E289_303 := u245_10.keep Kq289
   have K289 := K245.trans Kq289 (allS (Or.inr sz254) (allS (Or.inr sz259) all0))
   have O289 := O245.keep Kq289 (allS gn254 (allS gn259 all0))
   have CR289 : CHr Z EL0 s.vm h0 T245.vm T289.heap := CR245.trans (CHr.keep Kq289 (allS own_sf0 (allS own_sf0 all0)) CR245.1)
   have hk := Nat.le_trans hk Kq289.1
   have Vz304 : Arv Z T289.heap fa_245 kf_245 .int (4 : Int32) [(.int (pI c0 (0 : Int32) p4 (0 : Int32))), (.int (pI c0 (1 : Int32) p4 (0 : Int32))), (.int (pI c1 (0 : Int32) p4 (0 : Int32))), (.int (pI c1 (1 : Int32) p4 (0 : Int32)))] (.int (0 : Int32)) := by have q := u289_0; simp only [own_nc0_2, own_nf0_2] at q; exact q
   have Vz305 : Arv Z T289.heap ca_245 kc_245 .long (4 : Int32) [(.long (pJ c0 (0 : Int32) (1 : Int64) (0 : Int64))), (.long (pJ c0 (1 : Int32) (1 : Int64) (0 : Int64))), (.long (pJ c1 (0 : Int32) (1 : Int64) (0 : Int64))), (.long (pJ c1 (1 : Int32) (1 : Int64) (0 : Int64)))] (.long (0 : Int64)) := by have q := u289_1; simp only [own_nc0_2, own_nf0_2] at q; exact q
   have pre306 : ∀ tg, AT p e below T289 m 165 #[iv p0, iv p1, iv p2, iv p3, iv p4, iv p5, iv (2 : Int32), iv c0, iv c1, iv d0, iv d1, iv na, iv sm, iv p4, iv fb, iv (p3 &&& (1 : Int32)), iv cl, rv b185, rv b193, rv b208, un, un, un, un, un, un, un, un] [(.int (2 : Int32)), (.int na)] tg → Steps p.tables e below S0 tg := fun tg kg => pre264 tg (by
    refine XS.icmpNo X245.here hx rfl (hb hby at_150) rfl (XT.ii_lt_f hc265) ?_
    refine XS.aload X245.here hx rfl (hb hby at_153) rfl rfl ?_
    refine XS.aload X245.here hx rfl (hb hby at_155) rfl rfl ?_
    refine XS.iload X245.here hx rfl (hb hby at_157) rfl ?_
    refine st289.trans ?_
    refine XS.iload X289.here hx rfl (hb hby at_162) rfl ?_
    refine XS.iconst X289.here hx rfl (hb hby at_164) ?_
    exact kg)
   rcases Decidable.em (na < (2 : Int32)) with hc307 | hc307
   ·
    have hna : na = (1 : Int32) := own_na1 hsna hc265 hc307
    have pre308 : ∀ tg, AT p e below T289 m 192 #[iv p0, iv p1, iv p2, iv p3, iv p4, iv p5, iv (2 : Int32), iv c0, iv c1, iv d0, iv d1, iv na, iv sm, iv p4, iv fb, iv (p3 &&& (1 : Int32)), iv cl, rv b185, rv b193, rv b208, un, un, un, un, un, un, un, un] [] tg → Steps p.tables e below S0 tg := fun tg kg => pre306 tg (by
     refine XS.icmpYes X289.here hx rfl (pc0 := 165) (pc' := 177) rfl (hb hby at_165) rfl (XT.ii_lt_t hc307) (by decide) (by decide) ?_
     refine XS.iload X289.here hx rfl (hb hby at_177) rfl ?_
     show AT p e below T289 m 179 #[iv p0, iv p1, iv p2, iv p3, iv p4, iv p5, iv (2 : Int32), iv c0, iv c1, iv d0, iv d1, iv na, iv sm, iv p4, iv fb, iv (p3 &&& (1 : Int32)), iv cl, rv b185, rv b193, rv b208, un, un, un, un, un, un, un, un] [(.int na)] _
     refine XS.iconst X289.here hx rfl (hb hby at_179) ?_
     show AT p e below T289 m 180 #[iv p0, iv p1, iv p2, iv p3, iv p4, iv p5, iv (2 : Int32), iv c0, iv c1, iv d0, iv d1, iv na, iv sm, iv p4, iv fb, iv (p3 &&& (1 : Int32)), iv cl, rv b185, rv b193, rv b208, un, un, un, un, un, un, un, un] [(.int (3 : Int32)), (.int na)] _
     refine XS.icmpYes X289.here hx rfl (pc0 := 180) (pc' := 192) rfl (hb hby at_180) rfl (XT.ii_lt_t ((own_up hc307 (by decide)) : na < (3 : Int32))) (by decide) (by decide) ?_
     exact kg)
    exact tail_m2 _ _ _ _ _ (own_mono X289 (by decide) (by decide)) rfl N289 K289 O289 hS hk hZ hown CR289 _ _ _ _ _ _ _ _ _ _ _ _ _ _ _ _ _ _ E289_293 V289_292 E289_294 F289_298 F289_300 F289_301 F289_299 E289_295 F289_297 E289_302 E289_303 Vz304 Vz305 gn254 gn259 sz254 sz259 ne256 hsc0 hsc1 hsd0 hsd1 hscl hfbs (by rw [hna] <;> decide) (by rw [hna] <;> decide) pre308
   ·
    obtain ⟨cq309, kq309, q309a, q309b, q309c⟩ := isOf hZ rfl E289_294
    obtain ⟨_, _, ⟨T309, L309, k309, n309⟩, -, X309, ⟨Lc309, hQ309, l309, y309, z309⟩, st309⟩ := X289.virtualBack hx (y := y8) (z := y8) hown (mvT hZ (ow hw 62 rfl)) (mvT hZ (ow hw 63 rfl)) (notFace_of_selects (args := #[]) (mvT hZ (ow hw 65 rfl))) (mvT hZ (ow hw 65 rfl)) (mvT hZ (ow hw 64 rfl)) (by decide) (backOf (W := 0) (rm8_2 l Z ar hw [] b208 b185 p4 _ _ _ _ _ _ _ _ _ _ _ _ _ _ _ _ T289.heap n0 O289 HW E289_294 F289_298 E289_295 F289_297 F289_300 F289_301 F289_299 E289_291 V289_290 E289_302 E289_303 Vz304 Vz305 gn254 gn259 ne255 hsc0 hsc1) hZ (ow hw 66 rfl) (ow hw 4 rfl) (by decide) (by decide)) q309a q309c (g := (mkF m 174 #[iv p0, iv p1, iv p2, iv p3, iv p4, iv p5, iv (2 : Int32), iv c0, iv c1, iv d0, iv d1, iv na, iv sm, iv p4, iv fb, iv (p3 &&& (1 : Int32)), iv cl, rv b185, rv b193, rv b208, un, un, un, un, un, un, un, un] [(.int p4), (.ref b185), (.ref b208)])) rfl (by rw [hml]; rfl) (Steps.refl _) (argsL := [(.ref b185), (.int p4)]) (rest := []) (lenOf pd_6 rfl) rfl (by show 2 * 0 + _ ≤ _; exact Nat.le_of_eq rfl) (hb hby at_174) (fun _ _ => ⟨rfl, rfl, (by decide : 8 + 0 ≤ _), (by decide : 42 + 0 ≤ _)⟩)
    dsimp only [Pt.U, Pt.locs, Pt.cells, Pt.slots] at X309 l309 y309 z309 st309 hQ309
    subst l309 y309 z309
    obtain ⟨rfl, N309q, Kq309, u309_0, u309_1⟩ := hQ309
    have N309 := Fr.app N289 N309q
    have V309_310 := V289_290.keep Kq309 (ninS ne255 (ninS ne260 nin0))
    have E309_311 := E289_291.keep Kq309
    have V309_312 := V289_292.keep Kq309 (ninS ne256 (ninS ne261 nin0))
    have E309_313 := E289_293.keep Kq309
    have E309_314 := E289_294.keep Kq309
    have E309_315 := E289_295.keep Kq309
    have F309_316 := F289_296.keep Kq309 (ninS ne258 (ninS ne263 nin0))
    have F309_317 := F289_297.keep Kq309 (ninS ne258 (ninS ne263 nin0))
    have F309_318 := F289_298.keep Kq309 (ninS ne257 (ninS ne262 nin0))
    have F309_319 := F289_299.keep Kq309 (ninS ne257 (ninS ne262 nin0))
    have F309_320 := F289_300.keep Kq309 (ninS ne257 (ninS ne262 nin0))
    have F309_321 := F289_301.keep Kq309 (ninS ne257 (ninS ne262 nin0))
    have E309_322 := E289_302.keep Kq309
    have E309_323 := E289_303.keep Kq309
    have K309 := K289.trans Kq309 (allS (Or.inr sz254) (allS (Or.inr sz259) all0))
    have O309 := O289.keep Kq309 (allS gn254 (allS gn259 all0))
    have CR309 : CHr Z EL0 s.vm h0 T245.vm T309.heap := CR289.trans (CHr.keep Kq309 (allS own_sf0 (allS own_sf0 all0)) CR289.1)
    have hk := Nat.le_trans hk Kq309.1
    have Vz324 : Arv Z T309.heap fa_245 kf_245 .int (4 : Int32) [(.int (pI c0 (0 : Int32) p4 (0 : Int32))), (.int (pI c0 (1 : Int32) p4 (0 : Int32))), (.int (pI c1 (0 : Int32) p4 (0 : Int32))), (.int (pI c1 (1 : Int32) p4 (0 : Int32)))] (.int (0 : Int32)) := by have q := u309_0; rw [own_spJ2 hsc0, own_spI2 hsc0, own_spJ2 hsc1, own_spI2 hsc1] at q; simp only [own_ncf, own_nff, own_ppJ, own_ppI] at q; exact q
    have Vz325 : Arv Z T309.heap ca_245 kc_245 .long (4 : Int32) [(.long (pJ c0 (0 : Int32) (2 : Int64) (0 : Int64))), (.long (pJ c0 (1 : Int32) (2 : Int64) (0 : Int64))), (.long (pJ c1 (0 : Int32) (2 : Int64) (0 : Int64))), (.long (pJ c1 (1 : Int32) (2 : Int64) (0 : Int64)))] (.long (0 : Int64)) := by have q := u309_1; rw [own_spJ2 hsc0, own_spI2 hsc0, own_spJ2 hsc1, own_spI2 hsc1] at q; simp only [own_ncf, own_nff, own_ppJ, own_ppI, show (1 : Int64) + (1 : Int64) = (2 : Int64) from by decide] at q; exact q
    have pre326 : ∀ tg, AT p e below T309 m 180 #[iv p0, iv p1, iv p2, iv p3, iv p4, iv p5, iv (2 : Int32), iv c0, iv c1, iv d0, iv d1, iv na, iv sm, iv p4, iv fb, iv (p3 &&& (1 : Int32)), iv cl, rv b185, rv b193, rv b208, un, un, un, un, un, un, un, un] [(.int (3 : Int32)), (.int na)] tg → Steps p.tables e below S0 tg := fun tg kg => pre306 tg (by
     refine XS.icmpNo X289.here hx rfl (hb hby at_165) rfl (XT.ii_lt_f hc307) ?_
     refine XS.aload X289.here hx rfl (hb hby at_168) rfl rfl ?_
     show AT p e below T289 m 170 #[iv p0, iv p1, iv p2, iv p3, iv p4, iv p5, iv (2 : Int32), iv c0, iv c1, iv d0, iv d1, iv na, iv sm, iv p4, iv fb, iv (p3 &&& (1 : Int32)), iv cl, rv b185, rv b193, rv b208, un, un, un, un, un, un, un, un] [(.ref b208)] _
     refine XS.aload X289.here hx rfl (hb hby at_170) rfl rfl ?_
     refine XS.iload X289.here hx rfl (hb hby at_172) rfl ?_
     refine st309.trans ?_
     refine XS.iload X309.here hx rfl (hb hby at_177) rfl ?_
     refine XS.iconst X309.here hx rfl (hb hby at_179) ?_
     exact kg)
    rcases Decidable.em (na < (3 : Int32)) with hc327 | hc327
    ·
     have hna : na = (2 : Int32) := own_na2 hsna hc307 hc327
     have pre328 : ∀ tg, AT p e below T309 m 192 #[iv p0, iv p1, iv p2, iv p3, iv p4, iv p5, iv (2 : Int32), iv c0, iv c1, iv d0, iv d1, iv na, iv sm, iv p4, iv fb, iv (p3 &&& (1 : Int32)), iv cl, rv b185, rv b193, rv b208, un, un, un, un, un, un, un, un] [] tg → Steps p.tables e below S0 tg := fun tg kg => pre326 tg (by
      refine XS.icmpYes X309.here hx rfl (pc0 := 180) (pc' := 192) rfl (hb hby at_180) rfl (XT.ii_lt_t hc327) (by decide) (by decide) ?_
      exact kg)
     exact tail_m2 _ _ _ _ _ (own_mono X309 (by decide) (by decide)) rfl N309 K309 O309 hS hk hZ hown CR309 _ _ _ _ _ _ _ _ _ _ _ _ _ _ _ _ _ _ E309_313 V309_312 E309_314 F309_318 F309_320 F309_321 F309_319 E309_315 F309_317 E309_322 E309_323 Vz324 Vz325 gn254 gn259 sz254 sz259 ne256 hsc0 hsc1 hsd0 hsd1 hscl hfbs (by rw [hna] <;> decide) (by rw [hna] <;> decide) pre328
    ·
     obtain ⟨cq329, kq329, q329a, q329b, q329c⟩ := isOf hZ rfl E309_314
     obtain ⟨_, _, ⟨T329, L329, k329, n329⟩, -, X329, ⟨Lc329, hQ329, l329, y329, z329⟩, st329⟩ := X309.virtualBack hx (y := y8) (z := y8) hown (mvT hZ (ow hw 62 rfl)) (mvT hZ (ow hw 63 rfl)) (notFace_of_selects (args := #[]) (mvT hZ (ow hw 65 rfl))) (mvT hZ (ow hw 65 rfl)) (mvT hZ (ow hw 64 rfl)) (by decide) (backOf (W := 0) (rm8_2 l Z ar hw [] b208 b185 p4 _ _ _ _ _ _ _ _ _ _ _ _ _ _ _ _ T309.heap n0 O309 HW E309_314 F309_318 E309_315 F309_317 F309_320 F309_321 F309_319 E309_311 V309_310 E309_322 E309_323 Vz324 Vz325 gn254 gn259 ne255 hsc0 hsc1) hZ (ow hw 66 rfl) (ow hw 4 rfl) (by decide) (by decide)) q329a q329c (g := (mkF m 189 #[iv p0, iv p1, iv p2, iv p3, iv p4, iv p5, iv (2 : Int32), iv c0, iv c1, iv d0, iv d1, iv na, iv sm, iv p4, iv fb, iv (p3 &&& (1 : Int32)), iv cl, rv b185, rv b193, rv b208, un, un, un, un, un, un, un, un] [(.int p4), (.ref b185), (.ref b208)])) rfl (by rw [hml]; rfl) (Steps.refl _) (argsL := [(.ref b185), (.int p4)]) (rest := []) (lenOf pd_6 rfl) rfl (by show 2 * 0 + _ ≤ _; exact Nat.le_of_eq rfl) (hb hby at_189) (fun _ _ => ⟨rfl, rfl, (by decide : 8 + 0 ≤ _), (by decide : 42 + 0 ≤ _)⟩)
     dsimp only [Pt.U, Pt.locs, Pt.cells, Pt.slots] at X329 l329 y329 z329 st329 hQ329
     subst l329 y329 z329
     obtain ⟨rfl, N329q, Kq329, u329_0, u329_1⟩ := hQ329
     have N329 := Fr.app N309 N329q
     have V329_330 := V309_310.keep Kq329 (ninS ne255 (ninS ne260 nin0))
     have E329_331 := E309_311.keep Kq329
     have V329_332 := V309_312.keep Kq329 (ninS ne256 (ninS ne261 nin0))
     have E329_333 := E309_313.keep Kq329
     have E329_334 := E309_314.keep Kq329
     have E329_335 := E309_315.keep Kq329
     have F329_336 := F309_316.keep Kq329 (ninS ne258 (ninS ne263 nin0))
     have F329_337 := F309_317.keep Kq329 (ninS ne258 (ninS ne263 nin0))
     have F329_338 := F309_318.keep Kq329 (ninS ne257 (ninS ne262 nin0))
     have F329_339 := F309_319.keep Kq329 (ninS ne257 (ninS ne262 nin0))
     have F329_340 := F309_320.keep Kq329 (ninS ne257 (ninS ne262 nin0))
     have F329_341 := F309_321.keep Kq329 (ninS ne257 (ninS ne262 nin0))
     have E329_342 := E309_322.keep Kq329
     have E329_343 := E309_323.keep Kq329
     have K329 := K309.trans Kq329 (allS (Or.inr sz254) (allS (Or.inr sz259) all0))
     have O329 := O309.keep Kq329 (allS gn254 (allS gn259 all0))
     have CR329 : CHr Z EL0 s.vm h0 T245.vm T329.heap := CR309.trans (CHr.keep Kq329 (allS own_sf0 (allS own_sf0 all0)) CR309.1)
     have hk := Nat.le_trans hk Kq329.1
     have Vz344 : Arv Z T329.heap fa_245 kf_245 .int (4 : Int32) [(.int (pI c0 (0 : Int32) p4 (0 : Int32))), (.int (pI c0 (1 : Int32) p4 (0 : Int32))), (.int (pI c1 (0 : Int32) p4 (0 : Int32))), (.int (pI c1 (1 : Int32) p4 (0 : Int32)))] (.int (0 : Int32)) := by have q := u329_0; rw [own_spJ2 hsc0, own_spI2 hsc0, own_spJ2 hsc1, own_spI2 hsc1] at q; simp only [own_ncf, own_nff, own_ppJ, own_ppI] at q; exact q
     have Vz345 : Arv Z T329.heap ca_245 kc_245 .long (4 : Int32) [(.long (pJ c0 (0 : Int32) (3 : Int64) (0 : Int64))), (.long (pJ c0 (1 : Int32) (3 : Int64) (0 : Int64))), (.long (pJ c1 (0 : Int32) (3 : Int64) (0 : Int64))), (.long (pJ c1 (1 : Int32) (3 : Int64) (0 : Int64)))] (.long (0 : Int64)) := by have q := u329_1; rw [own_spJ2 hsc0, own_spI2 hsc0, own_spJ2 hsc1, own_spI2 hsc1] at q; simp only [own_ncf, own_nff, own_ppJ, own_ppI, show (2 : Int64) + (1 : Int64) = (3 : Int64) from by decide] at q; exact q
     have hna : na = (3 : Int32) := own_na3 hsna hc327
     have pre346 : ∀ tg, AT p e below T329 m 192 #[iv p0, iv p1, iv p2, iv p3, iv p4, iv p5, iv (2 : Int32), iv c0, iv c1, iv d0, iv d1, iv na, iv sm, iv p4, iv fb, iv (p3 &&& (1 : Int32)), iv cl, rv b185, rv b193, rv b208, un, un, un, un, un, un, un, un] [] tg → Steps p.tables e below S0 tg := fun tg kg => pre326 tg (by
      refine XS.icmpNo X309.here hx rfl (hb hby at_180) rfl (XT.ii_lt_f hc327) ?_
      refine XS.aload X309.here hx rfl (hb hby at_183) rfl rfl ?_
      refine XS.aload X309.here hx rfl (hb hby at_185) rfl rfl ?_
      refine XS.iload X309.here hx rfl (hb hby at_187) rfl ?_
      refine st329.trans ?_
      exact kg)
     exact tail_m2 _ _ _ _ _ (own_mono X329 (by decide) (by decide)) rfl N329 K329 O329 hS hk hZ hown CR329 _ _ _ _ _ _ _ _ _ _ _ _ _ _ _ _ _ _ E329_333 V329_332 E329_334 F329_338 F329_340 F329_341 F329_339 E329_335 F329_337 E329_342 E329_343 Vz344 Vz345 gn254 gn259 sz254 sz259 ne256 hsc0 hsc1 hsd0 hsd1 hscl hfbs (by rw [hna] <;> decide) (by rw [hna] <;> decide) pre346
 ·
  have pre347 : ∀ tg, AT p e below s₁ m 49 #[iv p0, iv p1, iv p2, iv p3, iv p4, iv p5, iv (3 : Int32), iv ((p1 &&& (2147483647 : Int32)) % (3 : Int32)), iv (((p1.toUInt32 >>> ((16 : Int32) &&& 31).toUInt32).toInt32) % (3 : Int32)), iv ((p2 &&& (2147483647 : Int32)) % (3 : Int32)), iv (((p2.toUInt32 >>> ((16 : Int32) &&& 31).toUInt32).toInt32) % (3 : Int32)), iv (p5 &&& (3 : Int32)), un, un, un, un, un, un, un, un, un, un, un, un, un, un, un, un] [] tg → Steps p.tables e below S0 tg := fun tg kg => pre2 tg (by
   refine XS.iloadN X0.here hx rfl (hb hby at_7) rfl ?_
   refine X0.ldcInt hx hown (mvT hZ (ow hw 0 rfl)) (g := (mkF m 8 #[iv p0, iv p1, iv p2, iv p3, iv p4, iv p5, iv (3 : Int32), un, un, un, un, un, un, un, un, un, un, un, un, un, un, un, un, un, un, un, un, un] [(.int p1)])) rfl (hb hby at_8) _ ?_
   refine XS.iand X0.here hx rfl (hb hby at_10) rfl ?_
   refine XS.iload X0.here hx rfl (hb hby at_11) rfl ?_
   refine iremM X0 hx rfl (hb hby at_13) rfl (by decide) ?_
   refine XS.istore X0.here hx rfl (hb hby at_14) rfl (l' := #[iv p0, iv p1, iv p2, iv p3, iv p4, iv p5, iv (3 : Int32), iv ((p1 &&& (2147483647 : Int32)) % (3 : Int32)), un, un, un, un, un, un, un, un, un, un, un, un, un, un, un, un, un, un, un, un]) rfl ?_
   refine XS.iloadN X0.here hx rfl (hb hby at_16) rfl ?_
   refine XS.bipush X0.here hx rfl (hb hby at_17) ?_
   refine XS.iushr X0.here hx rfl (hb hby at_19) rfl ?_
   refine XS.iload X0.here hx rfl (hb hby at_20) rfl ?_
   refine iremM X0 hx rfl (hb hby at_22) rfl (by decide) ?_
   refine XS.istore X0.here hx rfl (hb hby at_23) rfl (l' := #[iv p0, iv p1, iv p2, iv p3, iv p4, iv p5, iv (3 : Int32), iv ((p1 &&& (2147483647 : Int32)) % (3 : Int32)), iv (((p1.toUInt32 >>> ((16 : Int32) &&& 31).toUInt32).toInt32) % (3 : Int32)), un, un, un, un, un, un, un, un, un, un, un, un, un, un, un, un, un, un, un]) rfl ?_
   refine XS.iloadN X0.here hx rfl (hb hby at_25) rfl ?_
   refine X0.ldcInt hx hown (mvT hZ (ow hw 0 rfl)) (g := (mkF m 26 #[iv p0, iv p1, iv p2, iv p3, iv p4, iv p5, iv (3 : Int32), iv ((p1 &&& (2147483647 : Int32)) % (3 : Int32)), iv (((p1.toUInt32 >>> ((16 : Int32) &&& 31).toUInt32).toInt32) % (3 : Int32)), un, un, un, un, un, un, un, un, un, un, un, un, un, un, un, un, un, un, un] [(.int p2)])) rfl (hb hby at_26) _ ?_
   refine XS.iand X0.here hx rfl (hb hby at_28) rfl ?_
   refine XS.iload X0.here hx rfl (hb hby at_29) rfl ?_
   refine iremM X0 hx rfl (hb hby at_31) rfl (by decide) ?_
   refine XS.istore X0.here hx rfl (hb hby at_32) rfl (l' := #[iv p0, iv p1, iv p2, iv p3, iv p4, iv p5, iv (3 : Int32), iv ((p1 &&& (2147483647 : Int32)) % (3 : Int32)), iv (((p1.toUInt32 >>> ((16 : Int32) &&& 31).toUInt32).toInt32) % (3 : Int32)), iv ((p2 &&& (2147483647 : Int32)) % (3 : Int32)), un, un, un, un, un, un, un, un, un, un, un, un, un, un, un, un, un, un]) rfl ?_
   refine XS.iloadN X0.here hx rfl (hb hby at_34) rfl ?_
   refine XS.bipush X0.here hx rfl (hb hby at_35) ?_
   refine XS.iushr X0.here hx rfl (hb hby at_37) rfl ?_
   refine XS.iload X0.here hx rfl (hb hby at_38) rfl ?_
   refine iremM X0 hx rfl (hb hby at_40) rfl (by decide) ?_
   refine XS.istore X0.here hx rfl (hb hby at_41) rfl (l' := #[iv p0, iv p1, iv p2, iv p3, iv p4, iv p5, iv (3 : Int32), iv ((p1 &&& (2147483647 : Int32)) % (3 : Int32)), iv (((p1.toUInt32 >>> ((16 : Int32) &&& 31).toUInt32).toInt32) % (3 : Int32)), iv ((p2 &&& (2147483647 : Int32)) % (3 : Int32)), iv (((p2.toUInt32 >>> ((16 : Int32) &&& 31).toUInt32).toInt32) % (3 : Int32)), un, un, un, un, un, un, un, un, un, un, un, un, un, un, un, un, un]) rfl ?_
   refine XS.iload X0.here hx rfl (hb hby at_43) rfl ?_
   refine XS.iconst X0.here hx rfl (hb hby at_45) ?_
   refine XS.iand X0.here hx rfl (hb hby at_46) rfl ?_
   refine XS.istore X0.here hx rfl (hb hby at_47) rfl (l' := #[iv p0, iv p1, iv p2, iv p3, iv p4, iv p5, iv (3 : Int32), iv ((p1 &&& (2147483647 : Int32)) % (3 : Int32)), iv (((p1.toUInt32 >>> ((16 : Int32) &&& 31).toUInt32).toInt32) % (3 : Int32)), iv ((p2 &&& (2147483647 : Int32)) % (3 : Int32)), iv (((p2.toUInt32 >>> ((16 : Int32) &&& 31).toUInt32).toInt32) % (3 : Int32)), iv (p5 &&& (3 : Int32)), un, un, un, un, un, un, un, un, un, un, un, un, un, un, un, un]) rfl ?_
   exact kg)
  obtain ⟨c0, hc0⟩ : ∃ z, z = ((p1 &&& (2147483647 : Int32)) % (3 : Int32)) := ⟨_, rfl⟩
  obtain ⟨c1, hc1⟩ : ∃ z, z = (((p1.toUInt32 >>> ((16 : Int32) &&& 31).toUInt32).toInt32) % (3 : Int32)) := ⟨_, rfl⟩
  obtain ⟨d0, hd0⟩ : ∃ z, z = ((p2 &&& (2147483647 : Int32)) % (3 : Int32)) := ⟨_, rfl⟩
  obtain ⟨d1, hd1⟩ : ∃ z, z = (((p2.toUInt32 >>> ((16 : Int32) &&& 31).toUInt32).toInt32) % (3 : Int32)) := ⟨_, rfl⟩
  obtain ⟨na, hna⟩ : ∃ z, z = (p5 &&& (3 : Int32)) := ⟨_, rfl⟩
  have pre348 : ∀ tg, AT p e below s₁ m 49 #[iv p0, iv p1, iv p2, iv p3, iv p4, iv p5, iv (3 : Int32), iv c0, iv c1, iv d0, iv d1, iv na, un, un, un, un, un, un, un, un, un, un, un, un, un, un, un, un] [] tg → Steps p.tables e below S0 tg := by rw [hc0, hc1, hd0, hd1, hna]; exact pre347
  have hsc0 : c0 = (0 : Int32) ∨ c0 = (1 : Int32) ∨ c0 = (2 : Int32) := by rw [hc0]; exact own_m3 p1
  have hsc1 : c1 = (0 : Int32) ∨ c1 = (1 : Int32) ∨ c1 = (2 : Int32) := by rw [hc1]; exact own_u16_3 p1
  have hsd0 : d0 = (0 : Int32) ∨ d0 = (1 : Int32) ∨ d0 = (2 : Int32) := by rw [hd0]; exact own_m3 p2
  have hsd1 : d1 = (0 : Int32) ∨ d1 = (1 : Int32) ∨ d1 = (2 : Int32) := by rw [hd1]; exact own_u16_3 p2
  have hsna : na = (0 : Int32) ∨ na = (1 : Int32) ∨ na = (2 : Int32) ∨ na = (3 : Int32) := by rw [hna]; exact own_n3 p5
  have pre349 : ∀ tg, AT p e below s₁ m 55 #[iv p0, iv p1, iv p2, iv p3, iv p4, iv p5, iv (3 : Int32), iv c0, iv c1, iv d0, iv d1, iv na, un, un, un, un, un, un, un, un, un, un, un, un, un, un, un, un] [(.int (((p5.toUInt32 >>> ((2 : Int32) &&& 31).toUInt32).toInt32) &&& (1 : Int32)))] tg → Steps p.tables e below S0 tg := fun tg kg => pre348 tg (by
   refine XS.iload X0.here hx rfl (hb hby at_49) rfl ?_
   refine XS.iconst X0.here hx rfl (hb hby at_51) ?_
   refine XS.iushr X0.here hx rfl (hb hby at_52) rfl ?_
   refine XS.iconst X0.here hx rfl (hb hby at_53) ?_
   refine XS.iand X0.here hx rfl (hb hby at_54) rfl ?_
   exact kg)
  have pre350 : ∀ tg, AT p e below s₁ m 63 #[iv p0, iv p1, iv p2, iv p3, iv p4, iv p5, iv (3 : Int32), iv c0, iv c1, iv d0, iv d1, iv na, un, un, un, un, un, un, un, un, un, un, un, un, un, un, un, un] [(.int (if (((p5.toUInt32 >>> ((2 : Int32) &&& 31).toUInt32).toInt32) &&& (1 : Int32)) = (0 : Int32) then (1 : Int32) else (0 : Int32)))] tg → Steps p.tables e below S0 tg := by
   intro tg kg
   rcases Decidable.em ((((p5.toUInt32 >>> ((2 : Int32) &&& 31).toUInt32).toInt32) &&& (1 : Int32)) = (0 : Int32)) with hd | hd
   ·
    simp only [if_pos hd] at kg
    exact pre349 tg (by
     refine XS.ifNo X0.here hx rfl (hb hby at_55) rfl (XT.i0_ne_f hd) ?_
     refine XS.iconst X0.here hx rfl (hb hby at_58) ?_
     refine XS.goto X0.here hx rfl (pc0 := 59) (pc' := 63) rfl (hb hby at_59) (by decide) (by decide) ?_
     exact kg)
   ·
    simp only [if_neg hd] at kg
    exact pre349 tg (by
     refine XS.ifYes X0.here hx rfl (pc0 := 55) (pc' := 62) rfl (hb hby at_55) rfl (XT.i0_ne_t hd) (by decide) (by decide) ?_
     refine XS.iconst X0.here hx rfl (hb hby at_62) ?_
     exact kg)
  have pre351 : ∀ tg, AT p e below s₁ m 65 #[iv p0, iv p1, iv p2, iv p3, iv p4, iv p5, iv (3 : Int32), iv c0, iv c1, iv d0, iv d1, iv na, iv (if (((p5.toUInt32 >>> ((2 : Int32) &&& 31).toUInt32).toInt32) &&& (1 : Int32)) = (0 : Int32) then (1 : Int32) else (0 : Int32)), un, un, un, un, un, un, un, un, un, un, un, un, un, un, un] [] tg → Steps p.tables e below S0 tg := fun tg kg => pre350 tg (by
   refine XS.istore X0.here hx rfl (hb hby at_63) rfl (l' := #[iv p0, iv p1, iv p2, iv p3, iv p4, iv p5, iv (3 : Int32), iv c0, iv c1, iv d0, iv d1, iv na, iv (if (((p5.toUInt32 >>> ((2 : Int32) &&& 31).toUInt32).toInt32) &&& (1 : Int32)) = (0 : Int32) then (1 : Int32) else (0 : Int32)), un, un, un, un, un, un, un, un, un, un, un, un, un, un, un]) rfl ?_
   exact kg)
  obtain ⟨sm, hsm⟩ : ∃ z, z = (if (((p5.toUInt32 >>> ((2 : Int32) &&& 31).toUInt32).toInt32) &&& (1 : Int32)) = (0 : Int32) then (1 : Int32) else (0 : Int32)) := ⟨_, rfl⟩
  have pre352 : ∀ tg, AT p e below s₁ m 65 #[iv p0, iv p1, iv p2, iv p3, iv p4, iv p5, iv (3 : Int32), iv c0, iv c1, iv d0, iv d1, iv na, iv sm, un, un, un, un, un, un, un, un, un, un, un, un, un, un, un] [] tg → Steps p.tables e below S0 tg := by rw [hsm]; exact pre351
  have pre353 : ∀ tg, AT p e below s₁ m 71 #[iv p0, iv p1, iv p2, iv p3, iv p4, iv p5, iv (3 : Int32), iv c0, iv c1, iv d0, iv d1, iv na, iv sm, iv p4, un, un, un, un, un, un, un, un, un, un, un, un, un, un] [(.int sm)] tg → Steps p.tables e below S0 tg := fun tg kg => pre352 tg (by
   refine XS.iload X0.here hx rfl (hb hby at_65) rfl ?_
   refine XS.istore X0.here hx rfl (hb hby at_67) rfl (l' := #[iv p0, iv p1, iv p2, iv p3, iv p4, iv p5, iv (3 : Int32), iv c0, iv c1, iv d0, iv d1, iv na, iv sm, iv p4, un, un, un, un, un, un, un, un, un, un, un, un, un, un]) rfl ?_
   refine XS.iload X0.here hx rfl (hb hby at_69) rfl ?_
   exact kg)
  have pre354 : ∀ tg, AT p e below s₁ m 83 #[iv p0, iv p1, iv p2, iv p3, iv p4, iv p5, iv (3 : Int32), iv c0, iv c1, iv d0, iv d1, iv na, iv sm, iv p4, un, un, un, un, un, un, un, un, un, un, un, un, un, un] [(.int (if sm = (0 : Int32) then (p4 + (1 : Int32)) else p4))] tg → Steps p.tables e below S0 tg := by
   intro tg kg
   rcases Decidable.em (sm = (0 : Int32)) with hd | hd
   ·
    simp only [if_pos hd] at kg
    exact pre353 tg (by
     refine XS.ifYes X0.here hx rfl (pc0 := 71) (pc' := 79) rfl (hb hby at_71) rfl (XT.i0_eq_t hd) (by decide) (by decide) ?_
     refine XS.iload X0.here hx rfl (hb hby at_79) rfl ?_
     refine XS.iconst X0.here hx rfl (hb hby at_81) ?_
     refine XS.iadd X0.here hx rfl (hb hby at_82) rfl ?_
     exact kg)
   ·
    simp only [if_neg hd] at kg
    exact pre353 tg (by
     refine XS.ifNo X0.here hx rfl (hb hby at_71) rfl (XT.i0_eq_f hd) ?_
     refine XS.iload X0.here hx rfl (hb hby at_74) rfl ?_
     refine XS.goto X0.here hx rfl (pc0 := 76) (pc' := 83) rfl (hb hby at_76) (by decide) (by decide) ?_
     exact kg)
  have pre355 : ∀ tg, AT p e below s₁ m 98 #[iv p0, iv p1, iv p2, iv p3, iv p4, iv p5, iv (3 : Int32), iv c0, iv c1, iv d0, iv d1, iv na, iv sm, iv p4, iv (if sm = (0 : Int32) then (p4 + (1 : Int32)) else p4), iv (p3 &&& (1 : Int32)), iv (((p3.toUInt32 >>> ((1 : Int32) &&& 31).toUInt32).toInt32) % (3 : Int32)), un, un, un, un, un, un, un, un, un, un, un] [] tg → Steps p.tables e below S0 tg := fun tg kg => pre354 tg (by
   refine XS.istore X0.here hx rfl (hb hby at_83) rfl (l' := #[iv p0, iv p1, iv p2, iv p3, iv p4, iv p5, iv (3 : Int32), iv c0, iv c1, iv d0, iv d1, iv na, iv sm, iv p4, iv (if sm = (0 : Int32) then (p4 + (1 : Int32)) else p4), un, un, un, un, un, un, un, un, un, un, un, un, un]) rfl ?_
   refine XS.iloadN X0.here hx rfl (hb hby at_85) rfl ?_
   refine XS.iconst X0.here hx rfl (hb hby at_86) ?_
   refine XS.iand X0.here hx rfl (hb hby at_87) rfl ?_
   refine XS.istore X0.here hx rfl (hb hby at_88) rfl (l' := #[iv p0, iv p1, iv p2, iv p3, iv p4, iv p5, iv (3 : Int32), iv c0, iv c1, iv d0, iv d1, iv na, iv sm, iv p4, iv (if sm = (0 : Int32) then (p4 + (1 : Int32)) else p4), iv (p3 &&& (1 : Int32)), un, un, un, un, un, un, un, un, un, un, un, un]) rfl ?_
   refine XS.iloadN X0.here hx rfl (hb hby at_90) rfl ?_
   refine XS.iconst X0.here hx rfl (hb hby at_91) ?_
   refine XS.iushr X0.here hx rfl (hb hby at_92) rfl ?_
   refine XS.iload X0.here hx rfl (hb hby at_93) rfl ?_
   refine iremM X0 hx rfl (hb hby at_95) rfl (by decide) ?_
   refine XS.istore X0.here hx rfl (hb hby at_96) rfl (l' := #[iv p0, iv p1, iv p2, iv p3, iv p4, iv p5, iv (3 : Int32), iv c0, iv c1, iv d0, iv d1, iv na, iv sm, iv p4, iv (if sm = (0 : Int32) then (p4 + (1 : Int32)) else p4), iv (p3 &&& (1 : Int32)), iv (((p3.toUInt32 >>> ((1 : Int32) &&& 31).toUInt32).toInt32) % (3 : Int32)), un, un, un, un, un, un, un, un, un, un, un]) rfl ?_
   exact kg)
  obtain ⟨fb, hfb⟩ : ∃ z, z = (if sm = (0 : Int32) then (p4 + (1 : Int32)) else p4) := ⟨_, rfl⟩
  obtain ⟨cl, hcl⟩ : ∃ z, z = (((p3.toUInt32 >>> ((1 : Int32) &&& 31).toUInt32).toInt32) % (3 : Int32)) := ⟨_, rfl⟩
  have pre356 : ∀ tg, AT p e below s₁ m 98 #[iv p0, iv p1, iv p2, iv p3, iv p4, iv p5, iv (3 : Int32), iv c0, iv c1, iv d0, iv d1, iv na, iv sm, iv p4, iv fb, iv (p3 &&& (1 : Int32)), iv cl, un, un, un, un, un, un, un, un, un, un, un] [] tg → Steps p.tables e below S0 tg := by rw [hfb, hcl]; exact pre355
  have hfbs := own_fb hfb
  have hscl : cl = (0 : Int32) ∨ cl = (1 : Int32) ∨ cl = (2 : Int32) := by rw [hcl]; exact own_u1_3 p3
  obtain ⟨T357, h357, k357, X357, e357, E357, A357, B357, st357⟩ := newPE X0 hx hZ (ow hw 1 rfl) e0 (g := (mkF m 99 #[iv p0, iv p1, iv p2, iv p3, iv p4, iv p5, iv (3 : Int32), iv c0, iv c1, iv d0, iv d1, iv na, iv sm, iv p4, iv fb, iv (p3 &&& (1 : Int32)), iv cl, un, un, un, un, un, un, un, un, un, un, un] [(.int (2 : Int32))])) rfl (hb hby at_99) rfl (by decide) (cap := 2) (by decide) (by decide) (by decide) (by decide) (ad := "[I") (by decide)
  obtain ⟨b357, g357⟩ : ∃ z, z = h0.size := ⟨_, rfl⟩
  rw [← g357] at A357 B357 st357
  have gn357 : n0 ≤ b357 := Nat.le_trans (Nat.le_trans (Nat.le_of_eq O0.1.symm) O0.2.1) (Nat.le_of_eq g357.symm)
  have sz357 : h0.size ≤ b357 := Nat.le_trans (Keep.refl h0 []).1 (Nat.le_of_eq g357.symm)
  have K357 := (Keep.refl h0 []).ext E357
  have O357 := O0.ext E357
  have CR357 : CHr Z EL0 s.vm h0 s.vm h357 := CR0.trans (CHr.ext E357 CR0.1)
  have hk := Nat.le_trans hk E357.1
  have V357_358 : Arv Z h357 b357 k357 .int (2 : Int32) [(.int (0 : Int32)), (.int (0 : Int32))] (.int (0 : Int32)) := (Arv.new A357 (by decide)).pad (pad_rep [] (.int (0 : Int32)) 2)
  obtain ⟨cl359, Ar359, q359, S359, M359, H359, G359⟩ := id V357_358
  have hin359 := own_in (0 : Int32) S359 ⟨by decide, by decide⟩
  obtain ⟨T359, h359, X359, e359, W359, st359⟩ := stI X357 hx hZ e357 Ar359 (j := (0 : Int32)) hin359 (g := (mkF m 105 #[iv p0, iv p1, iv p2, iv p3, iv p4, iv p5, iv (3 : Int32), iv c0, iv c1, iv d0, iv d1, iv na, iv sm, iv p4, iv fb, iv (p3 &&& (1 : Int32)), iv cl, un, un, un, un, un, un, un, un, un, un, un] [(.int c0), (.int (0 : Int32)), (.ref b357), (.ref b357)])) rfl rfl (hb hby at_105)
  have V359_360 : Arv Z h359 b357 k357 .int (2 : Int32) [(.int c0), (.int (0 : Int32))] (.int (0 : Int32)) := Arv.set Ar359 q359 S359 M359 H359 G359 rfl W359 0 rfl (Nat.le_of_ble_eq_true rfl)
  have E359_361 := B357.wr W359
  have K359 := K357.wr W359 (Or.inr sz357)
  have O359 := O357.wr W359 gn357
  have CR359 : CHr Z EL0 s.vm h0 s.vm h359 := CR357.trans (CHr.wr W359 own_sf0 CR357.1)
  have hk := Nat.le_trans hk (Keep.of_wr W359).1
  have N359 := Fr.snoc X359 N0 gn357
  obtain ⟨cl362, Ar362, q362, S362, M362, H362, G362⟩ := id V359_360
  have hin362 := own_in (1 : Int32) S362 ⟨by decide, by decide⟩
  obtain ⟨T362, h362, X362, e362, W362, st362⟩ := stI X359 hx hZ e359 Ar362 (j := (1 : Int32)) hin362 (g := (mkF m 110 #[iv p0, iv p1, iv p2, iv p3, iv p4, iv p5, iv (3 : Int32), iv c0, iv c1, iv d0, iv d1, iv na, iv sm, iv p4, iv fb, iv (p3 &&& (1 : Int32)), iv cl, un, un, un, un, un, un, un, un, un, un, un] [(.int c1), (.int (1 : Int32)), (.ref b357), (.ref b357)])) rfl rfl (hb hby at_110)
  have V362_363 : Arv Z h362 b357 k357 .int (2 : Int32) [(.int c0), (.int c1)] (.int (0 : Int32)) := Arv.set Ar362 q362 S362 M362 H362 G362 rfl W362 1 rfl (Nat.le_of_ble_eq_true rfl)
  have E362_364 := E359_361.wr W362
  have K362 := K359.wr W362 (Or.inr sz357)
  have O362 := O359.wr W362 gn357
  have CR362 : CHr Z EL0 s.vm h0 s.vm h362 := CR359.trans (CHr.wr W362 own_sf0 CR359.1)
  have hk := Nat.le_trans hk (Keep.of_wr W362).1
  have N362 := Fr.snoc X362 N359 gn357
  obtain ⟨T365, h365, k365, X365, e365, E365, A365, B365, st365⟩ := newPE X362 hx hZ (ow hw 1 rfl) e362 (g := (mkF m 114 #[iv p0, iv p1, iv p2, iv p3, iv p4, iv p5, iv (3 : Int32), iv c0, iv c1, iv d0, iv d1, iv na, iv sm, iv p4, iv fb, iv (p3 &&& (1 : Int32)), iv cl, rv b357, un, un, un, un, un, un, un, un, un, un] [(.int (2 : Int32))])) rfl (hb hby at_114) rfl (by decide) (cap := 2) (by decide) (by decide) (by decide) (by decide) (ad := "[I") (by decide)
  obtain ⟨b365, g365⟩ : ∃ z, z = h362.size := ⟨_, rfl⟩
  rw [← g365] at A365 B365 st365
  have ne365_366 : b357 ≠ b365 := Nat.ne_of_lt (Nat.lt_of_lt_of_le (V362_363).lt (Nat.le_of_eq g365.symm))
  have gn365 : n0 ≤ b365 := Nat.le_trans (Nat.le_trans (Nat.le_of_eq O362.1.symm) O362.2.1) (Nat.le_of_eq g365.symm)
  have sz365 : h0.size ≤ b365 := Nat.le_trans K362.1 (Nat.le_of_eq g365.symm)
  have V365_367 := V362_363.ext E365
  have E365_368 := E362_364.ext E365
  have K365 := K362.ext E365
  have O365 := O362.ext E365
  have CR365 : CHr Z EL0 s.vm h0 s.vm h365 := CR362.trans (CHr.ext E365 CR362.1)
  have hk := Nat.le_trans hk E365.1
  have V365_369 : Arv Z h365 b365 k365 .int (2 : Int32) [(.int (0 : Int32)), (.int (0 : Int32))] (.int (0 : Int32)) := (Arv.new A365 (by decide)).pad (pad_rep [] (.int (0 : Int32)) 2)
  obtain ⟨cl370, Ar370, q370, S370, M370, H370, G370⟩ := id V365_369
  have hin370 := own_in (0 : Int32) S370 ⟨by decide, by decide⟩
  obtain ⟨T370, h370, X370, e370, W370, st370⟩ := stI X365 hx hZ e365 Ar370 (j := (0 : Int32)) hin370 (g := (mkF m 120 #[iv p0, iv p1, iv p2, iv p3, iv p4, iv p5, iv (3 : Int32), iv c0, iv c1, iv d0, iv d1, iv na, iv sm, iv p4, iv fb, iv (p3 &&& (1 : Int32)), iv cl, rv b357, un, un, un, un, un, un, un, un, un, un] [(.int d0), (.int (0 : Int32)), (.ref b365), (.ref b365)])) rfl rfl (hb hby at_120)
  have V370_371 : Arv Z h370 b365 k365 .int (2 : Int32) [(.int d0), (.int (0 : Int32))] (.int (0 : Int32)) := Arv.set Ar370 q370 S370 M370 H370 G370 rfl W370 0 rfl (Nat.le_of_ble_eq_true rfl)
  have V370_372 := V365_367.other W370 ne365_366
  have E370_373 := E365_368.wr W370
  have E370_374 := B365.wr W370
  have K370 := K365.wr W370 (Or.inr sz365)
  have O370 := O365.wr W370 gn365
  have CR370 : CHr Z EL0 s.vm h0 s.vm h370 := CR365.trans (CHr.wr W370 own_sf0 CR365.1)
  have hk := Nat.le_trans hk (Keep.of_wr W370).1
  have N370 := Fr.snoc X370 N362 gn365
  obtain ⟨cl375, Ar375, q375, S375, M375, H375, G375⟩ := id V370_371
  have hin375 := own_in (1 : Int32) S375 ⟨by decide, by decide⟩
  obtain ⟨T375, h375, X375, e375, W375, st375⟩ := stI X370 hx hZ e370 Ar375 (j := (1 : Int32)) hin375 (g := (mkF m 125 #[iv p0, iv p1, iv p2, iv p3, iv p4, iv p5, iv (3 : Int32), iv c0, iv c1, iv d0, iv d1, iv na, iv sm, iv p4, iv fb, iv (p3 &&& (1 : Int32)), iv cl, rv b357, un, un, un, un, un, un, un, un, un, un] [(.int d1), (.int (1 : Int32)), (.ref b365), (.ref b365)])) rfl rfl (hb hby at_125)
  have V375_376 : Arv Z h375 b365 k365 .int (2 : Int32) [(.int d0), (.int d1)] (.int (0 : Int32)) := Arv.set Ar375 q375 S375 M375 H375 G375 rfl W375 1 rfl (Nat.le_of_ble_eq_true rfl)
  have V375_377 := V370_372.other W375 ne365_366
  have E375_378 := E370_373.wr W375
  have E375_379 := E370_374.wr W375
  have K375 := K370.wr W375 (Or.inr sz365)
  have O375 := O370.wr W375 gn365
  have CR375 : CHr Z EL0 s.vm h0 s.vm h375 := CR370.trans (CHr.wr W375 own_sf0 CR370.1)
  have hk := Nat.le_trans hk (Keep.of_wr W375).1
  have N375 := Fr.snoc X375 N370 gn365
  obtain ⟨T380, h380, X380, e380, E380, A380, D380, -, st380⟩ := newO X375 hx hZ hown (ow hw 2 rfl) (ow hw 3 rfl) (ow hw 4 rfl) e375 (g := (mkF m 128 #[iv p0, iv p1, iv p2, iv p3, iv p4, iv p5, iv (3 : Int32), iv c0, iv c1, iv d0, iv d1, iv na, iv sm, iv p4, iv fb, iv (p3 &&& (1 : Int32)), iv cl, rv b357, rv b365, un, un, un, un, un, un, un, un, un] [])) rfl (hb hby at_128) (by decide) (by decide)
  obtain ⟨b380, g380⟩ : ∃ z, z = h375.size := ⟨_, rfl⟩
  rw [← g380] at A380 D380 st380
  have ne380_381 : b357 ≠ b380 := Nat.ne_of_lt (Nat.lt_of_lt_of_le (V375_377).lt (Nat.le_of_eq g380.symm))
  have ne380_382 : b365 ≠ b380 := Nat.ne_of_lt (Nat.lt_of_lt_of_le (V375_376).lt (Nat.le_of_eq g380.symm))
  have gn380 : n0 ≤ b380 := Nat.le_trans (Nat.le_trans (Nat.le_of_eq O375.1.symm) O375.2.1) (Nat.le_of_eq g380.symm)
  have sz380 : h0.size ≤ b380 := Nat.le_trans K375.1 (Nat.le_of_eq g380.symm)
  have V380_383 := V375_377.ext E380
  have E380_384 := E375_378.ext E380
  have V380_385 := V375_376.ext E380
  have E380_386 := E375_379.ext E380
  have K380 := K375.ext E380
  have O380 := O375.ext E380
  have CR380 : CHr Z EL0 s.vm h0 s.vm h380 := CR375.trans (CHr.ext E380 CR375.1)
  have hk := Nat.le_trans hk E380.1
  have F380_387 : Fld Z h380 b380 "com/example/filters_under_siege/filtersundersiege/KeeperPairs" "shape" "Lcom/example/filters_under_siege/filtersundersiege/SketchShape;" .null := D380 (Or.inr (ow hw 49 rfl)) (ty := (.object "com/example/filters_under_siege/filtersundersiege/SketchShape")) (by decide)
  have F380_388 : Fld Z h380 b380 "com/example/filters_under_siege/filtersundersiege/KeeperPairs" "knocksDown" "Ljava/util/function/LongPredicate;" .null := D380 (Or.inr (ow hw 51 rfl)) (ty := (.object "java/util/function/LongPredicate")) (by decide)
  have F380_389 : Fld Z h380 b380 "com/example/filters_under_siege/filtersundersiege/KeeperPairs" "fingerprints" "[I" .null := D380 (Or.inr (ow hw 58 rfl)) (ty := (.array .int)) (by decide)
  have F380_390 : Fld Z h380 b380 "com/example/filters_under_siege/filtersundersiege/KeeperPairs" "counts" "[J" .null := D380 (Or.inr (ow hw 61 rfl)) (ty := (.array .long)) (by decide)
  obtain ⟨T391, h391, X391, e391, E391, A391, D391, -, st391⟩ := newO X380 hx hZ hown (ow hw 5 rfl) (ow hw 6 rfl) (ow hw 7 rfl) e380 (g := (mkF m 132 #[iv p0, iv p1, iv p2, iv p3, iv p4, iv p5, iv (3 : Int32), iv c0, iv c1, iv d0, iv d1, iv na, iv sm, iv p4, iv fb, iv (p3 &&& (1 : Int32)), iv cl, rv b357, rv b365, un, un, un, un, un, un, un, un, un] [(.ref b380), (.ref b380)])) rfl (hb hby at_132) (by decide) (by decide)
  obtain ⟨b391, g391⟩ : ∃ z, z = h380.size := ⟨_, rfl⟩
  rw [← g391] at A391 D391 st391
  have ne391_392 : b357 ≠ b391 := Nat.ne_of_lt (Nat.lt_of_lt_of_le (V380_383).lt (Nat.le_of_eq g391.symm))
  have ne391_393 : b365 ≠ b391 := Nat.ne_of_lt (Nat.lt_of_lt_of_le (V380_385).lt (Nat.le_of_eq g391.symm))
  have ne391_394 : b380 ≠ b391 := Nat.ne_of_lt (Nat.lt_of_lt_of_le (A380).lt (Nat.le_of_eq g391.symm))
  have gn391 : n0 ≤ b391 := Nat.le_trans (Nat.le_trans (Nat.le_of_eq O380.1.symm) O380.2.1) (Nat.le_of_eq g391.symm)
  have sz391 : h0.size ≤ b391 := Nat.le_trans K380.1 (Nat.le_of_eq g391.symm)
  have V391_395 := V380_383.ext E391
  have E391_396 := E380_384.ext E391
  have V391_397 := V380_385.ext E391
  have E391_398 := E380_386.ext E391
  have E391_399 := A380.ext E391
  have F391_400 := F380_387.ext E391
  have F391_401 := F380_388.ext E391
  have F391_402 := F380_389.ext E391
  have F391_403 := F380_390.ext E391
  have K391 := K380.ext E391
  have O391 := O380.ext E391
  have CR391 : CHr Z EL0 s.vm h0 s.vm h391 := CR380.trans (CHr.ext E391 CR380.1)
  have hk := Nat.le_trans hk E391.1
  have F391_404 : Fld Z h391 b391 "com/example/filters_under_siege/filtersundersiege/SketchShape" "rows" "I" (.int (0 : Int32)) := D391 (Or.inr (ow hw 21 rfl)) (ty := .int) (by decide)
  have F391_405 : Fld Z h391 b391 "com/example/filters_under_siege/filtersundersiege/SketchShape" "width" "I" (.int (0 : Int32)) := D391 (Or.inr (ow hw 23 rfl)) (ty := .int) (by decide)
  obtain ⟨_, _, ⟨T406, L406, k406, n406⟩, -, X406, ⟨Lc406, hQ406, l406, y406, z406⟩, st406⟩ := X391.specialBack hx (y := y1) rfl hown (mvT hZ (ow hw 8 rfl)) (mvT hZ (ow hw 9 rfl)) (mvT hZ (ow hw 10 rfl)) (by decide) (backOf (W := 3) (rm1_3 l Z ar hw [] b391 h391 n0 O391 A391 F391_404 F391_405 gn391) hZ (ow hw 10 rfl) (ow hw 7 rfl) (by decide) (by decide)) (g := (mkF m 139 #[iv p0, iv p1, iv p2, iv p3, iv p4, iv p5, iv (3 : Int32), iv c0, iv c1, iv d0, iv d1, iv na, iv sm, iv p4, iv fb, iv (p3 &&& (1 : Int32)), iv cl, rv b357, rv b365, un, un, un, un, un, un, un, un, un] [(.int (3 : Int32)), (.int (2 : Int32)), (.ref b391), (.ref b391), (.ref b380), (.ref b380)])) rfl (by rw [hml]; rfl) (Steps.refl _) (a := b391) (argsL := [(.int (2 : Int32)), (.int (3 : Int32))]) (rest := [(.ref b391), (.ref b380), (.ref b380)]) (lenOf pd_4 rfl) rfl (by show 2 * 0 + _ ≤ _; exact Nat.le_of_eq rfl) (hb hby at_139) (fun _ _ => ⟨rfl, e391, (by decide : 4 + 0 ≤ _), (by decide : 10 + 0 ≤ _)⟩)
  dsimp only [Pt.U, Pt.locs, Pt.cells, Pt.slots] at X406 l406 y406 z406 st406 hQ406
  subst l406 y406 z406
  obtain ⟨rfl, N406q, Kq406, u406_0, u406_1, u406_2⟩ := hQ406
  have N406 := Fr.app N375 N406q
  have V406_407 := V391_395.keep Kq406 (ninS ne391_392 nin0)
  have E406_408 := E391_396.keep Kq406
  have V406_409 := V391_397.keep Kq406 (ninS ne391_393 nin0)
  have E406_410 := E391_398.keep Kq406
  have E406_411 := E391_399.keep Kq406
  have F406_412 := F391_400.keep Kq406 (ninS ne391_394 nin0)
  have F406_413 := F391_401.keep Kq406 (ninS ne391_394 nin0)
  have F406_414 := F391_402.keep Kq406 (ninS ne391_394 nin0)
  have F406_415 := F391_403.keep Kq406 (ninS ne391_394 nin0)
  have E406_416 := A391.keep Kq406
  have K406 := K391.trans Kq406 (allS (Or.inr sz391) all0)
  have O406 := O391.keep Kq406 (allS gn391 all0)
  have CR406 : CHr Z EL0 s.vm h0 s.vm T406.heap := CR391.trans (CHr.keep Kq406 (allS own_sf0 all0) CR391.1)
  have hk := Nat.le_trans hk Kq406.1
  obtain ⟨_, _, ⟨T417, L417, k417, n417⟩, -, X417, hS417, hg417, ⟨Lc417, hQ417, l417, y417, z417, CRq417⟩, st417⟩ := X406.specialBackS hx (y := y4) rfl hown (mvT hZ (ow hw 24 rfl)) (mvT hZ (ow hw 25 rfl)) (mvT hZ (ow hw 26 rfl)) (by decide) (backOfSH (W := 1) (rm4_3 l Z ar hw [] b380 b391 T406.heap n0 O406 hEL HW E406_411 F406_412 F406_414 F406_415 F406_413 gn380 E406_416 u406_1 u406_2 ne391_394) hZ (ow hw 26 rfl) (ow hw 4 rfl) (by decide) (by decide) hEL CR406.1) (g := (mkF m 142 #[iv p0, iv p1, iv p2, iv p3, iv p4, iv p5, iv (3 : Int32), iv c0, iv c1, iv d0, iv d1, iv na, iv sm, iv p4, iv fb, iv (p3 &&& (1 : Int32)), iv cl, rv b357, rv b365, un, un, un, un, un, un, un, un, un] [(.ref b391), (.ref b380), (.ref b380)])) rfl (by rw [hml]; rfl) (Steps.refl _) (a := b380) (argsL := [(.ref b391)]) (rest := [(.ref b380)]) (lenOf pd_5 rfl) rfl (by show 2 * 0 + _ ≤ _; exact Nat.le_of_eq rfl) (hb hby at_142) (fun _ _ => ⟨rfl, rfl, (by decide : 4 + 4 ≤ _), (by decide : 10 + 36 ≤ _)⟩)
  dsimp only [Pt.U, Pt.locs, Pt.cells, Pt.slots] at X417 l417 y417 z417 st417 hQ417 hS417 hg417 CRq417
  subst l417 y417 z417
  obtain ⟨X417, hS, hZ, hown⟩ := rebS hS hk X417 hS417 hg417 hZ hown
  have CR417 : CHr Z EL0 s.vm h0 T417.vm T417.heap := CR406.trans CRq417
  obtain ⟨fa_417, ca_417, kf_417, kc_417, rfl, N417q, Kq417, u417_0, u417_1, u417_2, u417_3, u417_4, u417_5, u417_6, u417_7, u417_8, u417_9, u417_10⟩ := hQ417
  have N417 := Fr.app N406 N417q
  have V417_418 := V406_407.keep Kq417 (ninS ne380_381 nin0)
  have E417_419 := E406_408.keep Kq417
  have V417_420 := V406_409.keep Kq417 (ninS ne380_382 nin0)
  have E417_421 := E406_410.keep Kq417
  have E417_422 := E406_411.keep Kq417
  have E417_423 := E406_416.keep Kq417
  have F417_424 := u406_1.keep Kq417 (ninS (Ne.symm ne391_394) nin0)
  have F417_425 := u406_2.keep Kq417 (ninS (Ne.symm ne391_394) nin0)
  have K417 := K406.trans Kq417 (allS (Or.inr sz380) all0)
  have O417 := O406.keep Kq417 (allS gn380 all0)
  have hk := Nat.le_trans hk Kq417.1
  have hk := Nat.le_refl (Array.size T417.heap)
  have sz426 : h0.size ≤ fa_417 := Nat.le_trans K406.1 u417_7
  have gn426 : n0 ≤ fa_417 := Nat.le_trans (Nat.le_trans (Nat.le_of_eq O406.1.symm) O406.2.1) u417_7
  have ne427 : b357 ≠ fa_417 := Nat.ne_of_lt (Nat.lt_of_lt_of_le (V406_407).lt u417_7)
  have ne428 : b365 ≠ fa_417 := Nat.ne_of_lt (Nat.lt_of_lt_of_le (V406_409).lt u417_7)
  have ne429 : b380 ≠ fa_417 := Nat.ne_of_lt (Nat.lt_of_lt_of_le (E406_411).lt u417_7)
  have ne430 : b391 ≠ fa_417 := Nat.ne_of_lt (Nat.lt_of_lt_of_le (E406_416).lt u417_7)
  have sz431 : h0.size ≤ ca_417 := Nat.le_trans K406.1 u417_8
  have gn431 : n0 ≤ ca_417 := Nat.le_trans (Nat.le_trans (Nat.le_of_eq O406.1.symm) O406.2.1) u417_8
  have ne432 : b357 ≠ ca_417 := Nat.ne_of_lt (Nat.lt_of_lt_of_le (V406_407).lt u417_8)
  have ne433 : b365 ≠ ca_417 := Nat.ne_of_lt (Nat.lt_of_lt_of_le (V406_409).lt u417_8)
  have ne434 : b380 ≠ ca_417 := Nat.ne_of_lt (Nat.lt_of_lt_of_le (E406_411).lt u417_8)
  have ne435 : b391 ≠ ca_417 := Nat.ne_of_lt (Nat.lt_of_lt_of_le (E406_416).lt u417_8)
  have pre436 : ∀ tg, AT p e below T417 m 150 #[iv p0, iv p1, iv p2, iv p3, iv p4, iv p5, iv (3 : Int32), iv c0, iv c1, iv d0, iv d1, iv na, iv sm, iv p4, iv fb, iv (p3 &&& (1 : Int32)), iv cl, rv b357, rv b365, rv b380, un, un, un, un, un, un, un, un] [(.int (1 : Int32)), (.int na)] tg → Steps p.tables e below S0 tg := fun tg kg => pre356 tg (by
   refine XS.iconst X0.here hx rfl (hb hby at_98) ?_
   refine st357 _ ?_
   refine XS.dup X357.here hx rfl (hb hby at_101) rfl rfl ?_
   refine XS.iconst X357.here hx rfl (hb hby at_102) ?_
   refine XS.iload X357.here hx rfl (hb hby at_103) rfl ?_
   refine st359 _ ?_
   refine XS.dup X359.here hx rfl (hb hby at_106) rfl rfl ?_
   refine XS.iconst X359.here hx rfl (hb hby at_107) ?_
   refine XS.iload X359.here hx rfl (hb hby at_108) rfl ?_
   refine st362 _ ?_
   refine XS.astore X362.here hx rfl (hb hby at_111) rfl rfl (l' := #[iv p0, iv p1, iv p2, iv p3, iv p4, iv p5, iv (3 : Int32), iv c0, iv c1, iv d0, iv d1, iv na, iv sm, iv p4, iv fb, iv (p3 &&& (1 : Int32)), iv cl, rv b357, un, un, un, un, un, un, un, un, un, un]) rfl ?_
   refine XS.iconst X362.here hx rfl (hb hby at_113) ?_
   refine st365 _ ?_
   refine XS.dup X365.here hx rfl (hb hby at_116) rfl rfl ?_
   refine XS.iconst X365.here hx rfl (hb hby at_117) ?_
   refine XS.iload X365.here hx rfl (hb hby at_118) rfl ?_
   refine st370 _ ?_
   refine XS.dup X370.here hx rfl (hb hby at_121) rfl rfl ?_
   refine XS.iconst X370.here hx rfl (hb hby at_122) ?_
   refine XS.iload X370.here hx rfl (hb hby at_123) rfl ?_
   refine st375 _ ?_
   refine XS.astore X375.here hx rfl (hb hby at_126) rfl rfl (l' := #[iv p0, iv p1, iv p2, iv p3, iv p4, iv p5, iv (3 : Int32), iv c0, iv c1, iv d0, iv d1, iv na, iv sm, iv p4, iv fb, iv (p3 &&& (1 : Int32)), iv cl, rv b357, rv b365, un, un, un, un, un, un, un, un, un]) rfl ?_
   refine st380 _ ?_
   refine XS.dup X380.here hx rfl (hb hby at_131) rfl rfl ?_
   refine st391 _ ?_
   refine XS.dup X391.here hx rfl (hb hby at_135) rfl rfl ?_
   refine XS.iconst X391.here hx rfl (hb hby at_136) ?_
   refine XS.iload X391.here hx rfl (hb hby at_137) rfl ?_
   refine st406.trans ?_
   refine st417.trans ?_
   refine XS.astore X417.here hx rfl (hb hby at_145) rfl rfl (l' := #[iv p0, iv p1, iv p2, iv p3, iv p4, iv p5, iv (3 : Int32), iv c0, iv c1, iv d0, iv d1, iv na, iv sm, iv p4, iv fb, iv (p3 &&& (1 : Int32)), iv cl, rv b357, rv b365, rv b380, un, un, un, un, un, un, un, un]) rfl ?_
   refine XS.iload X417.here hx rfl (hb hby at_147) rfl ?_
   refine XS.iconst X417.here hx rfl (hb hby at_149) ?_
   exact kg)
  rcases Decidable.em (na < (1 : Int32)) with hc437 | hc437
  ·
   have hna : na = (0 : Int32) := own_na0 hsna hc437
   obtain ⟨cq438, kq438, q438a, q438b, q438c⟩ := isOf hZ rfl E417_422
   obtain ⟨_, _, ⟨T438, L438, k438, n438⟩, -, X438, ⟨Lc438, hQ438, l438, y438, z438⟩, st438⟩ := X417.virtualBack hx (y := y8) (z := y8) hown (mvT hZ (ow hw 62 rfl)) (mvT hZ (ow hw 63 rfl)) (notFace_of_selects (args := #[]) (mvT hZ (ow hw 65 rfl))) (mvT hZ (ow hw 65 rfl)) (mvT hZ (ow hw 64 rfl)) (by decide) (backOf (W := 0) (rm8_3 l Z ar hw [] b380 b365 fb _ _ _ _ _ _ _ _ _ _ _ _ _ _ _ _ _ _ _ _ T417.heap n0 O417 HW E417_422 u417_1 E417_423 F417_425 u417_3 u417_4 u417_2 E417_421 V417_420 u417_9 u417_10 u417_5 u417_6 gn426 gn431 ne428 hsd0 hsd1) hZ (ow hw 66 rfl) (ow hw 4 rfl) (by decide) (by decide)) q438a q438c (g := (mkF m 198 #[iv p0, iv p1, iv p2, iv p3, iv p4, iv p5, iv (3 : Int32), iv c0, iv c1, iv d0, iv d1, iv na, iv sm, iv p4, iv fb, iv (p3 &&& (1 : Int32)), iv cl, rv b357, rv b365, rv b380, un, un, un, un, un, un, un, un] [(.int fb), (.ref b365), (.ref b380)])) rfl (by rw [hml]; rfl) (Steps.refl _) (argsL := [(.ref b365), (.int fb)]) (rest := []) (lenOf pd_6 rfl) rfl (by show 2 * 0 + _ ≤ _; exact Nat.le_of_eq rfl) (hb hby at_198) (fun _ _ => ⟨rfl, rfl, (by decide : 8 + 0 ≤ _), (by decide : 46 + 0 ≤ _)⟩)
   dsimp only [Pt.U, Pt.locs, Pt.cells, Pt.slots] at X438 l438 y438 z438 st438 hQ438
   subst l438 y438 z438
   obtain ⟨rfl, N438q, Kq438, u438_0, u438_1⟩ := hQ438
   have N438 := Fr.app N417 N438q
   have V438_439 := V417_418.keep Kq438 (ninS ne427 (ninS ne432 nin0))
   have E438_440 := E417_419.keep Kq438
   have V438_441 := V417_420.keep Kq438 (ninS ne428 (ninS ne433 nin0))
   have E438_442 := E417_421.keep Kq438
   have E438_443 := E417_422.keep Kq438
   have E438_444 := E417_423.keep Kq438
   have F438_445 := F417_424.keep Kq438 (ninS ne430 (ninS ne435 nin0))
   have F438_446 := F417_425.keep Kq438 (ninS ne430 (ninS ne435 nin0))
   have F438_447 := u417_1.keep Kq438 (ninS ne429 (ninS ne434 nin0))
   have F438_448 := u417_2.keep Kq438 (ninS ne429 (ninS ne434 nin0))
   have F438_449 := u417_3.keep Kq438 (ninS ne429 (ninS ne434 nin0))
   have F438_450 := u417_4.keep Kq438 (ninS ne429 (ninS ne434 nin0))
   have E438_451 := u417_9.keep Kq438
   have E438_452 := u417_10.keep Kq438
   have K438 := K417.trans Kq438 (allS (Or.inr sz426) (allS (Or.inr sz431) all0))
   have O438 := O417.keep Kq438 (allS gn426 (allS gn431 all0))
   have CR438 : CHr Z EL0 s.vm h0 T417.vm T438.heap := CR417.trans (CHr.keep Kq438 (allS own_sf0 (allS own_sf0 all0)) CR417.1)
   have hk := Nat.le_trans hk Kq438.1
   have Vz453 : Arv Z T438.heap fa_417 kf_417 .int (6 : Int32) [(.int (pI d0 (0 : Int32) fb (0 : Int32))), (.int (pI d0 (1 : Int32) fb (0 : Int32))), (.int (pI d0 (2 : Int32) fb (0 : Int32))), (.int (pI d1 (0 : Int32) fb (0 : Int32))), (.int (pI d1 (1 : Int32) fb (0 : Int32))), (.int (pI d1 (2 : Int32) fb (0 : Int32)))] (.int (0 : Int32)) := by have q := u438_0; simp only [own_nc0_3, own_nf0_3] at q; exact q
   have Vz454 : Arv Z T438.heap ca_417 kc_417 .long (6 : Int32) [(.long (pJ d0 (0 : Int32) (1 : Int64) (0 : Int64))), (.long (pJ d0 (1 : Int32) (1 : Int64) (0 : Int64))), (.long (pJ d0 (2 : Int32) (1 : Int64) (0 : Int64))), (.long (pJ d1 (0 : Int32) (1 : Int64) (0 : Int64))), (.long (pJ d1 (1 : Int32) (1 : Int64) (0 : Int64))), (.long (pJ d1 (2 : Int32) (1 : Int64) (0 : Int64)))] (.long (0 : Int64)) := by have q := u438_1; simp only [own_nc0_3, own_nf0_3] at q; exact q
   have pre455 : ∀ tg, AT p e below T438 m 201 #[iv p0, iv p1, iv p2, iv p3, iv p4, iv p5, iv (3 : Int32), iv c0, iv c1, iv d0, iv d1, iv na, iv sm, iv p4, iv fb, iv (p3 &&& (1 : Int32)), iv cl, rv b357, rv b365, rv b380, un, un, un, un, un, un, un, un] [] tg → Steps p.tables e below S0 tg := fun tg kg => pre436 tg (by
    refine XS.icmpYes X417.here hx rfl (pc0 := 150) (pc' := 162) rfl (hb hby at_150) rfl (XT.ii_lt_t hc437) (by decide) (by decide) ?_
    refine XS.iload X417.here hx rfl (hb hby at_162) rfl ?_
    refine XS.iconst X417.here hx rfl (hb hby at_164) ?_
    show AT p e below T417 m 165 #[iv p0, iv p1, iv p2, iv p3, iv p4, iv p5, iv (3 : Int32), iv c0, iv c1, iv d0, iv d1, iv na, iv sm, iv p4, iv fb, iv (p3 &&& (1 : Int32)), iv cl, rv b357, rv b365, rv b380, un, un, un, un, un, un, un, un] [(.int (2 : Int32)), (.int na)] _
    refine XS.icmpYes X417.here hx rfl (pc0 := 165) (pc' := 177) rfl (hb hby at_165) rfl (XT.ii_lt_t ((own_up hc437 (by decide)) : na < (2 : Int32))) (by decide) (by decide) ?_
    refine XS.iload X417.here hx rfl (hb hby at_177) rfl ?_
    refine XS.iconst X417.here hx rfl (hb hby at_179) ?_
    show AT p e below T417 m 180 #[iv p0, iv p1, iv p2, iv p3, iv p4, iv p5, iv (3 : Int32), iv c0, iv c1, iv d0, iv d1, iv na, iv sm, iv p4, iv fb, iv (p3 &&& (1 : Int32)), iv cl, rv b357, rv b365, rv b380, un, un, un, un, un, un, un, un] [(.int (3 : Int32)), (.int na)] _
    refine XS.icmpYes X417.here hx rfl (pc0 := 180) (pc' := 192) rfl (hb hby at_180) rfl (XT.ii_lt_t ((own_up hc437 (by decide)) : na < (3 : Int32))) (by decide) (by decide) ?_
    refine XS.aload X417.here hx rfl (hb hby at_192) rfl rfl ?_
    refine XS.aload X417.here hx rfl (hb hby at_194) rfl rfl ?_
    refine XS.iload X417.here hx rfl (hb hby at_196) rfl ?_
    show AT p e below T417 m 198 #[iv p0, iv p1, iv p2, iv p3, iv p4, iv p5, iv (3 : Int32), iv c0, iv c1, iv d0, iv d1, iv na, iv sm, iv p4, iv fb, iv (p3 &&& (1 : Int32)), iv cl, rv b357, rv b365, rv b380, un, un, un, un, un, un, un, un] [(.int fb), (.ref b365), (.ref b380)] _
    refine st438.trans ?_
    exact kg)
   obtain ⟨rr, hrr⟩ : ∃ z, z = (p3 &&& (1 : Int32)) := ⟨_, rfl⟩
   have pre456 : ∀ tg, AT p e below T438 m 201 #[iv p0, iv p1, iv p2, iv p3, iv p4, iv p5, iv (3 : Int32), iv c0, iv c1, iv d0, iv d1, iv na, iv sm, iv p4, iv fb, iv rr, iv cl, rv b357, rv b365, rv b380, un, un, un, un, un, un, un, un] [] tg → Steps p.tables e below S0 tg := by rw [hrr]; exact pre455
   have hsrr : rr = (0 : Int32) ∨ rr = (1 : Int32) := by rw [hrr]; exact own_a1 p3
   rcases hsrr with rfl | rfl
   ·
    obtain ⟨cq457, kq457, q457a, q457b, q457c⟩ := isOf hZ rfl E438_443
    obtain ⟨_, _, ⟨T457, L457, k457, n457⟩, -, X457, ⟨Lc457, hQ457, l457, y457, z457⟩, st457⟩ := X438.virtualBack hx (y := y10) (z := y10) hown (mvT hZ (ow hw 72 rfl)) (mvT hZ (ow hw 73 rfl)) (notFace_of_selects (args := #[]) (mvT hZ (ow hw 75 rfl))) (mvT hZ (ow hw 75 rfl)) (mvT hZ (ow hw 74 rfl)) (by decide) (backOf (W := 0) (rm10_3_0 l Z ar hw [] b380 cl _ _ _ _ _ _ _ _ _ T438.heap n0 O438 E438_443 F438_447 E438_444 F438_446 F438_450 Vz454 hscl) hZ (ow hw 76 rfl) (ow hw 4 rfl) (by decide) (by decide)) q457a q457c (g := (mkF m 207 #[iv p0, iv p1, iv p2, iv p3, iv p4, iv p5, iv (3 : Int32), iv c0, iv c1, iv d0, iv d1, iv na, iv sm, iv p4, iv fb, iv (0 : Int32), iv cl, rv b357, rv b365, rv b380, un, un, un, un, un, un, un, un] [(.int cl), (.int (0 : Int32)), (.ref b380)])) rfl (by rw [hml]; rfl) (Steps.refl _) (argsL := [(.int (0 : Int32)), (.int cl)]) (rest := []) (lenOf pd_7 rfl) rfl (by show 2 * 0 + _ ≤ _; exact Nat.le_of_eq rfl) (hb hby at_207) (fun _ _ => ⟨rfl, rfl, (by decide : 8 + 0 ≤ _), (by decide : 46 + 0 ≤ _)⟩)
    dsimp only [Pt.U, Pt.locs, Pt.cells, Pt.slots] at X457 l457 y457 z457 st457 hQ457
    subst l457 y457 z457
    obtain ⟨rfl, N457q, e457⟩ := hQ457
    have N457 := Fr.app N438 N457q
    have hSp : Sp na sm c0 d0 cl (sJ3 cl (pJ d0 (0 : Int32) (1 : Int64) (0 : Int64)) (pJ d0 (1 : Int32) (1 : Int64) (0 : Int64)) (pJ d0 (2 : Int32) (1 : Int64) (0 : Int64))) := by rw [own_selJ3 hsd0 hscl, own_s0J3, hna]; exact own_Sp0
    have pre458 : ∀ tg, AT p e below T457 m 212 #[iv p0, iv p1, iv p2, iv p3, iv p4, iv p5, iv (3 : Int32), iv c0, iv c1, iv d0, iv d1, iv na, iv sm, iv p4, iv fb, iv (0 : Int32), iv cl, rv b357, rv b365, rv b380, jv (sJ3 cl (pJ d0 (0 : Int32) (1 : Int64) (0 : Int64)) (pJ d0 (1 : Int32) (1 : Int64) (0 : Int64)) (pJ d0 (2 : Int32) (1 : Int64) (0 : Int64))), se, un, un, un, un, un, un] [] tg → Steps p.tables e below S0 tg := fun tg kg => pre456 tg (by
     refine XS.aload X438.here hx rfl (hb hby at_201) rfl rfl ?_
     refine XS.iload X438.here hx rfl (hb hby at_203) rfl ?_
     refine XS.iload X438.here hx rfl (hb hby at_205) rfl ?_
     refine st457.trans ?_
     refine XS.lstore X457.here hx rfl (hb hby at_210) rfl (l' := #[iv p0, iv p1, iv p2, iv p3, iv p4, iv p5, iv (3 : Int32), iv c0, iv c1, iv d0, iv d1, iv na, iv sm, iv p4, iv fb, iv (0 : Int32), iv cl, rv b357, rv b365, rv b380, jv (sJ3 cl (pJ d0 (0 : Int32) (1 : Int64) (0 : Int64)) (pJ d0 (1 : Int32) (1 : Int64) (0 : Int64)) (pJ d0 (2 : Int32) (1 : Int64) (0 : Int64))), se, un, un, un, un, un, un]) rfl ?_
     exact kg)
    exact tail_r0 _ _ _ _ _ (own_mono X457 (by decide) (by decide)) e457 N457 K438 O438 hS hk hZ hown CR438 _ _ _ _ _ _ _ _ _ _ _ _ _ _ hSp pre458
   ·
    obtain ⟨cq459, kq459, q459a, q459b, q459c⟩ := isOf hZ rfl E438_443
    obtain ⟨_, _, ⟨T459, L459, k459, n459⟩, -, X459, ⟨Lc459, hQ459, l459, y459, z459⟩, st459⟩ := X438.virtualBack hx (y := y10) (z := y10) hown (mvT hZ (ow hw 72 rfl)) (mvT hZ (ow hw 73 rfl)) (notFace_of_selects (args := #[]) (mvT hZ (ow hw 75 rfl))) (mvT hZ (ow hw 75 rfl)) (mvT hZ (ow hw 74 rfl)) (by decide) (backOf (W := 0) (rm10_3_1 l Z ar hw [] b380 cl _ _ _ _ _ _ _ _ _ T438.heap n0 O438 E438_443 F438_447 E438_444 F438_446 F438_450 Vz454 hscl) hZ (ow hw 76 rfl) (ow hw 4 rfl) (by decide) (by decide)) q459a q459c (g := (mkF m 207 #[iv p0, iv p1, iv p2, iv p3, iv p4, iv p5, iv (3 : Int32), iv c0, iv c1, iv d0, iv d1, iv na, iv sm, iv p4, iv fb, iv (1 : Int32), iv cl, rv b357, rv b365, rv b380, un, un, un, un, un, un, un, un] [(.int cl), (.int (1 : Int32)), (.ref b380)])) rfl (by rw [hml]; rfl) (Steps.refl _) (argsL := [(.int (1 : Int32)), (.int cl)]) (rest := []) (lenOf pd_7 rfl) rfl (by show 2 * 0 + _ ≤ _; exact Nat.le_of_eq rfl) (hb hby at_207) (fun _ _ => ⟨rfl, rfl, (by decide : 8 + 0 ≤ _), (by decide : 46 + 0 ≤ _)⟩)
    dsimp only [Pt.U, Pt.locs, Pt.cells, Pt.slots] at X459 l459 y459 z459 st459 hQ459
    subst l459 y459 z459
    obtain ⟨rfl, N459q, e459⟩ := hQ459
    have N459 := Fr.app N438 N459q
    have hSp : Sp na sm c1 d1 cl (sJ3 cl (pJ d1 (0 : Int32) (1 : Int64) (0 : Int64)) (pJ d1 (1 : Int32) (1 : Int64) (0 : Int64)) (pJ d1 (2 : Int32) (1 : Int64) (0 : Int64))) := by rw [own_selJ3 hsd1 hscl, own_s0J3, hna]; exact own_Sp0
    have pre460 : ∀ tg, AT p e below T459 m 212 #[iv p0, iv p1, iv p2, iv p3, iv p4, iv p5, iv (3 : Int32), iv c0, iv c1, iv d0, iv d1, iv na, iv sm, iv p4, iv fb, iv (1 : Int32), iv cl, rv b357, rv b365, rv b380, jv (sJ3 cl (pJ d1 (0 : Int32) (1 : Int64) (0 : Int64)) (pJ d1 (1 : Int32) (1 : Int64) (0 : Int64)) (pJ d1 (2 : Int32) (1 : Int64) (0 : Int64))), se, un, un, un, un, un, un] [] tg → Steps p.tables e below S0 tg := fun tg kg => pre456 tg (by
     refine XS.aload X438.here hx rfl (hb hby at_201) rfl rfl ?_
     refine XS.iload X438.here hx rfl (hb hby at_203) rfl ?_
     refine XS.iload X438.here hx rfl (hb hby at_205) rfl ?_
     refine st459.trans ?_
     refine XS.lstore X459.here hx rfl (hb hby at_210) rfl (l' := #[iv p0, iv p1, iv p2, iv p3, iv p4, iv p5, iv (3 : Int32), iv c0, iv c1, iv d0, iv d1, iv na, iv sm, iv p4, iv fb, iv (1 : Int32), iv cl, rv b357, rv b365, rv b380, jv (sJ3 cl (pJ d1 (0 : Int32) (1 : Int64) (0 : Int64)) (pJ d1 (1 : Int32) (1 : Int64) (0 : Int64)) (pJ d1 (2 : Int32) (1 : Int64) (0 : Int64))), se, un, un, un, un, un, un]) rfl ?_
     exact kg)
    exact tail_r1 _ _ _ _ _ (own_mono X459 (by decide) (by decide)) e459 N459 K438 O438 hS hk hZ hown CR438 _ _ _ _ _ _ _ _ _ _ _ _ _ _ hSp pre460
  ·
   obtain ⟨cq461, kq461, q461a, q461b, q461c⟩ := isOf hZ rfl E417_422
   obtain ⟨_, _, ⟨T461, L461, k461, n461⟩, -, X461, ⟨Lc461, hQ461, l461, y461, z461⟩, st461⟩ := X417.virtualBack hx (y := y8) (z := y8) hown (mvT hZ (ow hw 62 rfl)) (mvT hZ (ow hw 63 rfl)) (notFace_of_selects (args := #[]) (mvT hZ (ow hw 65 rfl))) (mvT hZ (ow hw 65 rfl)) (mvT hZ (ow hw 64 rfl)) (by decide) (backOf (W := 0) (rm8_3 l Z ar hw [] b380 b357 p4 _ _ _ _ _ _ _ _ _ _ _ _ _ _ _ _ _ _ _ _ T417.heap n0 O417 HW E417_422 u417_1 E417_423 F417_425 u417_3 u417_4 u417_2 E417_419 V417_418 u417_9 u417_10 u417_5 u417_6 gn426 gn431 ne427 hsc0 hsc1) hZ (ow hw 66 rfl) (ow hw 4 rfl) (by decide) (by decide)) q461a q461c (g := (mkF m 159 #[iv p0, iv p1, iv p2, iv p3, iv p4, iv p5, iv (3 : Int32), iv c0, iv c1, iv d0, iv d1, iv na, iv sm, iv p4, iv fb, iv (p3 &&& (1 : Int32)), iv cl, rv b357, rv b365, rv b380, un, un, un, un, un, un, un, un] [(.int p4), (.ref b357), (.ref b380)])) rfl (by rw [hml]; rfl) (Steps.refl _) (argsL := [(.ref b357), (.int p4)]) (rest := []) (lenOf pd_6 rfl) rfl (by show 2 * 0 + _ ≤ _; exact Nat.le_of_eq rfl) (hb hby at_159) (fun _ _ => ⟨rfl, rfl, (by decide : 8 + 0 ≤ _), (by decide : 46 + 0 ≤ _)⟩)
   dsimp only [Pt.U, Pt.locs, Pt.cells, Pt.slots] at X461 l461 y461 z461 st461 hQ461
   subst l461 y461 z461
   obtain ⟨rfl, N461q, Kq461, u461_0, u461_1⟩ := hQ461
   have N461 := Fr.app N417 N461q
   have V461_462 := V417_418.keep Kq461 (ninS ne427 (ninS ne432 nin0))
   have E461_463 := E417_419.keep Kq461
   have V461_464 := V417_420.keep Kq461 (ninS ne428 (ninS ne433 nin0))
   have E461_465 := E417_421.keep Kq461
   have E461_466 := E417_422.keep Kq461
   have E461_467 := E417_423.keep Kq461
   have F461_468 := F417_424.keep Kq461 (ninS ne430 (ninS ne435 nin0))
   have F461_469 := F417_425.keep Kq461 (ninS ne430 (ninS ne435 nin0))
   have F461_470 := u417_1.keep Kq461 (ninS ne429 (ninS ne434 nin0))
   have F461_471 := u417_2.keep Kq461 (ninS ne429 (ninS ne434 nin0))
   have F461_472 := u417_3.keep Kq461 (ninS ne429 (ninS ne434 nin0))
   have F461_473 := u417_4.keep Kq461 (ninS ne429 (ninS ne434 nin0))
   have E461_474 := u417_9.keep Kq461
   have E461_475 := u417_10.keep Kq461
   have K461 := K417.trans Kq461 (allS (Or.inr sz426) (allS (Or.inr sz431) all0))
   have O461 := O417.keep Kq461 (allS gn426 (allS gn431 all0))
   have CR461 : CHr Z EL0 s.vm h0 T417.vm T461.heap := CR417.trans (CHr.keep Kq461 (allS own_sf0 (allS own_sf0 all0)) CR417.1)
   have hk := Nat.le_trans hk Kq461.1
   have Vz476 : Arv Z T461.heap fa_417 kf_417 .int (6 : Int32) [(.int (pI c0 (0 : Int32) p4 (0 : Int32))), (.int (pI c0 (1 : Int32) p4 (0 : Int32))), (.int (pI c0 (2 : Int32) p4 (0 : Int32))), (.int (pI c1 (0 : Int32) p4 (0 : Int32))), (.int (pI c1 (1 : Int32) p4 (0 : Int32))), (.int (pI c1 (2 : Int32) p4 (0 : Int32)))] (.int (0 : Int32)) := by have q := u461_0; simp only [own_nc0_3, own_nf0_3] at q; exact q
   have Vz477 : Arv Z T461.heap ca_417 kc_417 .long (6 : Int32) [(.long (pJ c0 (0 : Int32) (1 : Int64) (0 : Int64))), (.long (pJ c0 (1 : Int32) (1 : Int64) (0 : Int64))), (.long (pJ c0 (2 : Int32) (1 : Int64) (0 : Int64))), (.long (pJ c1 (0 : Int32) (1 : Int64) (0 : Int64))), (.long (pJ c1 (1 : Int32) (1 : Int64) (0 : Int64))), (.long (pJ c1 (2 : Int32) (1 : Int64) (0 : Int64)))] (.long (0 : Int64)) := by have q := u461_1; simp only [own_nc0_3, own_nf0_3] at q; exact q
   have pre478 : ∀ tg, AT p e below T461 m 165 #[iv p0, iv p1, iv p2, iv p3, iv p4, iv p5, iv (3 : Int32), iv c0, iv c1, iv d0, iv d1, iv na, iv sm, iv p4, iv fb, iv (p3 &&& (1 : Int32)), iv cl, rv b357, rv b365, rv b380, un, un, un, un, un, un, un, un] [(.int (2 : Int32)), (.int na)] tg → Steps p.tables e below S0 tg := fun tg kg => pre436 tg (by
    refine XS.icmpNo X417.here hx rfl (hb hby at_150) rfl (XT.ii_lt_f hc437) ?_
    refine XS.aload X417.here hx rfl (hb hby at_153) rfl rfl ?_
    refine XS.aload X417.here hx rfl (hb hby at_155) rfl rfl ?_
    refine XS.iload X417.here hx rfl (hb hby at_157) rfl ?_
    refine st461.trans ?_
    refine XS.iload X461.here hx rfl (hb hby at_162) rfl ?_
    refine XS.iconst X461.here hx rfl (hb hby at_164) ?_
    exact kg)
   rcases Decidable.em (na < (2 : Int32)) with hc479 | hc479
   ·
    have hna : na = (1 : Int32) := own_na1 hsna hc437 hc479
    have pre480 : ∀ tg, AT p e below T461 m 192 #[iv p0, iv p1, iv p2, iv p3, iv p4, iv p5, iv (3 : Int32), iv c0, iv c1, iv d0, iv d1, iv na, iv sm, iv p4, iv fb, iv (p3 &&& (1 : Int32)), iv cl, rv b357, rv b365, rv b380, un, un, un, un, un, un, un, un] [] tg → Steps p.tables e below S0 tg := fun tg kg => pre478 tg (by
     refine XS.icmpYes X461.here hx rfl (pc0 := 165) (pc' := 177) rfl (hb hby at_165) rfl (XT.ii_lt_t hc479) (by decide) (by decide) ?_
     refine XS.iload X461.here hx rfl (hb hby at_177) rfl ?_
     show AT p e below T461 m 179 #[iv p0, iv p1, iv p2, iv p3, iv p4, iv p5, iv (3 : Int32), iv c0, iv c1, iv d0, iv d1, iv na, iv sm, iv p4, iv fb, iv (p3 &&& (1 : Int32)), iv cl, rv b357, rv b365, rv b380, un, un, un, un, un, un, un, un] [(.int na)] _
     refine XS.iconst X461.here hx rfl (hb hby at_179) ?_
     show AT p e below T461 m 180 #[iv p0, iv p1, iv p2, iv p3, iv p4, iv p5, iv (3 : Int32), iv c0, iv c1, iv d0, iv d1, iv na, iv sm, iv p4, iv fb, iv (p3 &&& (1 : Int32)), iv cl, rv b357, rv b365, rv b380, un, un, un, un, un, un, un, un] [(.int (3 : Int32)), (.int na)] _
     refine XS.icmpYes X461.here hx rfl (pc0 := 180) (pc' := 192) rfl (hb hby at_180) rfl (XT.ii_lt_t ((own_up hc479 (by decide)) : na < (3 : Int32))) (by decide) (by decide) ?_
     exact kg)
    exact tail_m3 _ _ _ _ _ (own_mono X461 (by decide) (by decide)) rfl N461 K461 O461 hS hk hZ hown CR461 _ _ _ _ _ _ _ _ _ _ _ _ _ _ _ _ _ _ E461_465 V461_464 E461_466 F461_470 F461_472 F461_473 F461_471 E461_467 F461_469 E461_474 E461_475 Vz476 Vz477 gn426 gn431 sz426 sz431 ne428 hsc0 hsc1 hsd0 hsd1 hscl hfbs (by rw [hna] <;> decide) (by rw [hna] <;> decide) pre480
   ·
    obtain ⟨cq481, kq481, q481a, q481b, q481c⟩ := isOf hZ rfl E461_466
    obtain ⟨_, _, ⟨T481, L481, k481, n481⟩, -, X481, ⟨Lc481, hQ481, l481, y481, z481⟩, st481⟩ := X461.virtualBack hx (y := y8) (z := y8) hown (mvT hZ (ow hw 62 rfl)) (mvT hZ (ow hw 63 rfl)) (notFace_of_selects (args := #[]) (mvT hZ (ow hw 65 rfl))) (mvT hZ (ow hw 65 rfl)) (mvT hZ (ow hw 64 rfl)) (by decide) (backOf (W := 0) (rm8_3 l Z ar hw [] b380 b357 p4 _ _ _ _ _ _ _ _ _ _ _ _ _ _ _ _ _ _ _ _ T461.heap n0 O461 HW E461_466 F461_470 E461_467 F461_469 F461_472 F461_473 F461_471 E461_463 V461_462 E461_474 E461_475 Vz476 Vz477 gn426 gn431 ne427 hsc0 hsc1) hZ (ow hw 66 rfl) (ow hw 4 rfl) (by decide) (by decide)) q481a q481c (g := (mkF m 174 #[iv p0, iv p1, iv p2, iv p3, iv p4, iv p5, iv (3 : Int32), iv c0, iv c1, iv d0, iv d1, iv na, iv sm, iv p4, iv fb, iv (p3 &&& (1 : Int32)), iv cl, rv b357, rv b365, rv b380, un, un, un, un, un, un, un, un] [(.int p4), (.ref b357), (.ref b380)])) rfl (by rw [hml]; rfl) (Steps.refl _) (argsL := [(.ref b357), (.int p4)]) (rest := []) (lenOf pd_6 rfl) rfl (by show 2 * 0 + _ ≤ _; exact Nat.le_of_eq rfl) (hb hby at_174) (fun _ _ => ⟨rfl, rfl, (by decide : 8 + 0 ≤ _), (by decide : 46 + 0 ≤ _)⟩)
    dsimp only [Pt.U, Pt.locs, Pt.cells, Pt.slots] at X481 l481 y481 z481 st481 hQ481
    subst l481 y481 z481
    obtain ⟨rfl, N481q, Kq481, u481_0, u481_1⟩ := hQ481
    have N481 := Fr.app N461 N481q
    have V481_482 := V461_462.keep Kq481 (ninS ne427 (ninS ne432 nin0))
    have E481_483 := E461_463.keep Kq481
    have V481_484 := V461_464.keep Kq481 (ninS ne428 (ninS ne433 nin0))
    have E481_485 := E461_465.keep Kq481
    have E481_486 := E461_466.keep Kq481
    have E481_487 := E461_467.keep Kq481
    have F481_488 := F461_468.keep Kq481 (ninS ne430 (ninS ne435 nin0))
    have F481_489 := F461_469.keep Kq481 (ninS ne430 (ninS ne435 nin0))
    have F481_490 := F461_470.keep Kq481 (ninS ne429 (ninS ne434 nin0))
    have F481_491 := F461_471.keep Kq481 (ninS ne429 (ninS ne434 nin0))
    have F481_492 := F461_472.keep Kq481 (ninS ne429 (ninS ne434 nin0))
    have F481_493 := F461_473.keep Kq481 (ninS ne429 (ninS ne434 nin0))
    have E481_494 := E461_474.keep Kq481
    have E481_495 := E461_475.keep Kq481
    have K481 := K461.trans Kq481 (allS (Or.inr sz426) (allS (Or.inr sz431) all0))
    have O481 := O461.keep Kq481 (allS gn426 (allS gn431 all0))
    have CR481 : CHr Z EL0 s.vm h0 T417.vm T481.heap := CR461.trans (CHr.keep Kq481 (allS own_sf0 (allS own_sf0 all0)) CR461.1)
    have hk := Nat.le_trans hk Kq481.1
    have Vz496 : Arv Z T481.heap fa_417 kf_417 .int (6 : Int32) [(.int (pI c0 (0 : Int32) p4 (0 : Int32))), (.int (pI c0 (1 : Int32) p4 (0 : Int32))), (.int (pI c0 (2 : Int32) p4 (0 : Int32))), (.int (pI c1 (0 : Int32) p4 (0 : Int32))), (.int (pI c1 (1 : Int32) p4 (0 : Int32))), (.int (pI c1 (2 : Int32) p4 (0 : Int32)))] (.int (0 : Int32)) := by have q := u481_0; rw [own_spJ3 hsc0, own_spI3 hsc0, own_spJ3 hsc1, own_spI3 hsc1] at q; simp only [own_ncf, own_nff, own_ppJ, own_ppI] at q; exact q
    have Vz497 : Arv Z T481.heap ca_417 kc_417 .long (6 : Int32) [(.long (pJ c0 (0 : Int32) (2 : Int64) (0 : Int64))), (.long (pJ c0 (1 : Int32) (2 : Int64) (0 : Int64))), (.long (pJ c0 (2 : Int32) (2 : Int64) (0 : Int64))), (.long (pJ c1 (0 : Int32) (2 : Int64) (0 : Int64))), (.long (pJ c1 (1 : Int32) (2 : Int64) (0 : Int64))), (.long (pJ c1 (2 : Int32) (2 : Int64) (0 : Int64)))] (.long (0 : Int64)) := by have q := u481_1; rw [own_spJ3 hsc0, own_spI3 hsc0, own_spJ3 hsc1, own_spI3 hsc1] at q; simp only [own_ncf, own_nff, own_ppJ, own_ppI, show (1 : Int64) + (1 : Int64) = (2 : Int64) from by decide] at q; exact q
    have pre498 : ∀ tg, AT p e below T481 m 180 #[iv p0, iv p1, iv p2, iv p3, iv p4, iv p5, iv (3 : Int32), iv c0, iv c1, iv d0, iv d1, iv na, iv sm, iv p4, iv fb, iv (p3 &&& (1 : Int32)), iv cl, rv b357, rv b365, rv b380, un, un, un, un, un, un, un, un] [(.int (3 : Int32)), (.int na)] tg → Steps p.tables e below S0 tg := fun tg kg => pre478 tg (by
     refine XS.icmpNo X461.here hx rfl (hb hby at_165) rfl (XT.ii_lt_f hc479) ?_
     refine XS.aload X461.here hx rfl (hb hby at_168) rfl rfl ?_
     show AT p e below T461 m 170 #[iv p0, iv p1, iv p2, iv p3, iv p4, iv p5, iv (3 : Int32), iv c0, iv c1, iv d0, iv d1, iv na, iv sm, iv p4, iv fb, iv (p3 &&& (1 : Int32)), iv cl, rv b357, rv b365, rv b380, un, un, un, un, un, un, un, un] [(.ref b380)] _
     refine XS.aload X461.here hx rfl (hb hby at_170) rfl rfl ?_
     refine XS.iload X461.here hx rfl (hb hby at_172) rfl ?_
     refine st481.trans ?_
     refine XS.iload X481.here hx rfl (hb hby at_177) rfl ?_
     refine XS.iconst X481.here hx rfl (hb hby at_179) ?_
     exact kg)
    rcases Decidable.em (na < (3 : Int32)) with hc499 | hc499
    ·
     have hna : na = (2 : Int32) := own_na2 hsna hc479 hc499
     have pre500 : ∀ tg, AT p e below T481 m 192 #[iv p0, iv p1, iv p2, iv p3, iv p4, iv p5, iv (3 : Int32), iv c0, iv c1, iv d0, iv d1, iv na, iv sm, iv p4, iv fb, iv (p3 &&& (1 : Int32)), iv cl, rv b357, rv b365, rv b380, un, un, un, un, un, un, un, un] [] tg → Steps p.tables e below S0 tg := fun tg kg => pre498 tg (by
      refine XS.icmpYes X481.here hx rfl (pc0 := 180) (pc' := 192) rfl (hb hby at_180) rfl (XT.ii_lt_t hc499) (by decide) (by decide) ?_
      exact kg)
     exact tail_m3 _ _ _ _ _ (own_mono X481 (by decide) (by decide)) rfl N481 K481 O481 hS hk hZ hown CR481 _ _ _ _ _ _ _ _ _ _ _ _ _ _ _ _ _ _ E481_485 V481_484 E481_486 F481_490 F481_492 F481_493 F481_491 E481_487 F481_489 E481_494 E481_495 Vz496 Vz497 gn426 gn431 sz426 sz431 ne428 hsc0 hsc1 hsd0 hsd1 hscl hfbs (by rw [hna] <;> decide) (by rw [hna] <;> decide) pre500
    ·
     obtain ⟨cq501, kq501, q501a, q501b, q501c⟩ := isOf hZ rfl E481_486
     obtain ⟨_, _, ⟨T501, L501, k501, n501⟩, -, X501, ⟨Lc501, hQ501, l501, y501, z501⟩, st501⟩ := X481.virtualBack hx (y := y8) (z := y8) hown (mvT hZ (ow hw 62 rfl)) (mvT hZ (ow hw 63 rfl)) (notFace_of_selects (args := #[]) (mvT hZ (ow hw 65 rfl))) (mvT hZ (ow hw 65 rfl)) (mvT hZ (ow hw 64 rfl)) (by decide) (backOf (W := 0) (rm8_3 l Z ar hw [] b380 b357 p4 _ _ _ _ _ _ _ _ _ _ _ _ _ _ _ _ _ _ _ _ T481.heap n0 O481 HW E481_486 F481_490 E481_487 F481_489 F481_492 F481_493 F481_491 E481_483 V481_482 E481_494 E481_495 Vz496 Vz497 gn426 gn431 ne427 hsc0 hsc1) hZ (ow hw 66 rfl) (ow hw 4 rfl) (by decide) (by decide)) q501a q501c (g := (mkF m 189 #[iv p0, iv p1, iv p2, iv p3, iv p4, iv p5, iv (3 : Int32), iv c0, iv c1, iv d0, iv d1, iv na, iv sm, iv p4, iv fb, iv (p3 &&& (1 : Int32)), iv cl, rv b357, rv b365, rv b380, un, un, un, un, un, un, un, un] [(.int p4), (.ref b357), (.ref b380)])) rfl (by rw [hml]; rfl) (Steps.refl _) (argsL := [(.ref b357), (.int p4)]) (rest := []) (lenOf pd_6 rfl) rfl (by show 2 * 0 + _ ≤ _; exact Nat.le_of_eq rfl) (hb hby at_189) (fun _ _ => ⟨rfl, rfl, (by decide : 8 + 0 ≤ _), (by decide : 46 + 0 ≤ _)⟩)
     dsimp only [Pt.U, Pt.locs, Pt.cells, Pt.slots] at X501 l501 y501 z501 st501 hQ501
     subst l501 y501 z501
     obtain ⟨rfl, N501q, Kq501, u501_0, u501_1⟩ := hQ501
     have N501 := Fr.app N481 N501q
     have V501_502 := V481_482.keep Kq501 (ninS ne427 (ninS ne432 nin0))
     have E501_503 := E481_483.keep Kq501
     have V501_504 := V481_484.keep Kq501 (ninS ne428 (ninS ne433 nin0))
     have E501_505 := E481_485.keep Kq501
     have E501_506 := E481_486.keep Kq501
     have E501_507 := E481_487.keep Kq501
     have F501_508 := F481_488.keep Kq501 (ninS ne430 (ninS ne435 nin0))
     have F501_509 := F481_489.keep Kq501 (ninS ne430 (ninS ne435 nin0))
     have F501_510 := F481_490.keep Kq501 (ninS ne429 (ninS ne434 nin0))
     have F501_511 := F481_491.keep Kq501 (ninS ne429 (ninS ne434 nin0))
     have F501_512 := F481_492.keep Kq501 (ninS ne429 (ninS ne434 nin0))
     have F501_513 := F481_493.keep Kq501 (ninS ne429 (ninS ne434 nin0))
     have E501_514 := E481_494.keep Kq501
     have E501_515 := E481_495.keep Kq501
     have K501 := K481.trans Kq501 (allS (Or.inr sz426) (allS (Or.inr sz431) all0))
     have O501 := O481.keep Kq501 (allS gn426 (allS gn431 all0))
     have CR501 : CHr Z EL0 s.vm h0 T417.vm T501.heap := CR481.trans (CHr.keep Kq501 (allS own_sf0 (allS own_sf0 all0)) CR481.1)
     have hk := Nat.le_trans hk Kq501.1
     have Vz516 : Arv Z T501.heap fa_417 kf_417 .int (6 : Int32) [(.int (pI c0 (0 : Int32) p4 (0 : Int32))), (.int (pI c0 (1 : Int32) p4 (0 : Int32))), (.int (pI c0 (2 : Int32) p4 (0 : Int32))), (.int (pI c1 (0 : Int32) p4 (0 : Int32))), (.int (pI c1 (1 : Int32) p4 (0 : Int32))), (.int (pI c1 (2 : Int32) p4 (0 : Int32)))] (.int (0 : Int32)) := by have q := u501_0; rw [own_spJ3 hsc0, own_spI3 hsc0, own_spJ3 hsc1, own_spI3 hsc1] at q; simp only [own_ncf, own_nff, own_ppJ, own_ppI] at q; exact q
     have Vz517 : Arv Z T501.heap ca_417 kc_417 .long (6 : Int32) [(.long (pJ c0 (0 : Int32) (3 : Int64) (0 : Int64))), (.long (pJ c0 (1 : Int32) (3 : Int64) (0 : Int64))), (.long (pJ c0 (2 : Int32) (3 : Int64) (0 : Int64))), (.long (pJ c1 (0 : Int32) (3 : Int64) (0 : Int64))), (.long (pJ c1 (1 : Int32) (3 : Int64) (0 : Int64))), (.long (pJ c1 (2 : Int32) (3 : Int64) (0 : Int64)))] (.long (0 : Int64)) := by have q := u501_1; rw [own_spJ3 hsc0, own_spI3 hsc0, own_spJ3 hsc1, own_spI3 hsc1] at q; simp only [own_ncf, own_nff, own_ppJ, own_ppI, show (2 : Int64) + (1 : Int64) = (3 : Int64) from by decide] at q; exact q
     have hna : na = (3 : Int32) := own_na3 hsna hc499
     have pre518 : ∀ tg, AT p e below T501 m 192 #[iv p0, iv p1, iv p2, iv p3, iv p4, iv p5, iv (3 : Int32), iv c0, iv c1, iv d0, iv d1, iv na, iv sm, iv p4, iv fb, iv (p3 &&& (1 : Int32)), iv cl, rv b357, rv b365, rv b380, un, un, un, un, un, un, un, un] [] tg → Steps p.tables e below S0 tg := fun tg kg => pre498 tg (by
      refine XS.icmpNo X481.here hx rfl (hb hby at_180) rfl (XT.ii_lt_f hc499) ?_
      refine XS.aload X481.here hx rfl (hb hby at_183) rfl rfl ?_
      refine XS.aload X481.here hx rfl (hb hby at_185) rfl rfl ?_
      refine XS.iload X481.here hx rfl (hb hby at_187) rfl ?_
      refine st501.trans ?_
      exact kg)
     exact tail_m3 _ _ _ _ _ (own_mono X501 (by decide) (by decide)) rfl N501 K501 O501 hS hk hZ hown CR501 _ _ _ _ _ _ _ _ _ _ _ _ _ _ _ _ _ _ E501_505 V501_504 E501_506 F501_510 F501_512 F501_513 F501_511 E501_507 F501_509 E501_514 E501_515 Vz516 Vz517 gn426 gn431 sz426 sz431 ne428 hsc0 hsc1 hsd0 hsd1 hscl hfbs (by rw [hna] <;> decide) (by rw [hna] <;> decide) pre518
 ·
  have pre519 : ∀ tg, AT p e below s₁ m 49 #[iv p0, iv p1, iv p2, iv p3, iv p4, iv p5, iv (4 : Int32), iv ((p1 &&& (2147483647 : Int32)) % (4 : Int32)), iv (((p1.toUInt32 >>> ((16 : Int32) &&& 31).toUInt32).toInt32) % (4 : Int32)), iv ((p2 &&& (2147483647 : Int32)) % (4 : Int32)), iv (((p2.toUInt32 >>> ((16 : Int32) &&& 31).toUInt32).toInt32) % (4 : Int32)), iv (p5 &&& (3 : Int32)), un, un, un, un, un, un, un, un, un, un, un, un, un, un, un, un] [] tg → Steps p.tables e below S0 tg := fun tg kg => pre2 tg (by
   refine XS.iloadN X0.here hx rfl (hb hby at_7) rfl ?_
   refine X0.ldcInt hx hown (mvT hZ (ow hw 0 rfl)) (g := (mkF m 8 #[iv p0, iv p1, iv p2, iv p3, iv p4, iv p5, iv (4 : Int32), un, un, un, un, un, un, un, un, un, un, un, un, un, un, un, un, un, un, un, un, un] [(.int p1)])) rfl (hb hby at_8) _ ?_
   refine XS.iand X0.here hx rfl (hb hby at_10) rfl ?_
   refine XS.iload X0.here hx rfl (hb hby at_11) rfl ?_
   refine iremM X0 hx rfl (hb hby at_13) rfl (by decide) ?_
   refine XS.istore X0.here hx rfl (hb hby at_14) rfl (l' := #[iv p0, iv p1, iv p2, iv p3, iv p4, iv p5, iv (4 : Int32), iv ((p1 &&& (2147483647 : Int32)) % (4 : Int32)), un, un, un, un, un, un, un, un, un, un, un, un, un, un, un, un, un, un, un, un]) rfl ?_
   refine XS.iloadN X0.here hx rfl (hb hby at_16) rfl ?_
   refine XS.bipush X0.here hx rfl (hb hby at_17) ?_
   refine XS.iushr X0.here hx rfl (hb hby at_19) rfl ?_
   refine XS.iload X0.here hx rfl (hb hby at_20) rfl ?_
   refine iremM X0 hx rfl (hb hby at_22) rfl (by decide) ?_
   refine XS.istore X0.here hx rfl (hb hby at_23) rfl (l' := #[iv p0, iv p1, iv p2, iv p3, iv p4, iv p5, iv (4 : Int32), iv ((p1 &&& (2147483647 : Int32)) % (4 : Int32)), iv (((p1.toUInt32 >>> ((16 : Int32) &&& 31).toUInt32).toInt32) % (4 : Int32)), un, un, un, un, un, un, un, un, un, un, un, un, un, un, un, un, un, un, un]) rfl ?_
   refine XS.iloadN X0.here hx rfl (hb hby at_25) rfl ?_
   refine X0.ldcInt hx hown (mvT hZ (ow hw 0 rfl)) (g := (mkF m 26 #[iv p0, iv p1, iv p2, iv p3, iv p4, iv p5, iv (4 : Int32), iv ((p1 &&& (2147483647 : Int32)) % (4 : Int32)), iv (((p1.toUInt32 >>> ((16 : Int32) &&& 31).toUInt32).toInt32) % (4 : Int32)), un, un, un, un, un, un, un, un, un, un, un, un, un, un, un, un, un, un, un] [(.int p2)])) rfl (hb hby at_26) _ ?_
   refine XS.iand X0.here hx rfl (hb hby at_28) rfl ?_
   refine XS.iload X0.here hx rfl (hb hby at_29) rfl ?_
   refine iremM X0 hx rfl (hb hby at_31) rfl (by decide) ?_
   refine XS.istore X0.here hx rfl (hb hby at_32) rfl (l' := #[iv p0, iv p1, iv p2, iv p3, iv p4, iv p5, iv (4 : Int32), iv ((p1 &&& (2147483647 : Int32)) % (4 : Int32)), iv (((p1.toUInt32 >>> ((16 : Int32) &&& 31).toUInt32).toInt32) % (4 : Int32)), iv ((p2 &&& (2147483647 : Int32)) % (4 : Int32)), un, un, un, un, un, un, un, un, un, un, un, un, un, un, un, un, un, un]) rfl ?_
   refine XS.iloadN X0.here hx rfl (hb hby at_34) rfl ?_
   refine XS.bipush X0.here hx rfl (hb hby at_35) ?_
   refine XS.iushr X0.here hx rfl (hb hby at_37) rfl ?_
   refine XS.iload X0.here hx rfl (hb hby at_38) rfl ?_
   refine iremM X0 hx rfl (hb hby at_40) rfl (by decide) ?_
   refine XS.istore X0.here hx rfl (hb hby at_41) rfl (l' := #[iv p0, iv p1, iv p2, iv p3, iv p4, iv p5, iv (4 : Int32), iv ((p1 &&& (2147483647 : Int32)) % (4 : Int32)), iv (((p1.toUInt32 >>> ((16 : Int32) &&& 31).toUInt32).toInt32) % (4 : Int32)), iv ((p2 &&& (2147483647 : Int32)) % (4 : Int32)), iv (((p2.toUInt32 >>> ((16 : Int32) &&& 31).toUInt32).toInt32) % (4 : Int32)), un, un, un, un, un, un, un, un, un, un, un, un, un, un, un, un, un]) rfl ?_
   refine XS.iload X0.here hx rfl (hb hby at_43) rfl ?_
   refine XS.iconst X0.here hx rfl (hb hby at_45) ?_
   refine XS.iand X0.here hx rfl (hb hby at_46) rfl ?_
   refine XS.istore X0.here hx rfl (hb hby at_47) rfl (l' := #[iv p0, iv p1, iv p2, iv p3, iv p4, iv p5, iv (4 : Int32), iv ((p1 &&& (2147483647 : Int32)) % (4 : Int32)), iv (((p1.toUInt32 >>> ((16 : Int32) &&& 31).toUInt32).toInt32) % (4 : Int32)), iv ((p2 &&& (2147483647 : Int32)) % (4 : Int32)), iv (((p2.toUInt32 >>> ((16 : Int32) &&& 31).toUInt32).toInt32) % (4 : Int32)), iv (p5 &&& (3 : Int32)), un, un, un, un, un, un, un, un, un, un, un, un, un, un, un, un]) rfl ?_
   exact kg)
  obtain ⟨c0, hc0⟩ : ∃ z, z = ((p1 &&& (2147483647 : Int32)) % (4 : Int32)) := ⟨_, rfl⟩
  obtain ⟨c1, hc1⟩ : ∃ z, z = (((p1.toUInt32 >>> ((16 : Int32) &&& 31).toUInt32).toInt32) % (4 : Int32)) := ⟨_, rfl⟩
  obtain ⟨d0, hd0⟩ : ∃ z, z = ((p2 &&& (2147483647 : Int32)) % (4 : Int32)) := ⟨_, rfl⟩
  obtain ⟨d1, hd1⟩ : ∃ z, z = (((p2.toUInt32 >>> ((16 : Int32) &&& 31).toUInt32).toInt32) % (4 : Int32)) := ⟨_, rfl⟩
  obtain ⟨na, hna⟩ : ∃ z, z = (p5 &&& (3 : Int32)) := ⟨_, rfl⟩
  have pre520 : ∀ tg, AT p e below s₁ m 49 #[iv p0, iv p1, iv p2, iv p3, iv p4, iv p5, iv (4 : Int32), iv c0, iv c1, iv d0, iv d1, iv na, un, un, un, un, un, un, un, un, un, un, un, un, un, un, un, un] [] tg → Steps p.tables e below S0 tg := by rw [hc0, hc1, hd0, hd1, hna]; exact pre519
  have hsc0 : c0 = (0 : Int32) ∨ c0 = (1 : Int32) ∨ c0 = (2 : Int32) ∨ c0 = (3 : Int32) := by rw [hc0]; exact own_m4 p1
  have hsc1 : c1 = (0 : Int32) ∨ c1 = (1 : Int32) ∨ c1 = (2 : Int32) ∨ c1 = (3 : Int32) := by rw [hc1]; exact own_u16_4 p1
  have hsd0 : d0 = (0 : Int32) ∨ d0 = (1 : Int32) ∨ d0 = (2 : Int32) ∨ d0 = (3 : Int32) := by rw [hd0]; exact own_m4 p2
  have hsd1 : d1 = (0 : Int32) ∨ d1 = (1 : Int32) ∨ d1 = (2 : Int32) ∨ d1 = (3 : Int32) := by rw [hd1]; exact own_u16_4 p2
  have hsna : na = (0 : Int32) ∨ na = (1 : Int32) ∨ na = (2 : Int32) ∨ na = (3 : Int32) := by rw [hna]; exact own_n3 p5
  have pre521 : ∀ tg, AT p e below s₁ m 55 #[iv p0, iv p1, iv p2, iv p3, iv p4, iv p5, iv (4 : Int32), iv c0, iv c1, iv d0, iv d1, iv na, un, un, un, un, un, un, un, un, un, un, un, un, un, un, un, un] [(.int (((p5.toUInt32 >>> ((2 : Int32) &&& 31).toUInt32).toInt32) &&& (1 : Int32)))] tg → Steps p.tables e below S0 tg := fun tg kg => pre520 tg (by
   refine XS.iload X0.here hx rfl (hb hby at_49) rfl ?_
   refine XS.iconst X0.here hx rfl (hb hby at_51) ?_
   refine XS.iushr X0.here hx rfl (hb hby at_52) rfl ?_
   refine XS.iconst X0.here hx rfl (hb hby at_53) ?_
   refine XS.iand X0.here hx rfl (hb hby at_54) rfl ?_
   exact kg)
  have pre522 : ∀ tg, AT p e below s₁ m 63 #[iv p0, iv p1, iv p2, iv p3, iv p4, iv p5, iv (4 : Int32), iv c0, iv c1, iv d0, iv d1, iv na, un, un, un, un, un, un, un, un, un, un, un, un, un, un, un, un] [(.int (if (((p5.toUInt32 >>> ((2 : Int32) &&& 31).toUInt32).toInt32) &&& (1 : Int32)) = (0 : Int32) then (1 : Int32) else (0 : Int32)))] tg → Steps p.tables e below S0 tg := by
   intro tg kg
   rcases Decidable.em ((((p5.toUInt32 >>> ((2 : Int32) &&& 31).toUInt32).toInt32) &&& (1 : Int32)) = (0 : Int32)) with hd | hd
   ·
    simp only [if_pos hd] at kg
    exact pre521 tg (by
     refine XS.ifNo X0.here hx rfl (hb hby at_55) rfl (XT.i0_ne_f hd) ?_
     refine XS.iconst X0.here hx rfl (hb hby at_58) ?_
     refine XS.goto X0.here hx rfl (pc0 := 59) (pc' := 63) rfl (hb hby at_59) (by decide) (by decide) ?_
     exact kg)
   ·
    simp only [if_neg hd] at kg
    exact pre521 tg (by
     refine XS.ifYes X0.here hx rfl (pc0 := 55) (pc' := 62) rfl (hb hby at_55) rfl (XT.i0_ne_t hd) (by decide) (by decide) ?_
     refine XS.iconst X0.here hx rfl (hb hby at_62) ?_
     exact kg)
  have pre523 : ∀ tg, AT p e below s₁ m 65 #[iv p0, iv p1, iv p2, iv p3, iv p4, iv p5, iv (4 : Int32), iv c0, iv c1, iv d0, iv d1, iv na, iv (if (((p5.toUInt32 >>> ((2 : Int32) &&& 31).toUInt32).toInt32) &&& (1 : Int32)) = (0 : Int32) then (1 : Int32) else (0 : Int32)), un, un, un, un, un, un, un, un, un, un, un, un, un, un, un] [] tg → Steps p.tables e below S0 tg := fun tg kg => pre522 tg (by
   refine XS.istore X0.here hx rfl (hb hby at_63) rfl (l' := #[iv p0, iv p1, iv p2, iv p3, iv p4, iv p5, iv (4 : Int32), iv c0, iv c1, iv d0, iv d1, iv na, iv (if (((p5.toUInt32 >>> ((2 : Int32) &&& 31).toUInt32).toInt32) &&& (1 : Int32)) = (0 : Int32) then (1 : Int32) else (0 : Int32)), un, un, un, un, un, un, un, un, un, un, un, un, un, un, un]) rfl ?_
   exact kg)
  obtain ⟨sm, hsm⟩ : ∃ z, z = (if (((p5.toUInt32 >>> ((2 : Int32) &&& 31).toUInt32).toInt32) &&& (1 : Int32)) = (0 : Int32) then (1 : Int32) else (0 : Int32)) := ⟨_, rfl⟩
  have pre524 : ∀ tg, AT p e below s₁ m 65 #[iv p0, iv p1, iv p2, iv p3, iv p4, iv p5, iv (4 : Int32), iv c0, iv c1, iv d0, iv d1, iv na, iv sm, un, un, un, un, un, un, un, un, un, un, un, un, un, un, un] [] tg → Steps p.tables e below S0 tg := by rw [hsm]; exact pre523
  have pre525 : ∀ tg, AT p e below s₁ m 71 #[iv p0, iv p1, iv p2, iv p3, iv p4, iv p5, iv (4 : Int32), iv c0, iv c1, iv d0, iv d1, iv na, iv sm, iv p4, un, un, un, un, un, un, un, un, un, un, un, un, un, un] [(.int sm)] tg → Steps p.tables e below S0 tg := fun tg kg => pre524 tg (by
   refine XS.iload X0.here hx rfl (hb hby at_65) rfl ?_
   refine XS.istore X0.here hx rfl (hb hby at_67) rfl (l' := #[iv p0, iv p1, iv p2, iv p3, iv p4, iv p5, iv (4 : Int32), iv c0, iv c1, iv d0, iv d1, iv na, iv sm, iv p4, un, un, un, un, un, un, un, un, un, un, un, un, un, un]) rfl ?_
   refine XS.iload X0.here hx rfl (hb hby at_69) rfl ?_
   exact kg)
  have pre526 : ∀ tg, AT p e below s₁ m 83 #[iv p0, iv p1, iv p2, iv p3, iv p4, iv p5, iv (4 : Int32), iv c0, iv c1, iv d0, iv d1, iv na, iv sm, iv p4, un, un, un, un, un, un, un, un, un, un, un, un, un, un] [(.int (if sm = (0 : Int32) then (p4 + (1 : Int32)) else p4))] tg → Steps p.tables e below S0 tg := by
   intro tg kg
   rcases Decidable.em (sm = (0 : Int32)) with hd | hd
   ·
    simp only [if_pos hd] at kg
    exact pre525 tg (by
     refine XS.ifYes X0.here hx rfl (pc0 := 71) (pc' := 79) rfl (hb hby at_71) rfl (XT.i0_eq_t hd) (by decide) (by decide) ?_
     refine XS.iload X0.here hx rfl (hb hby at_79) rfl ?_
     refine XS.iconst X0.here hx rfl (hb hby at_81) ?_
     refine XS.iadd X0.here hx rfl (hb hby at_82) rfl ?_
     exact kg)
   ·
    simp only [if_neg hd] at kg
    exact pre525 tg (by
     refine XS.ifNo X0.here hx rfl (hb hby at_71) rfl (XT.i0_eq_f hd) ?_
     refine XS.iload X0.here hx rfl (hb hby at_74) rfl ?_
     refine XS.goto X0.here hx rfl (pc0 := 76) (pc' := 83) rfl (hb hby at_76) (by decide) (by decide) ?_
     exact kg)
  have pre527 : ∀ tg, AT p e below s₁ m 98 #[iv p0, iv p1, iv p2, iv p3, iv p4, iv p5, iv (4 : Int32), iv c0, iv c1, iv d0, iv d1, iv na, iv sm, iv p4, iv (if sm = (0 : Int32) then (p4 + (1 : Int32)) else p4), iv (p3 &&& (1 : Int32)), iv (((p3.toUInt32 >>> ((1 : Int32) &&& 31).toUInt32).toInt32) % (4 : Int32)), un, un, un, un, un, un, un, un, un, un, un] [] tg → Steps p.tables e below S0 tg := fun tg kg => pre526 tg (by
   refine XS.istore X0.here hx rfl (hb hby at_83) rfl (l' := #[iv p0, iv p1, iv p2, iv p3, iv p4, iv p5, iv (4 : Int32), iv c0, iv c1, iv d0, iv d1, iv na, iv sm, iv p4, iv (if sm = (0 : Int32) then (p4 + (1 : Int32)) else p4), un, un, un, un, un, un, un, un, un, un, un, un, un]) rfl ?_
   refine XS.iloadN X0.here hx rfl (hb hby at_85) rfl ?_
   refine XS.iconst X0.here hx rfl (hb hby at_86) ?_
   refine XS.iand X0.here hx rfl (hb hby at_87) rfl ?_
   refine XS.istore X0.here hx rfl (hb hby at_88) rfl (l' := #[iv p0, iv p1, iv p2, iv p3, iv p4, iv p5, iv (4 : Int32), iv c0, iv c1, iv d0, iv d1, iv na, iv sm, iv p4, iv (if sm = (0 : Int32) then (p4 + (1 : Int32)) else p4), iv (p3 &&& (1 : Int32)), un, un, un, un, un, un, un, un, un, un, un, un]) rfl ?_
   refine XS.iloadN X0.here hx rfl (hb hby at_90) rfl ?_
   refine XS.iconst X0.here hx rfl (hb hby at_91) ?_
   refine XS.iushr X0.here hx rfl (hb hby at_92) rfl ?_
   refine XS.iload X0.here hx rfl (hb hby at_93) rfl ?_
   refine iremM X0 hx rfl (hb hby at_95) rfl (by decide) ?_
   refine XS.istore X0.here hx rfl (hb hby at_96) rfl (l' := #[iv p0, iv p1, iv p2, iv p3, iv p4, iv p5, iv (4 : Int32), iv c0, iv c1, iv d0, iv d1, iv na, iv sm, iv p4, iv (if sm = (0 : Int32) then (p4 + (1 : Int32)) else p4), iv (p3 &&& (1 : Int32)), iv (((p3.toUInt32 >>> ((1 : Int32) &&& 31).toUInt32).toInt32) % (4 : Int32)), un, un, un, un, un, un, un, un, un, un, un]) rfl ?_
   exact kg)
  obtain ⟨fb, hfb⟩ : ∃ z, z = (if sm = (0 : Int32) then (p4 + (1 : Int32)) else p4) := ⟨_, rfl⟩
  obtain ⟨cl, hcl⟩ : ∃ z, z = (((p3.toUInt32 >>> ((1 : Int32) &&& 31).toUInt32).toInt32) % (4 : Int32)) := ⟨_, rfl⟩
  have pre528 : ∀ tg, AT p e below s₁ m 98 #[iv p0, iv p1, iv p2, iv p3, iv p4, iv p5, iv (4 : Int32), iv c0, iv c1, iv d0, iv d1, iv na, iv sm, iv p4, iv fb, iv (p3 &&& (1 : Int32)), iv cl, un, un, un, un, un, un, un, un, un, un, un] [] tg → Steps p.tables e below S0 tg := by rw [hfb, hcl]; exact pre527
  have hfbs := own_fb hfb
  have hscl : cl = (0 : Int32) ∨ cl = (1 : Int32) ∨ cl = (2 : Int32) ∨ cl = (3 : Int32) := by rw [hcl]; exact own_u1_4 p3
  obtain ⟨T529, h529, k529, X529, e529, E529, A529, B529, st529⟩ := newPE X0 hx hZ (ow hw 1 rfl) e0 (g := (mkF m 99 #[iv p0, iv p1, iv p2, iv p3, iv p4, iv p5, iv (4 : Int32), iv c0, iv c1, iv d0, iv d1, iv na, iv sm, iv p4, iv fb, iv (p3 &&& (1 : Int32)), iv cl, un, un, un, un, un, un, un, un, un, un, un] [(.int (2 : Int32))])) rfl (hb hby at_99) rfl (by decide) (cap := 2) (by decide) (by decide) (by decide) (by decide) (ad := "[I") (by decide)
  obtain ⟨b529, g529⟩ : ∃ z, z = h0.size := ⟨_, rfl⟩
  rw [← g529] at A529 B529 st529
  have gn529 : n0 ≤ b529 := Nat.le_trans (Nat.le_trans (Nat.le_of_eq O0.1.symm) O0.2.1) (Nat.le_of_eq g529.symm)
  have sz529 : h0.size ≤ b529 := Nat.le_trans (Keep.refl h0 []).1 (Nat.le_of_eq g529.symm)
  have K529 := (Keep.refl h0 []).ext E529
  have O529 := O0.ext E529
  have CR529 : CHr Z EL0 s.vm h0 s.vm h529 := CR0.trans (CHr.ext E529 CR0.1)
  have hk := Nat.le_trans hk E529.1
  have V529_530 : Arv Z h529 b529 k529 .int (2 : Int32) [(.int (0 : Int32)), (.int (0 : Int32))] (.int (0 : Int32)) := (Arv.new A529 (by decide)).pad (pad_rep [] (.int (0 : Int32)) 2)
  obtain ⟨cl531, Ar531, q531, S531, M531, H531, G531⟩ := id V529_530
  have hin531 := own_in (0 : Int32) S531 ⟨by decide, by decide⟩
  obtain ⟨T531, h531, X531, e531, W531, st531⟩ := stI X529 hx hZ e529 Ar531 (j := (0 : Int32)) hin531 (g := (mkF m 105 #[iv p0, iv p1, iv p2, iv p3, iv p4, iv p5, iv (4 : Int32), iv c0, iv c1, iv d0, iv d1, iv na, iv sm, iv p4, iv fb, iv (p3 &&& (1 : Int32)), iv cl, un, un, un, un, un, un, un, un, un, un, un] [(.int c0), (.int (0 : Int32)), (.ref b529), (.ref b529)])) rfl rfl (hb hby at_105)
  have V531_532 : Arv Z h531 b529 k529 .int (2 : Int32) [(.int c0), (.int (0 : Int32))] (.int (0 : Int32)) := Arv.set Ar531 q531 S531 M531 H531 G531 rfl W531 0 rfl (Nat.le_of_ble_eq_true rfl)
  have E531_533 := B529.wr W531
  have K531 := K529.wr W531 (Or.inr sz529)
  have O531 := O529.wr W531 gn529
  have CR531 : CHr Z EL0 s.vm h0 s.vm h531 := CR529.trans (CHr.wr W531 own_sf0 CR529.1)
  have hk := Nat.le_trans hk (Keep.of_wr W531).1
  have N531 := Fr.snoc X531 N0 gn529
  obtain ⟨cl534, Ar534, q534, S534, M534, H534, G534⟩ := id V531_532
  have hin534 := own_in (1 : Int32) S534 ⟨by decide, by decide⟩
  obtain ⟨T534, h534, X534, e534, W534, st534⟩ := stI X531 hx hZ e531 Ar534 (j := (1 : Int32)) hin534 (g := (mkF m 110 #[iv p0, iv p1, iv p2, iv p3, iv p4, iv p5, iv (4 : Int32), iv c0, iv c1, iv d0, iv d1, iv na, iv sm, iv p4, iv fb, iv (p3 &&& (1 : Int32)), iv cl, un, un, un, un, un, un, un, un, un, un, un] [(.int c1), (.int (1 : Int32)), (.ref b529), (.ref b529)])) rfl rfl (hb hby at_110)
  have V534_535 : Arv Z h534 b529 k529 .int (2 : Int32) [(.int c0), (.int c1)] (.int (0 : Int32)) := Arv.set Ar534 q534 S534 M534 H534 G534 rfl W534 1 rfl (Nat.le_of_ble_eq_true rfl)
  have E534_536 := E531_533.wr W534
  have K534 := K531.wr W534 (Or.inr sz529)
  have O534 := O531.wr W534 gn529
  have CR534 : CHr Z EL0 s.vm h0 s.vm h534 := CR531.trans (CHr.wr W534 own_sf0 CR531.1)
  have hk := Nat.le_trans hk (Keep.of_wr W534).1
  have N534 := Fr.snoc X534 N531 gn529
  obtain ⟨T537, h537, k537, X537, e537, E537, A537, B537, st537⟩ := newPE X534 hx hZ (ow hw 1 rfl) e534 (g := (mkF m 114 #[iv p0, iv p1, iv p2, iv p3, iv p4, iv p5, iv (4 : Int32), iv c0, iv c1, iv d0, iv d1, iv na, iv sm, iv p4, iv fb, iv (p3 &&& (1 : Int32)), iv cl, rv b529, un, un, un, un, un, un, un, un, un, un] [(.int (2 : Int32))])) rfl (hb hby at_114) rfl (by decide) (cap := 2) (by decide) (by decide) (by decide) (by decide) (ad := "[I") (by decide)
  obtain ⟨b537, g537⟩ : ∃ z, z = h534.size := ⟨_, rfl⟩
  rw [← g537] at A537 B537 st537
  have ne537_538 : b529 ≠ b537 := Nat.ne_of_lt (Nat.lt_of_lt_of_le (V534_535).lt (Nat.le_of_eq g537.symm))
  have gn537 : n0 ≤ b537 := Nat.le_trans (Nat.le_trans (Nat.le_of_eq O534.1.symm) O534.2.1) (Nat.le_of_eq g537.symm)
  have sz537 : h0.size ≤ b537 := Nat.le_trans K534.1 (Nat.le_of_eq g537.symm)
  have V537_539 := V534_535.ext E537
  have E537_540 := E534_536.ext E537
  have K537 := K534.ext E537
  have O537 := O534.ext E537
  have CR537 : CHr Z EL0 s.vm h0 s.vm h537 := CR534.trans (CHr.ext E537 CR534.1)
  have hk := Nat.le_trans hk E537.1
  have V537_541 : Arv Z h537 b537 k537 .int (2 : Int32) [(.int (0 : Int32)), (.int (0 : Int32))] (.int (0 : Int32)) := (Arv.new A537 (by decide)).pad (pad_rep [] (.int (0 : Int32)) 2)
  obtain ⟨cl542, Ar542, q542, S542, M542, H542, G542⟩ := id V537_541
  have hin542 := own_in (0 : Int32) S542 ⟨by decide, by decide⟩
  obtain ⟨T542, h542, X542, e542, W542, st542⟩ := stI X537 hx hZ e537 Ar542 (j := (0 : Int32)) hin542 (g := (mkF m 120 #[iv p0, iv p1, iv p2, iv p3, iv p4, iv p5, iv (4 : Int32), iv c0, iv c1, iv d0, iv d1, iv na, iv sm, iv p4, iv fb, iv (p3 &&& (1 : Int32)), iv cl, rv b529, un, un, un, un, un, un, un, un, un, un] [(.int d0), (.int (0 : Int32)), (.ref b537), (.ref b537)])) rfl rfl (hb hby at_120)
  have V542_543 : Arv Z h542 b537 k537 .int (2 : Int32) [(.int d0), (.int (0 : Int32))] (.int (0 : Int32)) := Arv.set Ar542 q542 S542 M542 H542 G542 rfl W542 0 rfl (Nat.le_of_ble_eq_true rfl)
  have V542_544 := V537_539.other W542 ne537_538
  have E542_545 := E537_540.wr W542
  have E542_546 := B537.wr W542
  have K542 := K537.wr W542 (Or.inr sz537)
  have O542 := O537.wr W542 gn537
  have CR542 : CHr Z EL0 s.vm h0 s.vm h542 := CR537.trans (CHr.wr W542 own_sf0 CR537.1)
  have hk := Nat.le_trans hk (Keep.of_wr W542).1
  have N542 := Fr.snoc X542 N534 gn537
  obtain ⟨cl547, Ar547, q547, S547, M547, H547, G547⟩ := id V542_543
  have hin547 := own_in (1 : Int32) S547 ⟨by decide, by decide⟩
  obtain ⟨T547, h547, X547, e547, W547, st547⟩ := stI X542 hx hZ e542 Ar547 (j := (1 : Int32)) hin547 (g := (mkF m 125 #[iv p0, iv p1, iv p2, iv p3, iv p4, iv p5, iv (4 : Int32), iv c0, iv c1, iv d0, iv d1, iv na, iv sm, iv p4, iv fb, iv (p3 &&& (1 : Int32)), iv cl, rv b529, un, un, un, un, un, un, un, un, un, un] [(.int d1), (.int (1 : Int32)), (.ref b537), (.ref b537)])) rfl rfl (hb hby at_125)
  have V547_548 : Arv Z h547 b537 k537 .int (2 : Int32) [(.int d0), (.int d1)] (.int (0 : Int32)) := Arv.set Ar547 q547 S547 M547 H547 G547 rfl W547 1 rfl (Nat.le_of_ble_eq_true rfl)
  have V547_549 := V542_544.other W547 ne537_538
  have E547_550 := E542_545.wr W547
  have E547_551 := E542_546.wr W547
  have K547 := K542.wr W547 (Or.inr sz537)
  have O547 := O542.wr W547 gn537
  have CR547 : CHr Z EL0 s.vm h0 s.vm h547 := CR542.trans (CHr.wr W547 own_sf0 CR542.1)
  have hk := Nat.le_trans hk (Keep.of_wr W547).1
  have N547 := Fr.snoc X547 N542 gn537
  obtain ⟨T552, h552, X552, e552, E552, A552, D552, -, st552⟩ := newO X547 hx hZ hown (ow hw 2 rfl) (ow hw 3 rfl) (ow hw 4 rfl) e547 (g := (mkF m 128 #[iv p0, iv p1, iv p2, iv p3, iv p4, iv p5, iv (4 : Int32), iv c0, iv c1, iv d0, iv d1, iv na, iv sm, iv p4, iv fb, iv (p3 &&& (1 : Int32)), iv cl, rv b529, rv b537, un, un, un, un, un, un, un, un, un] [])) rfl (hb hby at_128) (by decide) (by decide)
  obtain ⟨b552, g552⟩ : ∃ z, z = h547.size := ⟨_, rfl⟩
  rw [← g552] at A552 D552 st552
  have ne552_553 : b529 ≠ b552 := Nat.ne_of_lt (Nat.lt_of_lt_of_le (V547_549).lt (Nat.le_of_eq g552.symm))
  have ne552_554 : b537 ≠ b552 := Nat.ne_of_lt (Nat.lt_of_lt_of_le (V547_548).lt (Nat.le_of_eq g552.symm))
  have gn552 : n0 ≤ b552 := Nat.le_trans (Nat.le_trans (Nat.le_of_eq O547.1.symm) O547.2.1) (Nat.le_of_eq g552.symm)
  have sz552 : h0.size ≤ b552 := Nat.le_trans K547.1 (Nat.le_of_eq g552.symm)
  have V552_555 := V547_549.ext E552
  have E552_556 := E547_550.ext E552
  have V552_557 := V547_548.ext E552
  have E552_558 := E547_551.ext E552
  have K552 := K547.ext E552
  have O552 := O547.ext E552
  have CR552 : CHr Z EL0 s.vm h0 s.vm h552 := CR547.trans (CHr.ext E552 CR547.1)
  have hk := Nat.le_trans hk E552.1
  have F552_559 : Fld Z h552 b552 "com/example/filters_under_siege/filtersundersiege/KeeperPairs" "shape" "Lcom/example/filters_under_siege/filtersundersiege/SketchShape;" .null := D552 (Or.inr (ow hw 49 rfl)) (ty := (.object "com/example/filters_under_siege/filtersundersiege/SketchShape")) (by decide)
  have F552_560 : Fld Z h552 b552 "com/example/filters_under_siege/filtersundersiege/KeeperPairs" "knocksDown" "Ljava/util/function/LongPredicate;" .null := D552 (Or.inr (ow hw 51 rfl)) (ty := (.object "java/util/function/LongPredicate")) (by decide)
  have F552_561 : Fld Z h552 b552 "com/example/filters_under_siege/filtersundersiege/KeeperPairs" "fingerprints" "[I" .null := D552 (Or.inr (ow hw 58 rfl)) (ty := (.array .int)) (by decide)
  have F552_562 : Fld Z h552 b552 "com/example/filters_under_siege/filtersundersiege/KeeperPairs" "counts" "[J" .null := D552 (Or.inr (ow hw 61 rfl)) (ty := (.array .long)) (by decide)
  obtain ⟨T563, h563, X563, e563, E563, A563, D563, -, st563⟩ := newO X552 hx hZ hown (ow hw 5 rfl) (ow hw 6 rfl) (ow hw 7 rfl) e552 (g := (mkF m 132 #[iv p0, iv p1, iv p2, iv p3, iv p4, iv p5, iv (4 : Int32), iv c0, iv c1, iv d0, iv d1, iv na, iv sm, iv p4, iv fb, iv (p3 &&& (1 : Int32)), iv cl, rv b529, rv b537, un, un, un, un, un, un, un, un, un] [(.ref b552), (.ref b552)])) rfl (hb hby at_132) (by decide) (by decide)
  obtain ⟨b563, g563⟩ : ∃ z, z = h552.size := ⟨_, rfl⟩
  rw [← g563] at A563 D563 st563
  have ne563_564 : b529 ≠ b563 := Nat.ne_of_lt (Nat.lt_of_lt_of_le (V552_555).lt (Nat.le_of_eq g563.symm))
  have ne563_565 : b537 ≠ b563 := Nat.ne_of_lt (Nat.lt_of_lt_of_le (V552_557).lt (Nat.le_of_eq g563.symm))
  have ne563_566 : b552 ≠ b563 := Nat.ne_of_lt (Nat.lt_of_lt_of_le (A552).lt (Nat.le_of_eq g563.symm))
  have gn563 : n0 ≤ b563 := Nat.le_trans (Nat.le_trans (Nat.le_of_eq O552.1.symm) O552.2.1) (Nat.le_of_eq g563.symm)
  have sz563 : h0.size ≤ b563 := Nat.le_trans K552.1 (Nat.le_of_eq g563.symm)
  have V563_567 := V552_555.ext E563
  have E563_568 := E552_556.ext E563
  have V563_569 := V552_557.ext E563
  have E563_570 := E552_558.ext E563
  have E563_571 := A552.ext E563
  have F563_572 := F552_559.ext E563
  have F563_573 := F552_560.ext E563
  have F563_574 := F552_561.ext E563
  have F563_575 := F552_562.ext E563
  have K563 := K552.ext E563
  have O563 := O552.ext E563
  have CR563 : CHr Z EL0 s.vm h0 s.vm h563 := CR552.trans (CHr.ext E563 CR552.1)
  have hk := Nat.le_trans hk E563.1
  have F563_576 : Fld Z h563 b563 "com/example/filters_under_siege/filtersundersiege/SketchShape" "rows" "I" (.int (0 : Int32)) := D563 (Or.inr (ow hw 21 rfl)) (ty := .int) (by decide)
  have F563_577 : Fld Z h563 b563 "com/example/filters_under_siege/filtersundersiege/SketchShape" "width" "I" (.int (0 : Int32)) := D563 (Or.inr (ow hw 23 rfl)) (ty := .int) (by decide)
  obtain ⟨_, _, ⟨T578, L578, k578, n578⟩, -, X578, ⟨Lc578, hQ578, l578, y578, z578⟩, st578⟩ := X563.specialBack hx (y := y1) rfl hown (mvT hZ (ow hw 8 rfl)) (mvT hZ (ow hw 9 rfl)) (mvT hZ (ow hw 10 rfl)) (by decide) (backOf (W := 3) (rm1_4 l Z ar hw [] b563 h563 n0 O563 A563 F563_576 F563_577 gn563) hZ (ow hw 10 rfl) (ow hw 7 rfl) (by decide) (by decide)) (g := (mkF m 139 #[iv p0, iv p1, iv p2, iv p3, iv p4, iv p5, iv (4 : Int32), iv c0, iv c1, iv d0, iv d1, iv na, iv sm, iv p4, iv fb, iv (p3 &&& (1 : Int32)), iv cl, rv b529, rv b537, un, un, un, un, un, un, un, un, un] [(.int (4 : Int32)), (.int (2 : Int32)), (.ref b563), (.ref b563), (.ref b552), (.ref b552)])) rfl (by rw [hml]; rfl) (Steps.refl _) (a := b563) (argsL := [(.int (2 : Int32)), (.int (4 : Int32))]) (rest := [(.ref b563), (.ref b552), (.ref b552)]) (lenOf pd_4 rfl) rfl (by show 2 * 0 + _ ≤ _; exact Nat.le_of_eq rfl) (hb hby at_139) (fun _ _ => ⟨rfl, e563, (by decide : 4 + 0 ≤ _), (by decide : 10 + 0 ≤ _)⟩)
  dsimp only [Pt.U, Pt.locs, Pt.cells, Pt.slots] at X578 l578 y578 z578 st578 hQ578
  subst l578 y578 z578
  obtain ⟨rfl, N578q, Kq578, u578_0, u578_1, u578_2⟩ := hQ578
  have N578 := Fr.app N547 N578q
  have V578_579 := V563_567.keep Kq578 (ninS ne563_564 nin0)
  have E578_580 := E563_568.keep Kq578
  have V578_581 := V563_569.keep Kq578 (ninS ne563_565 nin0)
  have E578_582 := E563_570.keep Kq578
  have E578_583 := E563_571.keep Kq578
  have F578_584 := F563_572.keep Kq578 (ninS ne563_566 nin0)
  have F578_585 := F563_573.keep Kq578 (ninS ne563_566 nin0)
  have F578_586 := F563_574.keep Kq578 (ninS ne563_566 nin0)
  have F578_587 := F563_575.keep Kq578 (ninS ne563_566 nin0)
  have E578_588 := A563.keep Kq578
  have K578 := K563.trans Kq578 (allS (Or.inr sz563) all0)
  have O578 := O563.keep Kq578 (allS gn563 all0)
  have CR578 : CHr Z EL0 s.vm h0 s.vm T578.heap := CR563.trans (CHr.keep Kq578 (allS own_sf0 all0) CR563.1)
  have hk := Nat.le_trans hk Kq578.1
  obtain ⟨_, _, ⟨T589, L589, k589, n589⟩, -, X589, hS589, hg589, ⟨Lc589, hQ589, l589, y589, z589, CRq589⟩, st589⟩ := X578.specialBackS hx (y := y4) rfl hown (mvT hZ (ow hw 24 rfl)) (mvT hZ (ow hw 25 rfl)) (mvT hZ (ow hw 26 rfl)) (by decide) (backOfSH (W := 1) (rm4_4 l Z ar hw [] b552 b563 T578.heap n0 O578 hEL HW E578_583 F578_584 F578_586 F578_587 F578_585 gn552 E578_588 u578_1 u578_2 ne563_566) hZ (ow hw 26 rfl) (ow hw 4 rfl) (by decide) (by decide) hEL CR578.1) (g := (mkF m 142 #[iv p0, iv p1, iv p2, iv p3, iv p4, iv p5, iv (4 : Int32), iv c0, iv c1, iv d0, iv d1, iv na, iv sm, iv p4, iv fb, iv (p3 &&& (1 : Int32)), iv cl, rv b529, rv b537, un, un, un, un, un, un, un, un, un] [(.ref b563), (.ref b552), (.ref b552)])) rfl (by rw [hml]; rfl) (Steps.refl _) (a := b552) (argsL := [(.ref b563)]) (rest := [(.ref b552)]) (lenOf pd_5 rfl) rfl (by show 2 * 0 + _ ≤ _; exact Nat.le_of_eq rfl) (hb hby at_142) (fun _ _ => ⟨rfl, rfl, (by decide : 4 + 4 ≤ _), (by decide : 10 + 40 ≤ _)⟩)
  dsimp only [Pt.U, Pt.locs, Pt.cells, Pt.slots] at X589 l589 y589 z589 st589 hQ589 hS589 hg589 CRq589
  subst l589 y589 z589
  obtain ⟨X589, hS, hZ, hown⟩ := rebS hS hk X589 hS589 hg589 hZ hown
  have CR589 : CHr Z EL0 s.vm h0 T589.vm T589.heap := CR578.trans CRq589
  obtain ⟨fa_589, ca_589, kf_589, kc_589, rfl, N589q, Kq589, u589_0, u589_1, u589_2, u589_3, u589_4, u589_5, u589_6, u589_7, u589_8, u589_9, u589_10⟩ := hQ589
  have N589 := Fr.app N578 N589q
  have V589_590 := V578_579.keep Kq589 (ninS ne552_553 nin0)
  have E589_591 := E578_580.keep Kq589
  have V589_592 := V578_581.keep Kq589 (ninS ne552_554 nin0)
  have E589_593 := E578_582.keep Kq589
  have E589_594 := E578_583.keep Kq589
  have E589_595 := E578_588.keep Kq589
  have F589_596 := u578_1.keep Kq589 (ninS (Ne.symm ne563_566) nin0)
  have F589_597 := u578_2.keep Kq589 (ninS (Ne.symm ne563_566) nin0)
  have K589 := K578.trans Kq589 (allS (Or.inr sz552) all0)
  have O589 := O578.keep Kq589 (allS gn552 all0)
  have hk := Nat.le_trans hk Kq589.1
  have hk := Nat.le_refl (Array.size T589.heap)
  have sz598 : h0.size ≤ fa_589 := Nat.le_trans K578.1 u589_7
  have gn598 : n0 ≤ fa_589 := Nat.le_trans (Nat.le_trans (Nat.le_of_eq O578.1.symm) O578.2.1) u589_7
  have ne599 : b529 ≠ fa_589 := Nat.ne_of_lt (Nat.lt_of_lt_of_le (V578_579).lt u589_7)
  have ne600 : b537 ≠ fa_589 := Nat.ne_of_lt (Nat.lt_of_lt_of_le (V578_581).lt u589_7)
  have ne601 : b552 ≠ fa_589 := Nat.ne_of_lt (Nat.lt_of_lt_of_le (E578_583).lt u589_7)
  have ne602 : b563 ≠ fa_589 := Nat.ne_of_lt (Nat.lt_of_lt_of_le (E578_588).lt u589_7)
  have sz603 : h0.size ≤ ca_589 := Nat.le_trans K578.1 u589_8
  have gn603 : n0 ≤ ca_589 := Nat.le_trans (Nat.le_trans (Nat.le_of_eq O578.1.symm) O578.2.1) u589_8
  have ne604 : b529 ≠ ca_589 := Nat.ne_of_lt (Nat.lt_of_lt_of_le (V578_579).lt u589_8)
  have ne605 : b537 ≠ ca_589 := Nat.ne_of_lt (Nat.lt_of_lt_of_le (V578_581).lt u589_8)
  have ne606 : b552 ≠ ca_589 := Nat.ne_of_lt (Nat.lt_of_lt_of_le (E578_583).lt u589_8)
  have ne607 : b563 ≠ ca_589 := Nat.ne_of_lt (Nat.lt_of_lt_of_le (E578_588).lt u589_8)
  have pre608 : ∀ tg, AT p e below T589 m 150 #[iv p0, iv p1, iv p2, iv p3, iv p4, iv p5, iv (4 : Int32), iv c0, iv c1, iv d0, iv d1, iv na, iv sm, iv p4, iv fb, iv (p3 &&& (1 : Int32)), iv cl, rv b529, rv b537, rv b552, un, un, un, un, un, un, un, un] [(.int (1 : Int32)), (.int na)] tg → Steps p.tables e below S0 tg := fun tg kg => pre528 tg (by
   refine XS.iconst X0.here hx rfl (hb hby at_98) ?_
   refine st529 _ ?_
   refine XS.dup X529.here hx rfl (hb hby at_101) rfl rfl ?_
   refine XS.iconst X529.here hx rfl (hb hby at_102) ?_
   refine XS.iload X529.here hx rfl (hb hby at_103) rfl ?_
   refine st531 _ ?_
   refine XS.dup X531.here hx rfl (hb hby at_106) rfl rfl ?_
   refine XS.iconst X531.here hx rfl (hb hby at_107) ?_
   refine XS.iload X531.here hx rfl (hb hby at_108) rfl ?_
   refine st534 _ ?_
   refine XS.astore X534.here hx rfl (hb hby at_111) rfl rfl (l' := #[iv p0, iv p1, iv p2, iv p3, iv p4, iv p5, iv (4 : Int32), iv c0, iv c1, iv d0, iv d1, iv na, iv sm, iv p4, iv fb, iv (p3 &&& (1 : Int32)), iv cl, rv b529, un, un, un, un, un, un, un, un, un, un]) rfl ?_
   refine XS.iconst X534.here hx rfl (hb hby at_113) ?_
   refine st537 _ ?_
   refine XS.dup X537.here hx rfl (hb hby at_116) rfl rfl ?_
   refine XS.iconst X537.here hx rfl (hb hby at_117) ?_
   refine XS.iload X537.here hx rfl (hb hby at_118) rfl ?_
   refine st542 _ ?_
   refine XS.dup X542.here hx rfl (hb hby at_121) rfl rfl ?_
   refine XS.iconst X542.here hx rfl (hb hby at_122) ?_
   refine XS.iload X542.here hx rfl (hb hby at_123) rfl ?_
   refine st547 _ ?_
   refine XS.astore X547.here hx rfl (hb hby at_126) rfl rfl (l' := #[iv p0, iv p1, iv p2, iv p3, iv p4, iv p5, iv (4 : Int32), iv c0, iv c1, iv d0, iv d1, iv na, iv sm, iv p4, iv fb, iv (p3 &&& (1 : Int32)), iv cl, rv b529, rv b537, un, un, un, un, un, un, un, un, un]) rfl ?_
   refine st552 _ ?_
   refine XS.dup X552.here hx rfl (hb hby at_131) rfl rfl ?_
   refine st563 _ ?_
   refine XS.dup X563.here hx rfl (hb hby at_135) rfl rfl ?_
   refine XS.iconst X563.here hx rfl (hb hby at_136) ?_
   refine XS.iload X563.here hx rfl (hb hby at_137) rfl ?_
   refine st578.trans ?_
   refine st589.trans ?_
   refine XS.astore X589.here hx rfl (hb hby at_145) rfl rfl (l' := #[iv p0, iv p1, iv p2, iv p3, iv p4, iv p5, iv (4 : Int32), iv c0, iv c1, iv d0, iv d1, iv na, iv sm, iv p4, iv fb, iv (p3 &&& (1 : Int32)), iv cl, rv b529, rv b537, rv b552, un, un, un, un, un, un, un, un]) rfl ?_
   refine XS.iload X589.here hx rfl (hb hby at_147) rfl ?_
   refine XS.iconst X589.here hx rfl (hb hby at_149) ?_
   exact kg)
  rcases Decidable.em (na < (1 : Int32)) with hc609 | hc609
  ·
   have hna : na = (0 : Int32) := own_na0 hsna hc609
   obtain ⟨cq610, kq610, q610a, q610b, q610c⟩ := isOf hZ rfl E589_594
   obtain ⟨_, _, ⟨T610, L610, k610, n610⟩, -, X610, ⟨Lc610, hQ610, l610, y610, z610⟩, st610⟩ := X589.virtualBack hx (y := y8) (z := y8) hown (mvT hZ (ow hw 62 rfl)) (mvT hZ (ow hw 63 rfl)) (notFace_of_selects (args := #[]) (mvT hZ (ow hw 65 rfl))) (mvT hZ (ow hw 65 rfl)) (mvT hZ (ow hw 64 rfl)) (by decide) (backOf (W := 0) (rm8_4 l Z ar hw [] b552 b537 fb _ _ _ _ _ _ _ _ _ _ _ _ _ _ _ _ _ _ _ _ _ _ _ _ T589.heap n0 O589 HW E589_594 u589_1 E589_595 F589_597 u589_3 u589_4 u589_2 E589_593 V589_592 u589_9 u589_10 u589_5 u589_6 gn598 gn603 ne600 hsd0 hsd1) hZ (ow hw 66 rfl) (ow hw 4 rfl) (by decide) (by decide)) q610a q610c (g := (mkF m 198 #[iv p0, iv p1, iv p2, iv p3, iv p4, iv p5, iv (4 : Int32), iv c0, iv c1, iv d0, iv d1, iv na, iv sm, iv p4, iv fb, iv (p3 &&& (1 : Int32)), iv cl, rv b529, rv b537, rv b552, un, un, un, un, un, un, un, un] [(.int fb), (.ref b537), (.ref b552)])) rfl (by rw [hml]; rfl) (Steps.refl _) (argsL := [(.ref b537), (.int fb)]) (rest := []) (lenOf pd_6 rfl) rfl (by show 2 * 0 + _ ≤ _; exact Nat.le_of_eq rfl) (hb hby at_198) (fun _ _ => ⟨rfl, rfl, (by decide : 8 + 0 ≤ _), (by decide : 50 + 0 ≤ _)⟩)
   dsimp only [Pt.U, Pt.locs, Pt.cells, Pt.slots] at X610 l610 y610 z610 st610 hQ610
   subst l610 y610 z610
   obtain ⟨rfl, N610q, Kq610, u610_0, u610_1⟩ := hQ610
   have N610 := Fr.app N589 N610q
   have V610_611 := V589_590.keep Kq610 (ninS ne599 (ninS ne604 nin0))
   have E610_612 := E589_591.keep Kq610
   have V610_613 := V589_592.keep Kq610 (ninS ne600 (ninS ne605 nin0))
   have E610_614 := E589_593.keep Kq610
   have E610_615 := E589_594.keep Kq610
   have E610_616 := E589_595.keep Kq610
   have F610_617 := F589_596.keep Kq610 (ninS ne602 (ninS ne607 nin0))
   have F610_618 := F589_597.keep Kq610 (ninS ne602 (ninS ne607 nin0))
   have F610_619 := u589_1.keep Kq610 (ninS ne601 (ninS ne606 nin0))
   have F610_620 := u589_2.keep Kq610 (ninS ne601 (ninS ne606 nin0))
   have F610_621 := u589_3.keep Kq610 (ninS ne601 (ninS ne606 nin0))
   have F610_622 := u589_4.keep Kq610 (ninS ne601 (ninS ne606 nin0))
   have E610_623 := u589_9.keep Kq610
   have E610_624 := u589_10.keep Kq610
   have K610 := K589.trans Kq610 (allS (Or.inr sz598) (allS (Or.inr sz603) all0))
   have O610 := O589.keep Kq610 (allS gn598 (allS gn603 all0))
   have CR610 : CHr Z EL0 s.vm h0 T589.vm T610.heap := CR589.trans (CHr.keep Kq610 (allS own_sf0 (allS own_sf0 all0)) CR589.1)
   have hk := Nat.le_trans hk Kq610.1
   have Vz625 : Arv Z T610.heap fa_589 kf_589 .int (8 : Int32) [(.int (pI d0 (0 : Int32) fb (0 : Int32))), (.int (pI d0 (1 : Int32) fb (0 : Int32))), (.int (pI d0 (2 : Int32) fb (0 : Int32))), (.int (pI d0 (3 : Int32) fb (0 : Int32))), (.int (pI d1 (0 : Int32) fb (0 : Int32))), (.int (pI d1 (1 : Int32) fb (0 : Int32))), (.int (pI d1 (2 : Int32) fb (0 : Int32))), (.int (pI d1 (3 : Int32) fb (0 : Int32)))] (.int (0 : Int32)) := by have q := u610_0; simp only [own_nc0_4, own_nf0_4] at q; exact q
   have Vz626 : Arv Z T610.heap ca_589 kc_589 .long (8 : Int32) [(.long (pJ d0 (0 : Int32) (1 : Int64) (0 : Int64))), (.long (pJ d0 (1 : Int32) (1 : Int64) (0 : Int64))), (.long (pJ d0 (2 : Int32) (1 : Int64) (0 : Int64))), (.long (pJ d0 (3 : Int32) (1 : Int64) (0 : Int64))), (.long (pJ d1 (0 : Int32) (1 : Int64) (0 : Int64))), (.long (pJ d1 (1 : Int32) (1 : Int64) (0 : Int64))), (.long (pJ d1 (2 : Int32) (1 : Int64) (0 : Int64))), (.long (pJ d1 (3 : Int32) (1 : Int64) (0 : Int64)))] (.long (0 : Int64)) := by have q := u610_1; simp only [own_nc0_4, own_nf0_4] at q; exact q
   have pre627 : ∀ tg, AT p e below T610 m 201 #[iv p0, iv p1, iv p2, iv p3, iv p4, iv p5, iv (4 : Int32), iv c0, iv c1, iv d0, iv d1, iv na, iv sm, iv p4, iv fb, iv (p3 &&& (1 : Int32)), iv cl, rv b529, rv b537, rv b552, un, un, un, un, un, un, un, un] [] tg → Steps p.tables e below S0 tg := fun tg kg => pre608 tg (by
    refine XS.icmpYes X589.here hx rfl (pc0 := 150) (pc' := 162) rfl (hb hby at_150) rfl (XT.ii_lt_t hc609) (by decide) (by decide) ?_
    refine XS.iload X589.here hx rfl (hb hby at_162) rfl ?_
    refine XS.iconst X589.here hx rfl (hb hby at_164) ?_
    show AT p e below T589 m 165 #[iv p0, iv p1, iv p2, iv p3, iv p4, iv p5, iv (4 : Int32), iv c0, iv c1, iv d0, iv d1, iv na, iv sm, iv p4, iv fb, iv (p3 &&& (1 : Int32)), iv cl, rv b529, rv b537, rv b552, un, un, un, un, un, un, un, un] [(.int (2 : Int32)), (.int na)] _
    refine XS.icmpYes X589.here hx rfl (pc0 := 165) (pc' := 177) rfl (hb hby at_165) rfl (XT.ii_lt_t ((own_up hc609 (by decide)) : na < (2 : Int32))) (by decide) (by decide) ?_
    refine XS.iload X589.here hx rfl (hb hby at_177) rfl ?_
    refine XS.iconst X589.here hx rfl (hb hby at_179) ?_
    show AT p e below T589 m 180 #[iv p0, iv p1, iv p2, iv p3, iv p4, iv p5, iv (4 : Int32), iv c0, iv c1, iv d0, iv d1, iv na, iv sm, iv p4, iv fb, iv (p3 &&& (1 : Int32)), iv cl, rv b529, rv b537, rv b552, un, un, un, un, un, un, un, un] [(.int (3 : Int32)), (.int na)] _
    refine XS.icmpYes X589.here hx rfl (pc0 := 180) (pc' := 192) rfl (hb hby at_180) rfl (XT.ii_lt_t ((own_up hc609 (by decide)) : na < (3 : Int32))) (by decide) (by decide) ?_
    refine XS.aload X589.here hx rfl (hb hby at_192) rfl rfl ?_
    refine XS.aload X589.here hx rfl (hb hby at_194) rfl rfl ?_
    refine XS.iload X589.here hx rfl (hb hby at_196) rfl ?_
    show AT p e below T589 m 198 #[iv p0, iv p1, iv p2, iv p3, iv p4, iv p5, iv (4 : Int32), iv c0, iv c1, iv d0, iv d1, iv na, iv sm, iv p4, iv fb, iv (p3 &&& (1 : Int32)), iv cl, rv b529, rv b537, rv b552, un, un, un, un, un, un, un, un] [(.int fb), (.ref b537), (.ref b552)] _
    refine st610.trans ?_
    exact kg)
   obtain ⟨rr, hrr⟩ : ∃ z, z = (p3 &&& (1 : Int32)) := ⟨_, rfl⟩
   have pre628 : ∀ tg, AT p e below T610 m 201 #[iv p0, iv p1, iv p2, iv p3, iv p4, iv p5, iv (4 : Int32), iv c0, iv c1, iv d0, iv d1, iv na, iv sm, iv p4, iv fb, iv rr, iv cl, rv b529, rv b537, rv b552, un, un, un, un, un, un, un, un] [] tg → Steps p.tables e below S0 tg := by rw [hrr]; exact pre627
   have hsrr : rr = (0 : Int32) ∨ rr = (1 : Int32) := by rw [hrr]; exact own_a1 p3
   rcases hsrr with rfl | rfl
   ·
    obtain ⟨cq629, kq629, q629a, q629b, q629c⟩ := isOf hZ rfl E610_615
    obtain ⟨_, _, ⟨T629, L629, k629, n629⟩, -, X629, ⟨Lc629, hQ629, l629, y629, z629⟩, st629⟩ := X610.virtualBack hx (y := y10) (z := y10) hown (mvT hZ (ow hw 72 rfl)) (mvT hZ (ow hw 73 rfl)) (notFace_of_selects (args := #[]) (mvT hZ (ow hw 75 rfl))) (mvT hZ (ow hw 75 rfl)) (mvT hZ (ow hw 74 rfl)) (by decide) (backOf (W := 0) (rm10_4_0 l Z ar hw [] b552 cl _ _ _ _ _ _ _ _ _ _ _ T610.heap n0 O610 E610_615 F610_619 E610_616 F610_618 F610_622 Vz626 hscl) hZ (ow hw 76 rfl) (ow hw 4 rfl) (by decide) (by decide)) q629a q629c (g := (mkF m 207 #[iv p0, iv p1, iv p2, iv p3, iv p4, iv p5, iv (4 : Int32), iv c0, iv c1, iv d0, iv d1, iv na, iv sm, iv p4, iv fb, iv (0 : Int32), iv cl, rv b529, rv b537, rv b552, un, un, un, un, un, un, un, un] [(.int cl), (.int (0 : Int32)), (.ref b552)])) rfl (by rw [hml]; rfl) (Steps.refl _) (argsL := [(.int (0 : Int32)), (.int cl)]) (rest := []) (lenOf pd_7 rfl) rfl (by show 2 * 0 + _ ≤ _; exact Nat.le_of_eq rfl) (hb hby at_207) (fun _ _ => ⟨rfl, rfl, (by decide : 8 + 0 ≤ _), (by decide : 50 + 0 ≤ _)⟩)
    dsimp only [Pt.U, Pt.locs, Pt.cells, Pt.slots] at X629 l629 y629 z629 st629 hQ629
    subst l629 y629 z629
    obtain ⟨rfl, N629q, e629⟩ := hQ629
    have N629 := Fr.app N610 N629q
    have hSp : Sp na sm c0 d0 cl (sJ4 cl (pJ d0 (0 : Int32) (1 : Int64) (0 : Int64)) (pJ d0 (1 : Int32) (1 : Int64) (0 : Int64)) (pJ d0 (2 : Int32) (1 : Int64) (0 : Int64)) (pJ d0 (3 : Int32) (1 : Int64) (0 : Int64))) := by rw [own_selJ4 hsd0 hscl, own_s0J4, hna]; exact own_Sp0
    have pre630 : ∀ tg, AT p e below T629 m 212 #[iv p0, iv p1, iv p2, iv p3, iv p4, iv p5, iv (4 : Int32), iv c0, iv c1, iv d0, iv d1, iv na, iv sm, iv p4, iv fb, iv (0 : Int32), iv cl, rv b529, rv b537, rv b552, jv (sJ4 cl (pJ d0 (0 : Int32) (1 : Int64) (0 : Int64)) (pJ d0 (1 : Int32) (1 : Int64) (0 : Int64)) (pJ d0 (2 : Int32) (1 : Int64) (0 : Int64)) (pJ d0 (3 : Int32) (1 : Int64) (0 : Int64))), se, un, un, un, un, un, un] [] tg → Steps p.tables e below S0 tg := fun tg kg => pre628 tg (by
     refine XS.aload X610.here hx rfl (hb hby at_201) rfl rfl ?_
     refine XS.iload X610.here hx rfl (hb hby at_203) rfl ?_
     refine XS.iload X610.here hx rfl (hb hby at_205) rfl ?_
     refine st629.trans ?_
     refine XS.lstore X629.here hx rfl (hb hby at_210) rfl (l' := #[iv p0, iv p1, iv p2, iv p3, iv p4, iv p5, iv (4 : Int32), iv c0, iv c1, iv d0, iv d1, iv na, iv sm, iv p4, iv fb, iv (0 : Int32), iv cl, rv b529, rv b537, rv b552, jv (sJ4 cl (pJ d0 (0 : Int32) (1 : Int64) (0 : Int64)) (pJ d0 (1 : Int32) (1 : Int64) (0 : Int64)) (pJ d0 (2 : Int32) (1 : Int64) (0 : Int64)) (pJ d0 (3 : Int32) (1 : Int64) (0 : Int64))), se, un, un, un, un, un, un]) rfl ?_
     exact kg)
    exact tail_r0 _ _ _ _ _ (own_mono X629 (by decide) (by decide)) e629 N629 K610 O610 hS hk hZ hown CR610 _ _ _ _ _ _ _ _ _ _ _ _ _ _ hSp pre630
   ·
    obtain ⟨cq631, kq631, q631a, q631b, q631c⟩ := isOf hZ rfl E610_615
    obtain ⟨_, _, ⟨T631, L631, k631, n631⟩, -, X631, ⟨Lc631, hQ631, l631, y631, z631⟩, st631⟩ := X610.virtualBack hx (y := y10) (z := y10) hown (mvT hZ (ow hw 72 rfl)) (mvT hZ (ow hw 73 rfl)) (notFace_of_selects (args := #[]) (mvT hZ (ow hw 75 rfl))) (mvT hZ (ow hw 75 rfl)) (mvT hZ (ow hw 74 rfl)) (by decide) (backOf (W := 0) (rm10_4_1 l Z ar hw [] b552 cl _ _ _ _ _ _ _ _ _ _ _ T610.heap n0 O610 E610_615 F610_619 E610_616 F610_618 F610_622 Vz626 hscl) hZ (ow hw 76 rfl) (ow hw 4 rfl) (by decide) (by decide)) q631a q631c (g := (mkF m 207 #[iv p0, iv p1, iv p2, iv p3, iv p4, iv p5, iv (4 : Int32), iv c0, iv c1, iv d0, iv d1, iv na, iv sm, iv p4, iv fb, iv (1 : Int32), iv cl, rv b529, rv b537, rv b552, un, un, un, un, un, un, un, un] [(.int cl), (.int (1 : Int32)), (.ref b552)])) rfl (by rw [hml]; rfl) (Steps.refl _) (argsL := [(.int (1 : Int32)), (.int cl)]) (rest := []) (lenOf pd_7 rfl) rfl (by show 2 * 0 + _ ≤ _; exact Nat.le_of_eq rfl) (hb hby at_207) (fun _ _ => ⟨rfl, rfl, (by decide : 8 + 0 ≤ _), (by decide : 50 + 0 ≤ _)⟩)
    dsimp only [Pt.U, Pt.locs, Pt.cells, Pt.slots] at X631 l631 y631 z631 st631 hQ631
    subst l631 y631 z631
    obtain ⟨rfl, N631q, e631⟩ := hQ631
    have N631 := Fr.app N610 N631q
    have hSp : Sp na sm c1 d1 cl (sJ4 cl (pJ d1 (0 : Int32) (1 : Int64) (0 : Int64)) (pJ d1 (1 : Int32) (1 : Int64) (0 : Int64)) (pJ d1 (2 : Int32) (1 : Int64) (0 : Int64)) (pJ d1 (3 : Int32) (1 : Int64) (0 : Int64))) := by rw [own_selJ4 hsd1 hscl, own_s0J4, hna]; exact own_Sp0
    have pre632 : ∀ tg, AT p e below T631 m 212 #[iv p0, iv p1, iv p2, iv p3, iv p4, iv p5, iv (4 : Int32), iv c0, iv c1, iv d0, iv d1, iv na, iv sm, iv p4, iv fb, iv (1 : Int32), iv cl, rv b529, rv b537, rv b552, jv (sJ4 cl (pJ d1 (0 : Int32) (1 : Int64) (0 : Int64)) (pJ d1 (1 : Int32) (1 : Int64) (0 : Int64)) (pJ d1 (2 : Int32) (1 : Int64) (0 : Int64)) (pJ d1 (3 : Int32) (1 : Int64) (0 : Int64))), se, un, un, un, un, un, un] [] tg → Steps p.tables e below S0 tg := fun tg kg => pre628 tg (by
     refine XS.aload X610.here hx rfl (hb hby at_201) rfl rfl ?_
     refine XS.iload X610.here hx rfl (hb hby at_203) rfl ?_
     refine XS.iload X610.here hx rfl (hb hby at_205) rfl ?_
     refine st631.trans ?_
     refine XS.lstore X631.here hx rfl (hb hby at_210) rfl (l' := #[iv p0, iv p1, iv p2, iv p3, iv p4, iv p5, iv (4 : Int32), iv c0, iv c1, iv d0, iv d1, iv na, iv sm, iv p4, iv fb, iv (1 : Int32), iv cl, rv b529, rv b537, rv b552, jv (sJ4 cl (pJ d1 (0 : Int32) (1 : Int64) (0 : Int64)) (pJ d1 (1 : Int32) (1 : Int64) (0 : Int64)) (pJ d1 (2 : Int32) (1 : Int64) (0 : Int64)) (pJ d1 (3 : Int32) (1 : Int64) (0 : Int64))), se, un, un, un, un, un, un]) rfl ?_
     exact kg)
    exact tail_r1 _ _ _ _ _ (own_mono X631 (by decide) (by decide)) e631 N631 K610 O610 hS hk hZ hown CR610 _ _ _ _ _ _ _ _ _ _ _ _ _ _ hSp pre632
  ·
   obtain ⟨cq633, kq633, q633a, q633b, q633c⟩ := isOf hZ rfl E589_594
   obtain ⟨_, _, ⟨T633, L633, k633, n633⟩, -, X633, ⟨Lc633, hQ633, l633, y633, z633⟩, st633⟩ := X589.virtualBack hx (y := y8) (z := y8) hown (mvT hZ (ow hw 62 rfl)) (mvT hZ (ow hw 63 rfl)) (notFace_of_selects (args := #[]) (mvT hZ (ow hw 65 rfl))) (mvT hZ (ow hw 65 rfl)) (mvT hZ (ow hw 64 rfl)) (by decide) (backOf (W := 0) (rm8_4 l Z ar hw [] b552 b529 p4 _ _ _ _ _ _ _ _ _ _ _ _ _ _ _ _ _ _ _ _ _ _ _ _ T589.heap n0 O589 HW E589_594 u589_1 E589_595 F589_597 u589_3 u589_4 u589_2 E589_591 V589_590 u589_9 u589_10 u589_5 u589_6 gn598 gn603 ne599 hsc0 hsc1) hZ (ow hw 66 rfl) (ow hw 4 rfl) (by decide) (by decide)) q633a q633c (g := (mkF m 159 #[iv p0, iv p1, iv p2, iv p3, iv p4, iv p5, iv (4 : Int32), iv c0, iv c1, iv d0, iv d1, iv na, iv sm, iv p4, iv fb, iv (p3 &&& (1 : Int32)), iv cl, rv b529, rv b537, rv b552, un, un, un, un, un, un, un, un] [(.int p4), (.ref b529), (.ref b552)])) rfl (by rw [hml]; rfl) (Steps.refl _) (argsL := [(.ref b529), (.int p4)]) (rest := []) (lenOf pd_6 rfl) rfl (by show 2 * 0 + _ ≤ _; exact Nat.le_of_eq rfl) (hb hby at_159) (fun _ _ => ⟨rfl, rfl, (by decide : 8 + 0 ≤ _), (by decide : 50 + 0 ≤ _)⟩)
   dsimp only [Pt.U, Pt.locs, Pt.cells, Pt.slots] at X633 l633 y633 z633 st633 hQ633
   subst l633 y633 z633
   obtain ⟨rfl, N633q, Kq633, u633_0, u633_1⟩ := hQ633
   have N633 := Fr.app N589 N633q
   have V633_634 := V589_590.keep Kq633 (ninS ne599 (ninS ne604 nin0))
   have E633_635 := E589_591.keep Kq633
   have V633_636 := V589_592.keep Kq633 (ninS ne600 (ninS ne605 nin0))
   have E633_637 := E589_593.keep Kq633
   have E633_638 := E589_594.keep Kq633
   have E633_639 := E589_595.keep Kq633
   have F633_640 := F589_596.keep Kq633 (ninS ne602 (ninS ne607 nin0))
   have F633_641 := F589_597.keep Kq633 (ninS ne602 (ninS ne607 nin0))
   have F633_642 := u589_1.keep Kq633 (ninS ne601 (ninS ne606 nin0))
   have F633_643 := u589_2.keep Kq633 (ninS ne601 (ninS ne606 nin0))
   have F633_644 := u589_3.keep Kq633 (ninS ne601 (ninS ne606 nin0))
   have F633_645 := u589_4.keep Kq633 (ninS ne601 (ninS ne606 nin0))
   have E633_646 := u589_9.keep Kq633
   have E633_647 := u589_10.keep Kq633
   have K633 := K589.trans Kq633 (allS (Or.inr sz598) (allS (Or.inr sz603) all0))
   have O633 := O589.keep Kq633 (allS gn598 (allS gn603 all0))
   have CR633 : CHr Z EL0 s.vm h0 T589.vm T633.heap := CR589.trans (CHr.keep Kq633 (allS own_sf0 (allS own_sf0 all0)) CR589.1)
   have hk := Nat.le_trans hk Kq633.1
   have Vz648 : Arv Z T633.heap fa_589 kf_589 .int (8 : Int32) [(.int (pI c0 (0 : Int32) p4 (0 : Int32))), (.int (pI c0 (1 : Int32) p4 (0 : Int32))), (.int (pI c0 (2 : Int32) p4 (0 : Int32))), (.int (pI c0 (3 : Int32) p4 (0 : Int32))), (.int (pI c1 (0 : Int32) p4 (0 : Int32))), (.int (pI c1 (1 : Int32) p4 (0 : Int32))), (.int (pI c1 (2 : Int32) p4 (0 : Int32))), (.int (pI c1 (3 : Int32) p4 (0 : Int32)))] (.int (0 : Int32)) := by have q := u633_0; simp only [own_nc0_4, own_nf0_4] at q; exact q
   have Vz649 : Arv Z T633.heap ca_589 kc_589 .long (8 : Int32) [(.long (pJ c0 (0 : Int32) (1 : Int64) (0 : Int64))), (.long (pJ c0 (1 : Int32) (1 : Int64) (0 : Int64))), (.long (pJ c0 (2 : Int32) (1 : Int64) (0 : Int64))), (.long (pJ c0 (3 : Int32) (1 : Int64) (0 : Int64))), (.long (pJ c1 (0 : Int32) (1 : Int64) (0 : Int64))), (.long (pJ c1 (1 : Int32) (1 : Int64) (0 : Int64))), (.long (pJ c1 (2 : Int32) (1 : Int64) (0 : Int64))), (.long (pJ c1 (3 : Int32) (1 : Int64) (0 : Int64)))] (.long (0 : Int64)) := by have q := u633_1; simp only [own_nc0_4, own_nf0_4] at q; exact q
   have pre650 : ∀ tg, AT p e below T633 m 165 #[iv p0, iv p1, iv p2, iv p3, iv p4, iv p5, iv (4 : Int32), iv c0, iv c1, iv d0, iv d1, iv na, iv sm, iv p4, iv fb, iv (p3 &&& (1 : Int32)), iv cl, rv b529, rv b537, rv b552, un, un, un, un, un, un, un, un] [(.int (2 : Int32)), (.int na)] tg → Steps p.tables e below S0 tg := fun tg kg => pre608 tg (by
    refine XS.icmpNo X589.here hx rfl (hb hby at_150) rfl (XT.ii_lt_f hc609) ?_
    refine XS.aload X589.here hx rfl (hb hby at_153) rfl rfl ?_
    refine XS.aload X589.here hx rfl (hb hby at_155) rfl rfl ?_
    refine XS.iload X589.here hx rfl (hb hby at_157) rfl ?_
    refine st633.trans ?_
    refine XS.iload X633.here hx rfl (hb hby at_162) rfl ?_
    refine XS.iconst X633.here hx rfl (hb hby at_164) ?_
    exact kg)
   rcases Decidable.em (na < (2 : Int32)) with hc651 | hc651
   ·
    have hna : na = (1 : Int32) := own_na1 hsna hc609 hc651
    have pre652 : ∀ tg, AT p e below T633 m 192 #[iv p0, iv p1, iv p2, iv p3, iv p4, iv p5, iv (4 : Int32), iv c0, iv c1, iv d0, iv d1, iv na, iv sm, iv p4, iv fb, iv (p3 &&& (1 : Int32)), iv cl, rv b529, rv b537, rv b552, un, un, un, un, un, un, un, un] [] tg → Steps p.tables e below S0 tg := fun tg kg => pre650 tg (by
     refine XS.icmpYes X633.here hx rfl (pc0 := 165) (pc' := 177) rfl (hb hby at_165) rfl (XT.ii_lt_t hc651) (by decide) (by decide) ?_
     refine XS.iload X633.here hx rfl (hb hby at_177) rfl ?_
     show AT p e below T633 m 179 #[iv p0, iv p1, iv p2, iv p3, iv p4, iv p5, iv (4 : Int32), iv c0, iv c1, iv d0, iv d1, iv na, iv sm, iv p4, iv fb, iv (p3 &&& (1 : Int32)), iv cl, rv b529, rv b537, rv b552, un, un, un, un, un, un, un, un] [(.int na)] _
     refine XS.iconst X633.here hx rfl (hb hby at_179) ?_
     show AT p e below T633 m 180 #[iv p0, iv p1, iv p2, iv p3, iv p4, iv p5, iv (4 : Int32), iv c0, iv c1, iv d0, iv d1, iv na, iv sm, iv p4, iv fb, iv (p3 &&& (1 : Int32)), iv cl, rv b529, rv b537, rv b552, un, un, un, un, un, un, un, un] [(.int (3 : Int32)), (.int na)] _
     refine XS.icmpYes X633.here hx rfl (pc0 := 180) (pc' := 192) rfl (hb hby at_180) rfl (XT.ii_lt_t ((own_up hc651 (by decide)) : na < (3 : Int32))) (by decide) (by decide) ?_
     exact kg)
    exact tail_m4 _ _ _ _ _ (own_mono X633 (by decide) (by decide)) rfl N633 K633 O633 hS hk hZ hown CR633 _ _ _ _ _ _ _ _ _ _ _ _ _ _ _ _ _ _ E633_637 V633_636 E633_638 F633_642 F633_644 F633_645 F633_643 E633_639 F633_641 E633_646 E633_647 Vz648 Vz649 gn598 gn603 sz598 sz603 ne600 hsc0 hsc1 hsd0 hsd1 hscl hfbs (by rw [hna] <;> decide) (by rw [hna] <;> decide) pre652
   ·
    obtain ⟨cq653, kq653, q653a, q653b, q653c⟩ := isOf hZ rfl E633_638
    obtain ⟨_, _, ⟨T653, L653, k653, n653⟩, -, X653, ⟨Lc653, hQ653, l653, y653, z653⟩, st653⟩ := X633.virtualBack hx (y := y8) (z := y8) hown (mvT hZ (ow hw 62 rfl)) (mvT hZ (ow hw 63 rfl)) (notFace_of_selects (args := #[]) (mvT hZ (ow hw 65 rfl))) (mvT hZ (ow hw 65 rfl)) (mvT hZ (ow hw 64 rfl)) (by decide) (backOf (W := 0) (rm8_4 l Z ar hw [] b552 b529 p4 _ _ _ _ _ _ _ _ _ _ _ _ _ _ _ _ _ _ _ _ _ _ _ _ T633.heap n0 O633 HW E633_638 F633_642 E633_639 F633_641 F633_644 F633_645 F633_643 E633_635 V633_634 E633_646 E633_647 Vz648 Vz649 gn598 gn603 ne599 hsc0 hsc1) hZ (ow hw 66 rfl) (ow hw 4 rfl) (by decide) (by decide)) q653a q653c (g := (mkF m 174 #[iv p0, iv p1, iv p2, iv p3, iv p4, iv p5, iv (4 : Int32), iv c0, iv c1, iv d0, iv d1, iv na, iv sm, iv p4, iv fb, iv (p3 &&& (1 : Int32)), iv cl, rv b529, rv b537, rv b552, un, un, un, un, un, un, un, un] [(.int p4), (.ref b529), (.ref b552)])) rfl (by rw [hml]; rfl) (Steps.refl _) (argsL := [(.ref b529), (.int p4)]) (rest := []) (lenOf pd_6 rfl) rfl (by show 2 * 0 + _ ≤ _; exact Nat.le_of_eq rfl) (hb hby at_174) (fun _ _ => ⟨rfl, rfl, (by decide : 8 + 0 ≤ _), (by decide : 50 + 0 ≤ _)⟩)
    dsimp only [Pt.U, Pt.locs, Pt.cells, Pt.slots] at X653 l653 y653 z653 st653 hQ653
    subst l653 y653 z653
    obtain ⟨rfl, N653q, Kq653, u653_0, u653_1⟩ := hQ653
    have N653 := Fr.app N633 N653q
    have V653_654 := V633_634.keep Kq653 (ninS ne599 (ninS ne604 nin0))
    have E653_655 := E633_635.keep Kq653
    have V653_656 := V633_636.keep Kq653 (ninS ne600 (ninS ne605 nin0))
    have E653_657 := E633_637.keep Kq653
    have E653_658 := E633_638.keep Kq653
    have E653_659 := E633_639.keep Kq653
    have F653_660 := F633_640.keep Kq653 (ninS ne602 (ninS ne607 nin0))
    have F653_661 := F633_641.keep Kq653 (ninS ne602 (ninS ne607 nin0))
    have F653_662 := F633_642.keep Kq653 (ninS ne601 (ninS ne606 nin0))
    have F653_663 := F633_643.keep Kq653 (ninS ne601 (ninS ne606 nin0))
    have F653_664 := F633_644.keep Kq653 (ninS ne601 (ninS ne606 nin0))
    have F653_665 := F633_645.keep Kq653 (ninS ne601 (ninS ne606 nin0))
    have E653_666 := E633_646.keep Kq653
    have E653_667 := E633_647.keep Kq653
    have K653 := K633.trans Kq653 (allS (Or.inr sz598) (allS (Or.inr sz603) all0))
    have O653 := O633.keep Kq653 (allS gn598 (allS gn603 all0))
    have CR653 : CHr Z EL0 s.vm h0 T589.vm T653.heap := CR633.trans (CHr.keep Kq653 (allS own_sf0 (allS own_sf0 all0)) CR633.1)
    have hk := Nat.le_trans hk Kq653.1
    have Vz668 : Arv Z T653.heap fa_589 kf_589 .int (8 : Int32) [(.int (pI c0 (0 : Int32) p4 (0 : Int32))), (.int (pI c0 (1 : Int32) p4 (0 : Int32))), (.int (pI c0 (2 : Int32) p4 (0 : Int32))), (.int (pI c0 (3 : Int32) p4 (0 : Int32))), (.int (pI c1 (0 : Int32) p4 (0 : Int32))), (.int (pI c1 (1 : Int32) p4 (0 : Int32))), (.int (pI c1 (2 : Int32) p4 (0 : Int32))), (.int (pI c1 (3 : Int32) p4 (0 : Int32)))] (.int (0 : Int32)) := by have q := u653_0; rw [own_spJ4 hsc0, own_spI4 hsc0, own_spJ4 hsc1, own_spI4 hsc1] at q; simp only [own_ncf, own_nff, own_ppJ, own_ppI] at q; exact q
    have Vz669 : Arv Z T653.heap ca_589 kc_589 .long (8 : Int32) [(.long (pJ c0 (0 : Int32) (2 : Int64) (0 : Int64))), (.long (pJ c0 (1 : Int32) (2 : Int64) (0 : Int64))), (.long (pJ c0 (2 : Int32) (2 : Int64) (0 : Int64))), (.long (pJ c0 (3 : Int32) (2 : Int64) (0 : Int64))), (.long (pJ c1 (0 : Int32) (2 : Int64) (0 : Int64))), (.long (pJ c1 (1 : Int32) (2 : Int64) (0 : Int64))), (.long (pJ c1 (2 : Int32) (2 : Int64) (0 : Int64))), (.long (pJ c1 (3 : Int32) (2 : Int64) (0 : Int64)))] (.long (0 : Int64)) := by have q := u653_1; rw [own_spJ4 hsc0, own_spI4 hsc0, own_spJ4 hsc1, own_spI4 hsc1] at q; simp only [own_ncf, own_nff, own_ppJ, own_ppI, show (1 : Int64) + (1 : Int64) = (2 : Int64) from by decide] at q; exact q
    have pre670 : ∀ tg, AT p e below T653 m 180 #[iv p0, iv p1, iv p2, iv p3, iv p4, iv p5, iv (4 : Int32), iv c0, iv c1, iv d0, iv d1, iv na, iv sm, iv p4, iv fb, iv (p3 &&& (1 : Int32)), iv cl, rv b529, rv b537, rv b552, un, un, un, un, un, un, un, un] [(.int (3 : Int32)), (.int na)] tg → Steps p.tables e below S0 tg := fun tg kg => pre650 tg (by
     refine XS.icmpNo X633.here hx rfl (hb hby at_165) rfl (XT.ii_lt_f hc651) ?_
     refine XS.aload X633.here hx rfl (hb hby at_168) rfl rfl ?_
     show AT p e below T633 m 170 #[iv p0, iv p1, iv p2, iv p3, iv p4, iv p5, iv (4 : Int32), iv c0, iv c1, iv d0, iv d1, iv na, iv sm, iv p4, iv fb, iv (p3 &&& (1 : Int32)), iv cl, rv b529, rv b537, rv b552, un, un, un, un, un, un, un, un] [(.ref b552)] _
     refine XS.aload X633.here hx rfl (hb hby at_170) rfl rfl ?_
     refine XS.iload X633.here hx rfl (hb hby at_172) rfl ?_
     refine st653.trans ?_
     refine XS.iload X653.here hx rfl (hb hby at_177) rfl ?_
     refine XS.iconst X653.here hx rfl (hb hby at_179) ?_
     exact kg)
    rcases Decidable.em (na < (3 : Int32)) with hc671 | hc671
    ·
     have hna : na = (2 : Int32) := own_na2 hsna hc651 hc671
     have pre672 : ∀ tg, AT p e below T653 m 192 #[iv p0, iv p1, iv p2, iv p3, iv p4, iv p5, iv (4 : Int32), iv c0, iv c1, iv d0, iv d1, iv na, iv sm, iv p4, iv fb, iv (p3 &&& (1 : Int32)), iv cl, rv b529, rv b537, rv b552, un, un, un, un, un, un, un, un] [] tg → Steps p.tables e below S0 tg := fun tg kg => pre670 tg (by
      refine XS.icmpYes X653.here hx rfl (pc0 := 180) (pc' := 192) rfl (hb hby at_180) rfl (XT.ii_lt_t hc671) (by decide) (by decide) ?_
      exact kg)
     exact tail_m4 _ _ _ _ _ (own_mono X653 (by decide) (by decide)) rfl N653 K653 O653 hS hk hZ hown CR653 _ _ _ _ _ _ _ _ _ _ _ _ _ _ _ _ _ _ E653_657 V653_656 E653_658 F653_662 F653_664 F653_665 F653_663 E653_659 F653_661 E653_666 E653_667 Vz668 Vz669 gn598 gn603 sz598 sz603 ne600 hsc0 hsc1 hsd0 hsd1 hscl hfbs (by rw [hna] <;> decide) (by rw [hna] <;> decide) pre672
    ·
     obtain ⟨cq673, kq673, q673a, q673b, q673c⟩ := isOf hZ rfl E653_658
     obtain ⟨_, _, ⟨T673, L673, k673, n673⟩, -, X673, ⟨Lc673, hQ673, l673, y673, z673⟩, st673⟩ := X653.virtualBack hx (y := y8) (z := y8) hown (mvT hZ (ow hw 62 rfl)) (mvT hZ (ow hw 63 rfl)) (notFace_of_selects (args := #[]) (mvT hZ (ow hw 65 rfl))) (mvT hZ (ow hw 65 rfl)) (mvT hZ (ow hw 64 rfl)) (by decide) (backOf (W := 0) (rm8_4 l Z ar hw [] b552 b529 p4 _ _ _ _ _ _ _ _ _ _ _ _ _ _ _ _ _ _ _ _ _ _ _ _ T653.heap n0 O653 HW E653_658 F653_662 E653_659 F653_661 F653_664 F653_665 F653_663 E653_655 V653_654 E653_666 E653_667 Vz668 Vz669 gn598 gn603 ne599 hsc0 hsc1) hZ (ow hw 66 rfl) (ow hw 4 rfl) (by decide) (by decide)) q673a q673c (g := (mkF m 189 #[iv p0, iv p1, iv p2, iv p3, iv p4, iv p5, iv (4 : Int32), iv c0, iv c1, iv d0, iv d1, iv na, iv sm, iv p4, iv fb, iv (p3 &&& (1 : Int32)), iv cl, rv b529, rv b537, rv b552, un, un, un, un, un, un, un, un] [(.int p4), (.ref b529), (.ref b552)])) rfl (by rw [hml]; rfl) (Steps.refl _) (argsL := [(.ref b529), (.int p4)]) (rest := []) (lenOf pd_6 rfl) rfl (by show 2 * 0 + _ ≤ _; exact Nat.le_of_eq rfl) (hb hby at_189) (fun _ _ => ⟨rfl, rfl, (by decide : 8 + 0 ≤ _), (by decide : 50 + 0 ≤ _)⟩)
     dsimp only [Pt.U, Pt.locs, Pt.cells, Pt.slots] at X673 l673 y673 z673 st673 hQ673
     subst l673 y673 z673
     obtain ⟨rfl, N673q, Kq673, u673_0, u673_1⟩ := hQ673
     have N673 := Fr.app N653 N673q
     have V673_674 := V653_654.keep Kq673 (ninS ne599 (ninS ne604 nin0))
     have E673_675 := E653_655.keep Kq673
     have V673_676 := V653_656.keep Kq673 (ninS ne600 (ninS ne605 nin0))
     have E673_677 := E653_657.keep Kq673
     have E673_678 := E653_658.keep Kq673
     have E673_679 := E653_659.keep Kq673
     have F673_680 := F653_660.keep Kq673 (ninS ne602 (ninS ne607 nin0))
     have F673_681 := F653_661.keep Kq673 (ninS ne602 (ninS ne607 nin0))
     have F673_682 := F653_662.keep Kq673 (ninS ne601 (ninS ne606 nin0))
     have F673_683 := F653_663.keep Kq673 (ninS ne601 (ninS ne606 nin0))
     have F673_684 := F653_664.keep Kq673 (ninS ne601 (ninS ne606 nin0))
     have F673_685 := F653_665.keep Kq673 (ninS ne601 (ninS ne606 nin0))
     have E673_686 := E653_666.keep Kq673
     have E673_687 := E653_667.keep Kq673
     have K673 := K653.trans Kq673 (allS (Or.inr sz598) (allS (Or.inr sz603) all0))
     have O673 := O653.keep Kq673 (allS gn598 (allS gn603 all0))
     have CR673 : CHr Z EL0 s.vm h0 T589.vm T673.heap := CR653.trans (CHr.keep Kq673 (allS own_sf0 (allS own_sf0 all0)) CR653.1)
     have hk := Nat.le_trans hk Kq673.1
     have Vz688 : Arv Z T673.heap fa_589 kf_589 .int (8 : Int32) [(.int (pI c0 (0 : Int32) p4 (0 : Int32))), (.int (pI c0 (1 : Int32) p4 (0 : Int32))), (.int (pI c0 (2 : Int32) p4 (0 : Int32))), (.int (pI c0 (3 : Int32) p4 (0 : Int32))), (.int (pI c1 (0 : Int32) p4 (0 : Int32))), (.int (pI c1 (1 : Int32) p4 (0 : Int32))), (.int (pI c1 (2 : Int32) p4 (0 : Int32))), (.int (pI c1 (3 : Int32) p4 (0 : Int32)))] (.int (0 : Int32)) := by have q := u673_0; rw [own_spJ4 hsc0, own_spI4 hsc0, own_spJ4 hsc1, own_spI4 hsc1] at q; simp only [own_ncf, own_nff, own_ppJ, own_ppI] at q; exact q
     have Vz689 : Arv Z T673.heap ca_589 kc_589 .long (8 : Int32) [(.long (pJ c0 (0 : Int32) (3 : Int64) (0 : Int64))), (.long (pJ c0 (1 : Int32) (3 : Int64) (0 : Int64))), (.long (pJ c0 (2 : Int32) (3 : Int64) (0 : Int64))), (.long (pJ c0 (3 : Int32) (3 : Int64) (0 : Int64))), (.long (pJ c1 (0 : Int32) (3 : Int64) (0 : Int64))), (.long (pJ c1 (1 : Int32) (3 : Int64) (0 : Int64))), (.long (pJ c1 (2 : Int32) (3 : Int64) (0 : Int64))), (.long (pJ c1 (3 : Int32) (3 : Int64) (0 : Int64)))] (.long (0 : Int64)) := by have q := u673_1; rw [own_spJ4 hsc0, own_spI4 hsc0, own_spJ4 hsc1, own_spI4 hsc1] at q; simp only [own_ncf, own_nff, own_ppJ, own_ppI, show (2 : Int64) + (1 : Int64) = (3 : Int64) from by decide] at q; exact q
     have hna : na = (3 : Int32) := own_na3 hsna hc671
     have pre690 : ∀ tg, AT p e below T673 m 192 #[iv p0, iv p1, iv p2, iv p3, iv p4, iv p5, iv (4 : Int32), iv c0, iv c1, iv d0, iv d1, iv na, iv sm, iv p4, iv fb, iv (p3 &&& (1 : Int32)), iv cl, rv b529, rv b537, rv b552, un, un, un, un, un, un, un, un] [] tg → Steps p.tables e below S0 tg := fun tg kg => pre670 tg (by
      refine XS.icmpNo X653.here hx rfl (hb hby at_180) rfl (XT.ii_lt_f hc671) ?_
      refine XS.aload X653.here hx rfl (hb hby at_183) rfl rfl ?_
      refine XS.aload X653.here hx rfl (hb hby at_185) rfl rfl ?_
      refine XS.iload X653.here hx rfl (hb hby at_187) rfl ?_
      refine st673.trans ?_
      exact kg)
     exact tail_m4 _ _ _ _ _ (own_mono X673 (by decide) (by decide)) rfl N673 K673 O673 hS hk hZ hown CR673 _ _ _ _ _ _ _ _ _ _ _ _ _ _ _ _ _ _ E673_677 V673_676 E673_678 F673_682 F673_684 F673_685 F673_683 E673_679 F673_681 E673_686 E673_687 Vz688 Vz689 gn598 gn603 sz598 sz603 ne600 hsc0 hsc1 hsd0 hsd1 hscl hfbs (by rw [hna] <;> decide) (by rw [hna] <;> decide) pre690

set_option maxRecDepth 65536 in
set_option maxHeartbeats 40000000 in
theorem comes_1 {Post : Tables → Env → Array Value → State → Outcome → State → Prop} (hpost : ∀ tb e args s v u, (limb_1_1.after args s (.returned v) u = true ∧ limb_1_2.after args s (.returned v) u = true ∧ True) → ReturnedEndW s (.returned v) u (Jvm.fieldLocs frame_1_writes args s ++ Jvm.arrayLocs frame_1_arrays args s ++ Jvm.staticLocs frame_1_statics s) 24 1152 → Post tb e args s (.returned v) u) :
    ArmFor flags0 classFile x code maxLocals ret World_1 tables_1 room_1 Calls_1 rest_1 Pre_1 Post := by
  intro l hfl _ _ p e ha hc hk s m args below hf hA hF happ hP
  obtain ⟨hcalls, hrest, hpre⟩ := hP
  obtain ⟨-, -, -, hnamed, -, -, -, hat⟩ := (Spec.applies_iff hf).mp happ
  obtain ⟨hg, hn⟩ := and_e (Cond.before_iff.mp (show (Jvm.Cond.and given_1 narrow_1).before args s = true from hpre))
  obtain ⟨hg1, hg2⟩ := and_e hg
  obtain ⟨hg21, hg22⟩ := and_e hg2
  obtain ⟨hg221, hg222⟩ := and_e hg22
  obtain ⟨hg2221, hg2222⟩ := and_e hg222
  obtain ⟨hg22221, hg22222⟩ := and_e hg2222
  obtain ⟨hg222221, hg222222⟩ := and_e hg22222
  obtain ⟨w0, w1, w2, w3, w4, w5, rfl⟩ : ∃ w0 w1 w2 w3 w4 w5 : Value, args = #[w0, w1, w2, w3, w4, w5] := by
    have hs : args.size = 6 := by simpa [Cond.value, given_1] using hg1
    obtain ⟨L⟩ := args
    match L, hs with
    | [w0, w1, w2, w3, w4, w5], _ => exact ⟨w0, w1, w2, w3, w4, w5, rfl⟩
  have hw := fun d (hd : d ∈ tables_1) => atoms_spec (ws := Jvm.Cond.code x code maxLocals ret :: tables_1) hat d (List.mem_cons_of_mem _ hd)
  have hfit : Fit s := fun {y c} hc i hi => by
    obtain ⟨ha, rfl⟩ := Array.getElem?_eq_some_iff.mp hc
    have q := List.all_eq_true.mp ((Array.all_eq_true_iff_forall_mem.mp hF) _ (Array.getElem_mem ha)) i (List.mem_range.mpr hi)
    simpa [Array.getElem?_eq_getElem hi] using q
  obtain ⟨i0, ei0⟩ := is_v hg21
  obtain rfl : w0 = (.int i0) := Option.some.inj ei0
  obtain ⟨i1, ei1⟩ := is_v hg221
  obtain rfl : w1 = (.int i1) := Option.some.inj ei1
  obtain ⟨i2, ei2⟩ := is_v hg2221
  obtain rfl : w2 = (.int i2) := Option.some.inj ei2
  obtain ⟨i3, ei3⟩ := is_v hg22221
  obtain rfl : w3 = (.int i3) := Option.some.inj ei3
  obtain ⟨i4, ei4⟩ := is_v hg222221
  obtain rfl : w4 = (.int i4) := Option.some.inj ei4
  obtain ⟨i5, ei5⟩ := is_v hg222222
  obtain rfl : w5 = (.int i5) := Option.some.inj ei5
  obtain ⟨w_lam, k_lam, HLm⟩ := own_lm (ow hw 27 rfl)
  have hTr : True := trivial
  have HW : Wd s w_lam k_lam := ⟨HLm, hTr⟩
  have hEL : EW s #[(.int i0), (.int i1), (.int i2), (.int i3), (.int i4), (.int i5)] EL0 := EW.nil
  have hCH : CHv s EL0 s.vm s.heap := fun p hp => by cases hp
  obtain ⟨n, o, h1, h2, h3, _, L, rfl, ⟨rfl, N⟩, hCR, hq⟩ := rm0 l s _ hw tables_1 i0 i1 i2 i3 i4 i5 s.heap s.heap.size (Old.start s) hEL HW p e ha hc hk s m _ below hf ((Spec.applies_iff_loose hf).mp happ).1 ⟨rfl, State.Warmed39.refl s, rfl, hCH⟩ trivial
  refine ⟨n, _, h1, h2, h3, hpost _ _ _ _ _ _ ⟨Cond.after_iff.mpr rfl, Cond.after_iff.mpr (eq_i res_at (Term.int_eval (1)) rfl), trivial⟩ ⟨hq.1, hq.2.1, hq.2.2.1, (hq.2.2.2.sift fun y hy => Or.inr (N y hy)).mono (by decide) (by decide)⟩⟩
theorem main_1_1 : Claimed_1_1 := comes_1 fun _ _ _ _ _ _ h hF => ⟨h.1, hF⟩
theorem main_1_2 : Claimed_1_2 := comes_1 fun _ _ _ _ _ _ h hF => ⟨h.2.1, hF⟩
end Jvm.Pilot.@@N@@
namespace Jvm.Pilot.@@N@@
open Jvm Jvm.ClassFile Sem Op Lib Jvm.Free Jvm.Stand Jvm.Pilot.@@N@@.Jvm.D
/-! MADE BY PROGRAM (witnessworld.py) out of the Statement's table words and the real class files: 21 classes; the members and pool entries that the words name. The judged class is class 1, her method 1. -/
namespace start1
open Jvm.ClassFile
def u (s : String) : CpInfo := .utf8 (stringToUtf16 s)
/-- a pool by its gaps: so many unusable entries, then the entry; so many at the end -/
def gap : Nat → List CpInfo → List CpInfo
  | 0, r => r
  | n + 1, r => .unusable :: gap n r
def poolList (es : List (Nat × CpInfo)) (last : Nat) : List CpInfo := es.foldr (fun e r => gap e.1 (e.2 :: r)) (gap last [])
def pool (es : List (Nat × CpInfo)) (last : Nat) : Array CpInfo := ⟨poolList es last⟩
def fileOf (pool : Array CpInfo) (this : Nat) (attrs : Array Attribute := #[]) (ms : Array MethodInfo := #[]) (fl : Nat := 33) (sup : Nat := 0) (ifs : Array Nat := #[]) (fds : Array FieldInfo := #[]) : ClassFile where
  minorVersion := 0
  majorVersion := 65
  constantPool := pool
  accessFlags := fl
  thisClass := this
  superClass := sup
  interfaces := ifs
  fields := fds
  methods := ms
  attributes := attrs
def plain (name : String) (sup : Option ClassId) : Class where
  name := name
  kind := .ordinary
  loader := none
  accessFlags := 33
  super := sup
  interfaces := #[]
  cf := none
  fields := #[]
  methods := #[]
  instanceTypes := #[]
  staticTypes := #[]
  resolved := #[]
  callSites := []
  init := .initialized
  statics := none
  mirror := none

def pool0 : Array CpInfo := pool [(5, u "<init>"), (0, u "()V"), (1, .class_ 10), (1, u "java/lang/Object")] 113

def k0c0 : Code := { maxStack := 0, maxLocals := 1, code := object_method_1_code, exceptionTable := #[], attributes := #[] }
def k0m0 : Method := { name := "<init>", desc := "()V", sig := { parameters := [], returnType := none }, accessFlags := 1, code := some k0c0 }
/-- java/lang/Object -/
def k0 : Class := { plain "java/lang/Object" none with
  accessFlags := 33
  interfaces := #[]
  cf := some (fileOf pool0 8 #[] #[{ accessFlags := 1, nameIndex := 5, descriptorIndex := 6, attributes := #[] }] 33 0 #[] #[])
  fields := #[]
  methods := #[k0m0]
  instanceTypes := #[]
  staticTypes := #[]
  resolved := Array.replicate 124 none
  statics := none }

def pool1 : Array CpInfo := pool [(2, .class_ 4), (1, u "java/lang/Object"), (0, u "<init>"), (0, u "()V"), (0, .integer 2147483647), (0, .class_ 9), (0, u "com/example/filters_under_siege/filtersundersiege/KeeperPairs"), (0, .class_ 11), (0, u "com/example/filters_under_siege/filtersundersiege/SketchShape"), (0, .methodref 10 13), (0, .nameAndType 5 14), (0, u "(II)V"), (0, .methodref 8 16), (0, .nameAndType 5 17), (0, u "(Lcom/example/filters_under_siege/filtersundersiege/SketchShape;)V"), (0, .methodref 8 19), (0, .nameAndType 20 21), (0, u "add"), (0, u "([II)V"), (0, .methodref 8 23), (0, .nameAndType 24 25), (0, u "count"), (0, u "(II)J"), (0, .class_ 27), (0, u "com/example/filters_under_siege/filtersundersiege/KeeperPairsCountPinLaw"), (2, u "law"), (0, u "(IIIIII)Z")] 5

def k1m0 : Method := { name := "<init>", desc := "()V", sig := { parameters := [], returnType := none }, accessFlags := 1, code := none }
def k1c1 : Code := { maxStack := 6, maxLocals := 28, code := code, exceptionTable := #[], attributes := #[] }
def k1m1 : Method := { name := "law", desc := "(IIIIII)Z", sig := { parameters := [.int, .int, .int, .int, .int, .int], returnType := some .boolean }, accessFlags := 9, code := some k1c1 }
/-- com/example/filters_under_siege/filtersundersiege/KeeperPairsCountPinLaw -/
def k1 : Class := { plain "com/example/filters_under_siege/filtersundersiege/KeeperPairsCountPinLaw" (some 0) with
  accessFlags := 49
  interfaces := #[]
  cf := some (fileOf pool1 26 #[] #[{ accessFlags := 1, nameIndex := 5, descriptorIndex := 6, attributes := #[] }, { accessFlags := 9, nameIndex := 30, descriptorIndex := 31, attributes := #[] }] 49 2 #[] #[])
  fields := #[]
  methods := #[k1m0, k1m1]
  instanceTypes := #[]
  staticTypes := #[]
  resolved := Array.replicate 37 none
  statics := none }

def pool2 : Array CpInfo := pool [(1, .invokeDynamic 0 2), (0, .nameAndType 3 4), (0, u "test"), (0, u "()Ljava/util/function/LongPredicate;"), (0, .methodref 6 7), (0, .class_ 8), (0, .nameAndType 9 10), (0, u "com/example/filters_under_siege/filtersundersiege/KeeperPairs"), (0, u "<init>"), (0, u "(Lcom/example/filters_under_siege/filtersundersiege/SketchShape;Ljava/util/function/LongPredicate;)V"), (5, .methodref 17 18), (0, .class_ 19), (0, .nameAndType 20 21), (0, u "java/util/Objects"), (0, u "requireNonNull"), (0, u "(Ljava/lang/Object;Ljava/lang/String;)Ljava/lang/Object;"), (0, .methodref 23 24), (0, .class_ 25), (0, .nameAndType 9 26), (0, u "java/lang/Object"), (0, u "()V"), (0, .string 28), (0, u "shape"), (0, .class_ 30), (0, u "com/example/filters_under_siege/filtersundersiege/SketchShape"), (0, .fieldref 6 32), (0, .nameAndType 28 33), (0, u "Lcom/example/filters_under_siege/filtersundersiege/SketchShape;"), (0, .fieldref 6 35), (0, .nameAndType 36 37), (0, u "knocksDown"), (0, u "Ljava/util/function/LongPredicate;"), (0, .methodref 29 39), (0, .nameAndType 40 41), (0, u "cells"), (0, u "()I"), (0, .fieldref 6 43), (0, .nameAndType 44 45), (0, u "fingerprints"), (0, u "[I"), (0, .fieldref 6 47), (0, .nameAndType 48 49), (0, u "counts"), (0, u "[J"), (0, .methodref 29 51), (0, .nameAndType 52 41), (0, u "width"), (0, .interfaceMethodref 54 55), (0, .class_ 56), (0, .nameAndType 3 57), (0, u "java/util/function/LongPredicate"), (0, u "(J)Z"), (16, u "(Lcom/example/filters_under_siege/filtersundersiege/SketchShape;)V"), (3, u "add"), (0, u "([II)V"), (3, u "count"), (0, u "(II)J"), (4, u "lambda$new$0"), (3, .methodType 57), (0, .methodHandle 6 95), (0, .methodref 6 96), (0, .nameAndType 89 57), (3, .methodHandle 6 101), (0, .methodref 102 103), (0, .class_ 104), (0, .nameAndType 105 106), (0, u "java/lang/invoke/LambdaMetafactory"), (0, u "metafactory"), (0, u "(Ljava/lang/invoke/MethodHandles$Lookup;Ljava/lang/String;Ljava/lang/invoke/MethodType;Ljava/lang/invoke/MethodType;Ljava/lang/invoke/MethodHandle;Ljava/lang/invoke/MethodType;)Ljava/lang/invoke/CallSite;")] 6

def k2c0 : Code := { maxStack := 3, maxLocals := 2, code := prog_26_method_1_code, exceptionTable := #[], attributes := #[] }
def k2m0 : Method := { name := "<init>", desc := "(Lcom/example/filters_under_siege/filtersundersiege/SketchShape;)V", sig := { parameters := [(.object "com/example/filters_under_siege/filtersundersiege/SketchShape")], returnType := none }, accessFlags := 0, code := some k2c0 }
def k2c1 : Code := { maxStack := 3, maxLocals := 3, code := prog_26_method_3_code, exceptionTable := #[], attributes := #[] }
def k2m1 : Method := { name := "<init>", desc := "(Lcom/example/filters_under_siege/filtersundersiege/SketchShape;Ljava/util/function/LongPredicate;)V", sig := { parameters := [(.object "com/example/filters_under_siege/filtersundersiege/SketchShape"), (.object "java/util/function/LongPredicate")], returnType := none }, accessFlags := 2, code := some k2c1 }
def k2c2 : Code := { maxStack := 6, maxLocals := 5, code := prog_26_method_4_code, exceptionTable := #[], attributes := #[] }
def k2m2 : Method := { name := "add", desc := "([II)V", sig := { parameters := [(.array .int), .int], returnType := none }, accessFlags := 0, code := some k2c2 }
def k2c3 : Code := { maxStack := 3, maxLocals := 3, code := prog_26_method_6_code, exceptionTable := #[], attributes := #[] }
def k2m3 : Method := { name := "count", desc := "(II)J", sig := { parameters := [.int, .int], returnType := some .long }, accessFlags := 0, code := some k2c3 }
def k2c4 : Code := { maxStack := 1, maxLocals := 2, code := prog_26_method_9_code, exceptionTable := #[], attributes := #[] }
def k2m4 : Method := { name := "lambda$new$0", desc := "(J)Z", sig := { parameters := [.long], returnType := some .boolean }, accessFlags := 4106, code := some k2c4 }
/-- com/example/filters_under_siege/filtersundersiege/KeeperPairs -/
def k2 : Class := { plain "com/example/filters_under_siege/filtersundersiege/KeeperPairs" (some 0) with
  accessFlags := 48
  interfaces := #[]
  cf := some (fileOf pool2 6 #[.bootstrapMethods #[⟨100, #[93, 94, 93]⟩, ⟨0, #[]⟩]] #[{ accessFlags := 0, nameIndex := 9, descriptorIndex := 74, attributes := #[] }, { accessFlags := 2, nameIndex := 9, descriptorIndex := 10, attributes := #[] }, { accessFlags := 0, nameIndex := 78, descriptorIndex := 79, attributes := #[] }, { accessFlags := 0, nameIndex := 83, descriptorIndex := 84, attributes := #[] }, { accessFlags := 4106, nameIndex := 89, descriptorIndex := 57, attributes := #[] }] 48 23 #[] #[{ accessFlags := 18, nameIndex := 28, descriptorIndex := 33, attributes := #[] }, { accessFlags := 18, nameIndex := 44, descriptorIndex := 45, attributes := #[] }, { accessFlags := 18, nameIndex := 48, descriptorIndex := 49, attributes := #[] }, { accessFlags := 18, nameIndex := 36, descriptorIndex := 37, attributes := #[] }])
  fields := #[{ name := "shape", type := (.object "com/example/filters_under_siege/filtersundersiege/SketchShape"), accessFlags := 18, slot := 0, constantValue := 0 }, { name := "fingerprints", type := (.array .int), accessFlags := 18, slot := 1, constantValue := 0 }, { name := "counts", type := (.array .long), accessFlags := 18, slot := 2, constantValue := 0 }, { name := "knocksDown", type := (.object "java/util/function/LongPredicate"), accessFlags := 18, slot := 3, constantValue := 0 }]
  methods := #[k2m0, k2m1, k2m2, k2m3, k2m4]
  instanceTypes := #[(.object "com/example/filters_under_siege/filtersundersiege/SketchShape"), (.array .int), (.array .long), (.object "java/util/function/LongPredicate")]
  staticTypes := #[]
  resolved := Array.replicate 113 none
  callSites := [(0, 2, .constant 0)]
  statics := none }

def pool3 : Array CpInfo := pool [(1, .methodref 2 3), (0, .class_ 4), (0, .nameAndType 5 6), (0, u "java/lang/Object"), (0, u "<init>"), (0, u "()V"), (0, .class_ 8), (0, u "java/lang/Record")] 13

def k3c0 : Code := { maxStack := 1, maxLocals := 1, code := jdk_30_method_1_code, exceptionTable := #[], attributes := #[] }
def k3m0 : Method := { name := "<init>", desc := "()V", sig := { parameters := [], returnType := none }, accessFlags := 4, code := some k3c0 }
/-- java/lang/Record -/
def k3 : Class := { plain "java/lang/Record" (some 0) with
  accessFlags := 1057
  interfaces := #[]
  cf := some (fileOf pool3 7 #[] #[{ accessFlags := 4, nameIndex := 5, descriptorIndex := 6, attributes := #[] }] 1057 2 #[] #[])
  fields := #[]
  methods := #[k3m0]
  instanceTypes := #[]
  staticTypes := #[]
  resolved := Array.replicate 22 none
  statics := none }

def pool4 : Array CpInfo := pool [(1, .methodref 2 3), (0, .class_ 4), (0, .nameAndType 5 6), (0, u "java/lang/Record"), (0, u "<init>"), (0, u "()V"), (10, .class_ 18), (0, u "com/example/filters_under_siege/filtersundersiege/SketchShape"), (0, .long 1073741824), (4, .fieldref 17 25), (0, .nameAndType 26 27), (0, u "rows"), (0, u "I"), (0, .fieldref 17 29), (0, .nameAndType 30 27), (0, u "width"), (12, u "MAX_CELLS"), (0, u "J"), (1, u "(II)V"), (4, u "cells"), (0, u "()I")] 35

def k4c0 : Code := { maxStack := 4, maxLocals := 3, code := prog_39_method_1_code, exceptionTable := #[], attributes := #[] }
def k4m0 : Method := { name := "<init>", desc := "(II)V", sig := { parameters := [.int, .int], returnType := none }, accessFlags := 1, code := some k4c0 }
def k4c1 : Code := { maxStack := 2, maxLocals := 1, code := prog_39_method_2_code, exceptionTable := #[], attributes := #[] }
def k4m1 : Method := { name := "cells", desc := "()I", sig := { parameters := [], returnType := some .int }, accessFlags := 0, code := some k4c1 }
def k4c2 : Code := { maxStack := 1, maxLocals := 1, code := prog_39_method_7_code, exceptionTable := #[], attributes := #[] }
def k4m2 : Method := { name := "width", desc := "()I", sig := { parameters := [], returnType := some .int }, accessFlags := 1, code := some k4c2 }
/-- com/example/filters_under_siege/filtersundersiege/SketchShape -/
def k4 : Class := { plain "com/example/filters_under_siege/filtersundersiege/SketchShape" (some 3) with
  accessFlags := 49
  interfaces := #[]
  cf := some (fileOf pool4 17 #[] #[{ accessFlags := 1, nameIndex := 5, descriptorIndex := 46, attributes := #[] }, { accessFlags := 0, nameIndex := 51, descriptorIndex := 52, attributes := #[] }, { accessFlags := 1, nameIndex := 30, descriptorIndex := 52, attributes := #[] }] 49 2 #[] #[{ accessFlags := 18, nameIndex := 26, descriptorIndex := 27, attributes := #[] }, { accessFlags := 18, nameIndex := 30, descriptorIndex := 27, attributes := #[] }, { accessFlags := 25, nameIndex := 43, descriptorIndex := 44, attributes := #[] }])
  fields := #[{ name := "rows", type := .int, accessFlags := 18, slot := 0, constantValue := 0 }, { name := "width", type := .int, accessFlags := 18, slot := 1, constantValue := 0 }, { name := "MAX_CELLS", type := .long, accessFlags := 25, slot := 0, constantValue := 0 }]
  methods := #[k4m0, k4m1, k4m2]
  instanceTypes := #[.int, .int]
  staticTypes := #[.long]
  resolved := Array.replicate 88 none
  statics := none }

def pool5 : Array CpInfo := pool [(9, u "test"), (6, .class_ 18), (1, u "java/util/function/LongPredicate"), (0, u "(J)Z"), (0, .class_ 21), (0, u "java/lang/Object")] 45

def k5m0 : Method := { name := "test", desc := "(J)Z", sig := { parameters := [.long], returnType := some .boolean }, accessFlags := 1025, code := none }
/-- java/util/function/LongPredicate -/
def k5 : Class := { plain "java/util/function/LongPredicate" (some 0) with
  accessFlags := 1537
  interfaces := #[]
  cf := some (fileOf pool5 16 #[] #[{ accessFlags := 1025, nameIndex := 9, descriptorIndex := 19, attributes := #[] }] 1537 20 #[] #[])
  fields := #[]
  methods := #[k5m0]
  instanceTypes := #[]
  staticTypes := #[]
  resolved := Array.replicate 67 none
  statics := none }

def pool6 : Array CpInfo := pool [(1, .class_ 2), (0, u "java/io/Serializable"), (0, .class_ 4), (0, u "java/lang/Object")] 2

/-- java/io/Serializable -/
def k6 : Class := { plain "java/io/Serializable" (some 0) with
  accessFlags := 1537
  interfaces := #[]
  cf := some (fileOf pool6 1 #[] #[] 1537 3 #[] #[])
  fields := #[]
  methods := #[]
  instanceTypes := #[]
  staticTypes := #[]
  resolved := Array.replicate 7 none
  statics := none }

def pool7 : Array CpInfo := pool [(1, .class_ 2), (0, u "java/lang/Comparable"), (0, .class_ 4), (0, u "java/lang/Object")] 7

/-- java/lang/Comparable -/
def k7 : Class := { plain "java/lang/Comparable" (some 0) with
  accessFlags := 1537
  interfaces := #[]
  cf := some (fileOf pool7 1 #[] #[] 1537 3 #[] #[])
  fields := #[]
  methods := #[]
  instanceTypes := #[]
  staticTypes := #[]
  resolved := Array.replicate 12 none
  statics := none }

def pool8 : Array CpInfo := pool [(2, .class_ 4), (1, u "java/lang/CharSequence"), (42, .class_ 48), (0, u "java/lang/CharSequence$1CodePointIterator"), (10, .class_ 60), (0, u "java/lang/CharSequence$1CharIterator"), (5, .class_ 67), (0, u "java/lang/Object")] 63

/-- java/lang/CharSequence -/
def k8 : Class := { plain "java/lang/CharSequence" (some 0) with
  accessFlags := 1537
  interfaces := #[]
  cf := some (fileOf pool8 2 #[.nestMembers #[47, 59]] #[] 1537 66 #[] #[])
  fields := #[]
  methods := #[]
  instanceTypes := #[]
  staticTypes := #[]
  resolved := Array.replicate 131 none
  statics := none }

def pool9 : Array CpInfo := pool [(1, .class_ 2), (0, u "java/lang/constant/Constable"), (0, .class_ 4), (0, u "java/lang/Object")] 6

/-- java/lang/constant/Constable -/
def k9 : Class := { plain "java/lang/constant/Constable" (some 0) with
  accessFlags := 1537
  interfaces := #[]
  cf := some (fileOf pool9 1 #[] #[] 1537 3 #[] #[])
  fields := #[]
  methods := #[]
  instanceTypes := #[]
  staticTypes := #[]
  resolved := Array.replicate 11 none
  statics := none }

def pool10 : Array CpInfo := pool [(1, .class_ 2), (0, u "java/lang/constant/ConstantDesc"), (0, .class_ 4), (0, u "java/lang/Object")] 32

/-- java/lang/constant/ConstantDesc -/
def k10 : Class := { plain "java/lang/constant/ConstantDesc" (some 0) with
  accessFlags := 1537
  interfaces := #[]
  cf := some (fileOf pool10 1 #[] #[] 1537 3 #[] #[])
  fields := #[]
  methods := #[]
  instanceTypes := #[]
  staticTypes := #[]
  resolved := Array.replicate 37 none
  statics := none }

def pool11 : Array CpInfo := pool [(2, .class_ 4), (1, u "java/lang/Object"), (0, u "<init>"), (0, u "()V"), (3, .class_ 12), (1, u "java/lang/String"), (0, u "value"), (0, u "[B"), (2, u "coder"), (0, u "B"), (2, u "hash"), (0, u "I"), (2, u "hashIsZero"), (0, u "Z"), (13, u "COMPACT_STRINGS"), (534, .class_ 576), (0, u "java/lang/CharSequence"), (22, u "CASE_INSENSITIVE_ORDER"), (0, u "Ljava/util/Comparator;"), (500, u "serialPersistentFields"), (0, u "[Ljava/io/ObjectStreamField;"), (0, .class_ 1104), (0, u "java/lang/String$CaseInsensitiveComparator"), (1, .class_ 1107), (0, u "java/io/Serializable"), (0, .class_ 1109), (0, u "java/lang/Comparable"), (0, .class_ 1111), (0, u "java/lang/constant/Constable"), (0, .class_ 1113), (0, u "java/lang/constant/ConstantDesc"), (2, u "serialVersionUID"), (0, u "J"), (3, u "REPL"), (0, u "C"), (2, u "LATIN1"), (1, u "UTF16")] 323

def k11m0 : Method := { name := "<init>", desc := "()V", sig := { parameters := [], returnType := none }, accessFlags := 1, code := none }
/-- java/lang/String -/
def k11 : Class := { plain "java/lang/String" (some 0) with
  accessFlags := 49
  interfaces := #[6, 7, 8, 9, 10]
  cf := some (fileOf pool11 10 #[.nestMembers #[1103]] #[{ accessFlags := 1, nameIndex := 5, descriptorIndex := 6, attributes := #[] }] 49 2 #[1106, 1108, 575, 1110, 1112] #[{ accessFlags := 18, nameIndex := 13, descriptorIndex := 14, attributes := #[] }, { accessFlags := 18, nameIndex := 17, descriptorIndex := 18, attributes := #[] }, { accessFlags := 2, nameIndex := 21, descriptorIndex := 22, attributes := #[] }, { accessFlags := 2, nameIndex := 25, descriptorIndex := 26, attributes := #[] }, { accessFlags := 26, nameIndex := 1116, descriptorIndex := 1117, attributes := #[] }, { accessFlags := 24, nameIndex := 40, descriptorIndex := 26, attributes := #[] }, { accessFlags := 26, nameIndex := 1101, descriptorIndex := 1102, attributes := #[] }, { accessFlags := 26, nameIndex := 1121, descriptorIndex := 1122, attributes := #[] }, { accessFlags := 25, nameIndex := 599, descriptorIndex := 600, attributes := #[] }, { accessFlags := 24, nameIndex := 1125, descriptorIndex := 18, attributes := #[] }, { accessFlags := 24, nameIndex := 1127, descriptorIndex := 18, attributes := #[] }])
  fields := #[{ name := "value", type := (.array .byte), accessFlags := 18, slot := 0, constantValue := 0 }, { name := "coder", type := .byte, accessFlags := 18, slot := 1, constantValue := 0 }, { name := "hash", type := .int, accessFlags := 2, slot := 2, constantValue := 0 }, { name := "hashIsZero", type := .boolean, accessFlags := 2, slot := 3, constantValue := 0 }, { name := "serialVersionUID", type := .long, accessFlags := 26, slot := 0, constantValue := 0 }, { name := "COMPACT_STRINGS", type := .boolean, accessFlags := 24, slot := 1, constantValue := 0 }, { name := "serialPersistentFields", type := (.array (.object "java/io/ObjectStreamField")), accessFlags := 26, slot := 2, constantValue := 0 }, { name := "REPL", type := .char, accessFlags := 26, slot := 3, constantValue := 0 }, { name := "CASE_INSENSITIVE_ORDER", type := (.object "java/util/Comparator"), accessFlags := 25, slot := 4, constantValue := 0 }, { name := "LATIN1", type := .byte, accessFlags := 24, slot := 5, constantValue := 0 }, { name := "UTF16", type := .byte, accessFlags := 24, slot := 6, constantValue := 0 }]
  methods := #[k11m0]
  instanceTypes := #[(.array .byte), .byte, .int, .boolean]
  staticTypes := #[.long, .boolean, (.array (.object "java/io/ObjectStreamField")), .char, (.object "java/util/Comparator"), .byte, .byte]
  resolved := Array.replicate 1451 none
  statics := none }

def pool12 : Array CpInfo := pool [(2, .class_ 4), (1, u "java/lang/Object"), (0, u "<init>"), (0, u "()V"), (35, .class_ 44), (1, u "java/util/Objects"), (0, u "requireNonNull"), (48, u "(Ljava/lang/Object;Ljava/lang/String;)Ljava/lang/Object;")] 89

def k12m0 : Method := { name := "<init>", desc := "()V", sig := { parameters := [], returnType := none }, accessFlags := 2, code := none }
def k12c1 : Code := { maxStack := 3, maxLocals := 2, code := jdk_31_method_11_code, exceptionTable := #[], attributes := #[] }
def k12m1 : Method := { name := "requireNonNull", desc := "(Ljava/lang/Object;Ljava/lang/String;)Ljava/lang/Object;", sig := { parameters := [(.object "java/lang/Object"), (.object "java/lang/String")], returnType := some (.object "java/lang/Object") }, accessFlags := 9, code := some k12c1 }
/-- java/util/Objects -/
def k12 : Class := { plain "java/util/Objects" (some 0) with
  accessFlags := 49
  interfaces := #[]
  cf := some (fileOf pool12 42 #[] #[{ accessFlags := 2, nameIndex := 5, descriptorIndex := 6, attributes := #[] }, { accessFlags := 9, nameIndex := 45, descriptorIndex := 94, attributes := #[] }] 49 2 #[] #[])
  fields := #[]
  methods := #[k12m0, k12m1]
  instanceTypes := #[]
  staticTypes := #[]
  resolved := Array.replicate 184 none
  statics := none }

def pool13 : Array CpInfo := pool [(1, u "java/lang/Cloneable"), (0, .class_ 1), (0, u "java/lang/Object"), (0, .class_ 3)] 3

/-- java/lang/Cloneable -/
def k13 : Class := { plain "java/lang/Cloneable" (some 0) with
  accessFlags := 1537
  interfaces := #[]
  cf := some (fileOf pool13 2 #[] #[] 1537 4 #[] #[])
  fields := #[]
  methods := #[]
  instanceTypes := #[]
  staticTypes := #[]
  resolved := Array.replicate 8 none
  statics := none }

/-- the primitive byte -/
def k14 : Class := { plain "byte" none with kind := .primitive 'B', accessFlags := 0x411 }
/-- [B -/
def k15 : Class := { plain "[B" (some 0) with kind := .array 14 .byte, interfaces := #[13, 6], accessFlags := 1041 }

/-- the primitive int -/
def k16 : Class := { plain "int" none with kind := .primitive 'I', accessFlags := 0x411 }
/-- [I -/
def k17 : Class := { plain "[I" (some 0) with kind := .array 16 .int, interfaces := #[13, 6], accessFlags := 1041 }

/-- the primitive long -/
def k18 : Class := { plain "long" none with kind := .primitive 'J', accessFlags := 0x411 }
/-- [J -/
def k19 : Class := { plain "[J" (some 0) with kind := .array 18 .long, interfaces := #[13, 6], accessFlags := 1041 }

def classes0 : Array Class := #[k0, k1, k2, k3, k4, k5, k6, k7, k8, k9, k10, k11, k12, k13, k14, k15, k16, k17, k18, k19]
/-- the class that the rule has made for the site at 2 of com/example/filters_under_siege/filtersundersiege/KeeperPairs.<init> -/
def k20 : Class := Jvm.LamKit.madeRec { classes := classes0 } "com/example/filters_under_siege/filtersundersiege/KeeperPairs" (Jvm.Lambda.Shape.mk "java/util/function/LongPredicate" "test" (Jvm.ClassFile.MethodDescriptor.mk ([Jvm.ClassFile.FieldType.long] : List Jvm.ClassFile.FieldType) (Option.some Jvm.ClassFile.FieldType.boolean)) ([] : List Jvm.ClassFile.FieldType) (6 : Nat) "com/example/filters_under_siege/filtersundersiege/KeeperPairs" "lambda$new$0" (Jvm.ClassFile.MethodDescriptor.mk ([Jvm.ClassFile.FieldType.long] : List Jvm.ClassFile.FieldType) (Option.some Jvm.ClassFile.FieldType.boolean)) false (Jvm.ClassFile.MethodDescriptor.mk ([Jvm.ClassFile.FieldType.long] : List Jvm.ClassFile.FieldType) (Option.some Jvm.ClassFile.FieldType.boolean))) 20

def heap : Heap := #[{ cls := 20, slots := #[], vm := .none }]
def classes : Array Class := #[k0, k1, k2, k3, k4, k5, k6, k7, k8, k9, k10, k11, k12, k13, k14, k15, k16, k17, k18, k19, k20]
def interned : List (Array UInt16 × Addr) := []
def slotsUsed : Nat := 0
def theMethod : MethodId := ⟨1, 1⟩
def args0 : Array Value := #[.int 5, .int 5, .int 5, .int 5, .int 5, .int 5]
def aboutOver (below : List Frame) : State where
  vm := { classes := classes, interned := interned.toArray }
  heap := heap
  slotsUsed := slotsUsed
  threads := #[{ frames := .invoking theMethod args0 :: below }]
def below0 : List Frame := [.native { method := ⟨0, 0⟩, args := #[] }]
def about1 : State := aboutOver below0
def p0 : Program := .bare "" "" ""
def e0 : Env := launch0.env 0 0 0
theorem w_frames : about1.frames = Frame.invoking theMethod args0 :: below0 := rfl
set_option maxRecDepth 65536 in
theorem w_args : argsFit about1.vm theMethod args0 = true := by decide +kernel
set_option maxRecDepth 65536 in
theorem w_heap : heapFits about1 = true := by decide +kernel
set_option maxRecDepth 65536 in
theorem w_runnable : about1.curStatus? = some .runnable := by decide +kernel
set_option maxRecDepth 65536 in
theorem w_alone : about1.alone = true := by decide +kernel
set_option maxRecDepth 65536 in
theorem w_named : about1.methodNamed? x = some theMethod := by decide +kernel
set_option maxRecDepth 65536 in
theorem w_hears : about1.hears theMethod below0 = true := by decide +kernel
set_option maxRecDepth 65536 in
theorem w_ripe : about1.ripe theMethod args0 below0 = true := by decide +kernel
theorem w_running : about1.status = .running := rfl
set_option maxRecDepth 65536 in
theorem w_room : about1.hasRoom e0.platform room_1 = true :=
  launch0.hasRoom_least _ room_1 (by decide +kernel) (by decide +kernel) (by decide +kernel) (by decide +kernel) (by decide +kernel) (by decide +kernel)
theorem allAtoms_all (ts : List Jvm.Cond) (a : Array Jvm.Value) (st : Jvm.State) : (allAtoms ts).before a st = ts.all (fun c => c.before a st) := by
  induction ts with
  | nil => rfl
  | cons c t ih =>
    show (Jvm.Cond.and c (allAtoms t)).before a st = _
    rw [Jvm.Cond.before_and, ih, List.all_cons]
def words1 : List Jvm.Cond := Jvm.Cond.code x code maxLocals ret :: tables_1
/-- a 'code' word, met by the world's own term for the bytes: nothing is compared byte by byte -/
theorem code_word {y : MethodName} {bytes : ByteArray} {mx : Nat} {rt : Option FieldType} {a : Array Value} {s : State} {m : MethodId} {meth : Method} {c : Code} (h1 : s.methodNamed? y = some m) (h2 : s.vm.method? m = some meth) (h3 : meth.code = some c) (h4 : c.code = bytes)
    (h5 : (c.maxLocals == mx && c.exceptionTable.isEmpty && decide (c.maxStack ≤ mostOperands) && decide (meth.sig.returnType = rt) && !meth.locks && decide (parseMethodDescriptor y.desc = some meth.sig)) = true) : (Jvm.Cond.code y bytes mx rt).before a s = true := by
  simp only [Bool.and_eq_true, beq_iff_eq, Bool.not_eq_true', decide_eq_true_eq] at h5
  obtain ⟨⟨⟨⟨⟨g1, g2⟩, g3⟩, g4⟩, g5⟩, g6⟩ := h5
  simp [Cond.before, Cond.holds, Cond.value, h1, h2, h3, h4, g1, g2, g3, g4, g5, g6]
def isCode : Jvm.Cond → Bool
  | .code _ _ _ _ => true
  | _ => false
theorem all_split {L : List Jvm.Cond} {P : Jvm.Cond → Bool} (h1 : L.all (fun c => isCode c || P c) = true) (h2 : ∀ c ∈ L.filter isCode, P c = true) : L.all P = true := by
  refine List.all_eq_true.mpr fun c hc => ?_
  have h := List.all_eq_true.mp h1 c hc
  rcases Bool.eq_false_or_eq_true (isCode c) with hi | hi
  · exact h2 c (List.mem_filter.mpr ⟨hc, hi⟩)
  · simpa [hi] using h
set_option maxRecDepth 65536 in
theorem w_c0 : (Jvm.Cond.code x code maxLocals ret).before args0 about1 = true := code_word (m := ⟨1, 1⟩) (meth := k1m1) (c := k1c1) (by decide +kernel) rfl rfl rfl (by decide +kernel)
set_option maxRecDepth 65536 in
theorem w_c1 : (Jvm.Cond.code ({ cls := "com/example/filters_under_siege/filtersundersiege/SketchShape", name := "<init>", desc := "(II)V" } : Jvm.MethodName) prog_39_method_1_code (3 : Nat) (Option.none : Option Jvm.ClassFile.FieldType)).before args0 about1 = true := code_word (m := ⟨4, 0⟩) (meth := k4m0) (c := k4c0) (by decide +kernel) rfl rfl rfl (by decide +kernel)
set_option maxRecDepth 65536 in
theorem w_c2 : (Jvm.Cond.code ({ cls := "java/lang/Record", name := "<init>", desc := "()V" } : Jvm.MethodName) jdk_30_method_1_code (1 : Nat) (Option.none : Option Jvm.ClassFile.FieldType)).before args0 about1 = true := code_word (m := ⟨3, 0⟩) (meth := k3m0) (c := k3c0) (by decide +kernel) rfl rfl rfl (by decide +kernel)
set_option maxRecDepth 65536 in
theorem w_c3 : (Jvm.Cond.code ({ cls := "java/lang/Object", name := "<init>", desc := "()V" } : Jvm.MethodName) object_method_1_code (1 : Nat) (Option.none : Option Jvm.ClassFile.FieldType)).before args0 about1 = true := code_word (m := ⟨0, 0⟩) (meth := k0m0) (c := k0c0) (by decide +kernel) rfl rfl rfl (by decide +kernel)
set_option maxRecDepth 65536 in
theorem w_c4 : (Jvm.Cond.code ({ cls := "com/example/filters_under_siege/filtersundersiege/KeeperPairs", name := "<init>", desc := "(Lcom/example/filters_under_siege/filtersundersiege/SketchShape;)V" } : Jvm.MethodName) prog_26_method_1_code (2 : Nat) (Option.none : Option Jvm.ClassFile.FieldType)).before args0 about1 = true := code_word (m := ⟨2, 0⟩) (meth := k2m0) (c := k2c0) (by decide +kernel) rfl rfl rfl (by decide +kernel)
set_option maxRecDepth 65536 in
theorem w_c5 : (Jvm.Cond.code ({ cls := "com/example/filters_under_siege/filtersundersiege/KeeperPairs", name := "<init>", desc := "(Lcom/example/filters_under_siege/filtersundersiege/SketchShape;Ljava/util/function/LongPredicate;)V" } : Jvm.MethodName) prog_26_method_3_code (3 : Nat) (Option.none : Option Jvm.ClassFile.FieldType)).before args0 about1 = true := code_word (m := ⟨2, 1⟩) (meth := k2m1) (c := k2c1) (by decide +kernel) rfl rfl rfl (by decide +kernel)
set_option maxRecDepth 65536 in
theorem w_c6 : (Jvm.Cond.code ({ cls := "java/util/Objects", name := "requireNonNull", desc := "(Ljava/lang/Object;Ljava/lang/String;)Ljava/lang/Object;" } : Jvm.MethodName) jdk_31_method_11_code (2 : Nat) (Option.some (Jvm.ClassFile.FieldType.object "java/lang/Object"))).before args0 about1 = true := code_word (m := ⟨12, 1⟩) (meth := k12m1) (c := k12c1) (by decide +kernel) rfl rfl rfl (by decide +kernel)
set_option maxRecDepth 65536 in
theorem w_c7 : (Jvm.Cond.code ({ cls := "com/example/filters_under_siege/filtersundersiege/SketchShape", name := "cells", desc := "()I" } : Jvm.MethodName) prog_39_method_2_code (1 : Nat) (Option.some Jvm.ClassFile.FieldType.int)).before args0 about1 = true := code_word (m := ⟨4, 1⟩) (meth := k4m1) (c := k4c1) (by decide +kernel) rfl rfl rfl (by decide +kernel)
set_option maxRecDepth 65536 in
theorem w_c8 : (Jvm.Cond.code ({ cls := "com/example/filters_under_siege/filtersundersiege/KeeperPairs", name := "add", desc := "([II)V" } : Jvm.MethodName) prog_26_method_4_code (5 : Nat) (Option.none : Option Jvm.ClassFile.FieldType)).before args0 about1 = true := code_word (m := ⟨2, 2⟩) (meth := k2m2) (c := k2c2) (by decide +kernel) rfl rfl rfl (by decide +kernel)
set_option maxRecDepth 65536 in
theorem w_c9 : (Jvm.Cond.code ({ cls := "com/example/filters_under_siege/filtersundersiege/SketchShape", name := "width", desc := "()I" } : Jvm.MethodName) prog_39_method_7_code (1 : Nat) (Option.some Jvm.ClassFile.FieldType.int)).before args0 about1 = true := code_word (m := ⟨4, 2⟩) (meth := k4m2) (c := k4c2) (by decide +kernel) rfl rfl rfl (by decide +kernel)
set_option maxRecDepth 65536 in
theorem w_c10 : (Jvm.Cond.code ({ cls := "com/example/filters_under_siege/filtersundersiege/KeeperPairs", name := "count", desc := "(II)J" } : Jvm.MethodName) prog_26_method_6_code (3 : Nat) (Option.some Jvm.ClassFile.FieldType.long)).before args0 about1 = true := code_word (m := ⟨2, 3⟩) (meth := k2m3) (c := k2c3) (by decide +kernel) rfl rfl rfl (by decide +kernel)
set_option maxRecDepth 65536 in
theorem w_c11 : (Jvm.Cond.code ({ cls := "com/example/filters_under_siege/filtersundersiege/KeeperPairs", name := "lambda$new$0", desc := "(J)Z" } : Jvm.MethodName) prog_26_method_9_code (2 : Nat) (Option.some Jvm.ClassFile.FieldType.boolean)).before args0 about1 = true := code_word (m := ⟨2, 4⟩) (meth := k2m4) (c := k2c4) (by decide +kernel) rfl rfl rfl (by decide +kernel)
def codes1 : List Jvm.Cond := [Jvm.Cond.code x code maxLocals ret, Jvm.Cond.code ({ cls := "com/example/filters_under_siege/filtersundersiege/SketchShape", name := "<init>", desc := "(II)V" } : Jvm.MethodName) prog_39_method_1_code (3 : Nat) (Option.none : Option Jvm.ClassFile.FieldType), Jvm.Cond.code ({ cls := "java/lang/Record", name := "<init>", desc := "()V" } : Jvm.MethodName) jdk_30_method_1_code (1 : Nat) (Option.none : Option Jvm.ClassFile.FieldType), Jvm.Cond.code ({ cls := "java/lang/Object", name := "<init>", desc := "()V" } : Jvm.MethodName) object_method_1_code (1 : Nat) (Option.none : Option Jvm.ClassFile.FieldType), Jvm.Cond.code ({ cls := "com/example/filters_under_siege/filtersundersiege/KeeperPairs", name := "<init>", desc := "(Lcom/example/filters_under_siege/filtersundersiege/SketchShape;)V" } : Jvm.MethodName) prog_26_method_1_code (2 : Nat) (Option.none : Option Jvm.ClassFile.FieldType), Jvm.Cond.code ({ cls := "com/example/filters_under_siege/filtersundersiege/KeeperPairs", name := "<init>", desc := "(Lcom/example/filters_under_siege/filtersundersiege/SketchShape;Ljava/util/function/LongPredicate;)V" } : Jvm.MethodName) prog_26_method_3_code (3 : Nat) (Option.none : Option Jvm.ClassFile.FieldType), Jvm.Cond.code ({ cls := "java/util/Objects", name := "requireNonNull", desc := "(Ljava/lang/Object;Ljava/lang/String;)Ljava/lang/Object;" } : Jvm.MethodName) jdk_31_method_11_code (2 : Nat) (Option.some (Jvm.ClassFile.FieldType.object "java/lang/Object")), Jvm.Cond.code ({ cls := "com/example/filters_under_siege/filtersundersiege/SketchShape", name := "cells", desc := "()I" } : Jvm.MethodName) prog_39_method_2_code (1 : Nat) (Option.some Jvm.ClassFile.FieldType.int), Jvm.Cond.code ({ cls := "com/example/filters_under_siege/filtersundersiege/KeeperPairs", name := "add", desc := "([II)V" } : Jvm.MethodName) prog_26_method_4_code (5 : Nat) (Option.none : Option Jvm.ClassFile.FieldType), Jvm.Cond.code ({ cls := "com/example/filters_under_siege/filtersundersiege/SketchShape", name := "width", desc := "()I" } : Jvm.MethodName) prog_39_method_7_code (1 : Nat) (Option.some Jvm.ClassFile.FieldType.int), Jvm.Cond.code ({ cls := "com/example/filters_under_siege/filtersundersiege/KeeperPairs", name := "count", desc := "(II)J" } : Jvm.MethodName) prog_26_method_6_code (3 : Nat) (Option.some Jvm.ClassFile.FieldType.long), Jvm.Cond.code ({ cls := "com/example/filters_under_siege/filtersundersiege/KeeperPairs", name := "lambda$new$0", desc := "(J)Z" } : Jvm.MethodName) prog_26_method_9_code (2 : Nat) (Option.some Jvm.ClassFile.FieldType.boolean)]
set_option maxRecDepth 65536 in
theorem codes_eq : words1.filter isCode = codes1 := rfl
theorem w_codes : ∀ c ∈ words1.filter isCode, c.before args0 about1 = true := by
  rw [codes_eq]
  intro c hc
  simp only [codes1, List.mem_cons, List.not_mem_nil, or_false] at hc
  rcases hc with rfl | rfl | rfl | rfl | rfl | rfl | rfl | rfl | rfl | rfl | rfl | rfl
  · exact w_c0
  · exact w_c1
  · exact w_c2
  · exact w_c3
  · exact w_c4
  · exact w_c5
  · exact w_c6
  · exact w_c7
  · exact w_c8
  · exact w_c9
  · exact w_c10
  · exact w_c11
set_option maxRecDepth 65536 in
theorem w_t1 : (words1.take 24).all (fun c => isCode c || c.before args0 about1) = true := by decide +kernel
set_option maxRecDepth 65536 in
theorem w_t2 : ((words1.drop 24).take 24).all (fun c => isCode c || c.before args0 about1) = true := by decide +kernel
set_option maxRecDepth 65536 in
theorem w_t3 : (((words1.drop 24).drop 24).take 24).all (fun c => isCode c || c.before args0 about1) = true := by decide +kernel
set_option maxRecDepth 65536 in
theorem w_t4 : (((words1.drop 24).drop 24).drop 24).all (fun c => isCode c || c.before args0 about1) = true := by decide +kernel
theorem w_tables : (allAtoms (Jvm.Cond.code x code maxLocals ret :: tables_1)).before args0 about1 = true := by
  rw [allAtoms_all]
  show words1.all (fun c => c.before args0 about1) = true
  refine all_split ?_ w_codes
  rw [← List.take_append_drop 24 words1, List.all_append, w_t1, ← List.take_append_drop 24 (words1.drop 24), List.all_append, w_t2, ← List.take_append_drop 24 ((words1.drop 24).drop 24), List.all_append, w_t3, w_t4]
  rfl
set_option maxRecDepth 65536 in
theorem w_case : (Jvm.Cond.and given_1 narrow_1).before args0 about1 = true := by decide +kernel
theorem w_applies : (headSpec (Jvm.Cond.code x code maxLocals ret :: tables_1) room_1).applies x e0.platform about1 = true :=
  (Spec.applies_iff w_frames).mpr ⟨w_running, w_runnable, w_alone, w_named, w_hears, w_ripe, w_room, w_tables⟩
theorem atStart : AtStart classFile x code maxLocals ret World_1 tables_1 room_1 Calls_1 rest_1 Pre_1 launch0 p0 e0 about1 theMethod args0 below0 :=
  ⟨lists_1, trivial, launch0.admits_env _ _ _, launch0.least_env, fairChoices_fair.cas, fairChoices_fair.clock, w_frames, w_args, w_heap, w_applies, trivial, trivial, w_case⟩
end start1
theorem witness_1 : WitnessClaimed_1 := ⟨start1.p0, start1.e0, start1.about1, start1.theMethod, start1.args0, start1.below0, start1.atStart⟩
end Jvm.Pilot.@@N@@
