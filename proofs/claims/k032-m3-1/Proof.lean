import JvmDerived
import JvmDerived.Pilot.@@N@@Statement
import JvmDerived.Pilot.@@N@@Code
set_option linter.unusedVariables false
set_option linter.unusedSimpArgs false
@@BLOCK:LamKit.lean.txt@@
namespace Jvm.Pilot.@@N@@
open Jvm Jvm.ClassFile Sem Op Lib Jvm.Free Jvm.Stand Jvm.LawKit Jvm.RoadKit Bundle Jvm.Pilot.@@N@@.Jvm.D
abbrev y1 : MethodName := ⟨"com/example/filters_under_siege/filtersundersiege/SketchShape", "<init>", "(II)V"⟩
abbrev y2 : MethodName := ⟨"java/lang/Record", "<init>", "()V"⟩
abbrev y3 : MethodName := ⟨"java/lang/Object", "<init>", "()V"⟩
abbrev y4 : MethodName := ⟨"com/example/filters_under_siege/filtersundersiege/KeeperPairs", "<init>", "(Lcom/example/filters_under_siege/filtersundersiege/SketchShape;)V"⟩
abbrev y5 : MethodName := ⟨"com/example/filters_under_siege/filtersundersiege/KeeperPairs", "<init>", "(Lcom/example/filters_under_siege/filtersundersiege/SketchShape;Ljava/util/function/LongPredicate;)V"⟩
abbrev y6 : MethodName := ⟨"java/util/Objects", "requireNonNull", "(Ljava/lang/Object;Ljava/lang/String;)Ljava/lang/Object;"⟩
abbrev y7 : MethodName := ⟨"com/example/filters_under_siege/filtersundersiege/SketchShape", "cells", "()I"⟩
abbrev y8 : MethodName := ⟨"com/example/filters_under_siege/filtersundersiege/KeeperPairs", "add", "([II)V"⟩
abbrev y9 : MethodName := ⟨"com/example/filters_under_siege/filtersundersiege/SketchShape", "width", "()I"⟩
abbrev y10 : MethodName := ⟨"com/example/filters_under_siege/filtersundersiege/KeeperPairs", "lambda$new$0", "(J)Z"⟩
abbrev y11 : MethodName := ⟨"com/example/filters_under_siege/filtersundersiege/KeeperPairs", "fingerprint", "(II)I"⟩
abbrev y12 : MethodName := ⟨"com/example/filters_under_siege/filtersundersiege/KeeperPairs", "count", "(II)J"⟩

abbrev jv (x : Int64) : Slot := .val (.long x)
abbrev un : Slot := .unset
abbrev se : Slot := .second
abbrev AT (p : Program) (e : Env) (below : List Frame) (T : State) (m : MethodId) (pc : Nat) (ls : Array Slot) (st : List Value) (tg : State) : Prop := Steps p.tables e below (T.setTop (mkF m pc ls st)) tg
theorem ow {Z : State} {a0 : Array Value} (hw : ∀ d ∈ tables_1, d.before a0 Z = true) (i : Nat) {d : Jvm.Cond} (h : tables_1[i]? = some d) : d.before a0 Z = true := hw _ (List.mem_of_getElem? h)
theorem own_lrem {p : Program} {l : Launch} {e : Env} {R : Room} {s : State} {m : MethodId} {args : Array Value} {below : List Frame} {meth : Method} {c : Code} {T : State} {locs : List Loc} {cells slots : Nat} {g : JFrame} {target : State} (X : Stand p l e R s m args below meth c T locs cells slots) (hx : p.tables.exec = Jvm.exec) (hg : g.method = m) {x y : Int64} {rest : List Value} (hd : decode c.code g.pc = .ok (.lrem, 1)) (hs : g.stack = .long y :: .long x :: rest) (hy : y ≠ 0)
    (hr : Steps p.tables e below (T.setTop { g with pc := g.pc + 1, stack := .long (x % y) :: rest }) target) : Steps p.tables e below (T.setTop g) target :=
  XS.lrem X.here hx hg hd hs hy (by rw [lrem_mod]; exact hr)
theorem own_eqInt {args : Array Value} {first s : State} {o : Option Outcome} {idx : List Nat} {t : Term} {n : Int32} (h : (Jvm.Cond.eq t (.int n)).value args first o s idx = some true) : t.eval args first o idx s = some (.int n) := by
  simp only [Cond.value, Term.eval] at h
  cases ht : t.eval args first o idx s with
  | none => simp [ht] at h
  | some v => cases v <;> simp [ht] at h ⊢; exact h
theorem own_eqLong {args : Array Value} {first s : State} {o : Option Outcome} {idx : List Nat} {t : Term} {n : Int64} (h : (Jvm.Cond.eq t (.long n)).value args first o s idx = some true) : t.eval args first o idx s = some (.long n) := by
  simp only [Cond.value, Term.eval] at h
  cases ht : t.eval args first o idx s with
  | none => simp [ht] at h
  | some v => cases v <;> simp [ht] at h ⊢; exact h
theorem own_eqRef {args : Array Value} {first s : State} {o : Option Outcome} {idx : List Nat} {t u : Term} {a : Addr} (hu : u.eval args first o idx s = some (.ref a)) (h : (Jvm.Cond.eq t u).value args first o s idx = some true) : t.eval args first o idx s = some (.ref a) := by
  simp only [Cond.value, hu] at h
  cases ht : t.eval args first o idx s with
  | none => simp [ht] at h
  | some v => cases v <;> simp [ht] at h ⊢; exact h

theorem own_x32 {a b : Int} (h : (a - b) % 4294967296 = 0) (r : -2147483648 ≤ a ∧ a ≤ 2147483647) (q : -2147483648 ≤ b ∧ b ≤ 2147483647) : a = b := by omega
theorem own_x64 {a b : Int} (h : (a - b) % 18446744073709551616 = 0) (r : -9223372036854775808 ≤ a ∧ a ≤ 9223372036854775807) (q : -9223372036854775808 ≤ b ∧ b ≤ 9223372036854775807) : a = b := by omega
theorem own_in {c : Cell} {n : Int32} (j : Int32) (S : c.slots.size = n.toNatClampNeg) (q : ¬ j < 0 ∧ j < n) : ¬ (j < 0 ∨ c.slots.size ≤ j.toNatClampNeg) := inb_of S q
theorem own_up {x a b : Int32} (h : x < a) (q : a.toInt ≤ b.toInt) : x < b := Int32.lt_iff_toInt_lt.mpr (Int.lt_of_lt_of_le (Int32.lt_iff_toInt_lt.mp h) q)
theorem own_dn {x a b : Int32} (h : ¬ x < a) (q : b.toInt ≤ a.toInt) : ¬ x < b := fun z => h (own_up z q)
theorem own_neInt {args : Array Value} {first s : State} {o : Option Outcome} {idx : List Nat} {t : Term} {x n : Int32} (ht : t.eval args first o idx s = some (.int x)) (h : (Jvm.Cond.not (Jvm.Cond.eq t (.int n))).value args first o s idx = some true) : ¬ x = n := by
  simpa [Cond.value, Term.eval, ht] using h

theorem own_len {Z : State} {args : Array Value} {t : Term} {a : Addr} {cl : Cell} {ty : FieldType} {n : Int32} (ev : t.eval args Z none [] Z = some (.ref a)) (A : Arr Z Z.heap a cl ty) (h : (Term.length t).eval args Z none [] Z = some (.int n)) : cl.slots.size < 2 ^ 31 ∧ cl.slots.size.toInt32 = n := by
  have q := A.fin (U := Z) (Vm.Alike.refl _)
  simp only [Term.eval, ev, q, Option.bind_eq_bind, Option.bind_some, Option.pure_def] at h
  split at h
  · rename_i hlt; exact ⟨hlt, by simpa using h⟩
  · simp at h

theorem own_nar {v : Value} {c : String} (h : v.isRef = true) : narrow (.object c) v = v := by cases v <;> first | rfl | simp [Value.isRef] at h
theorem own_fits {v : Value} {c : String} (h : v.isRef = true) : fits (.object c) v = true := by cases v <;> first | rfl | simp [Value.isRef] at h
theorem own_cat {v : Value} (h : v.isRef = true) : v.category = 1 := by cases v <;> first | rfl | simp [Value.isRef] at h

theorem own_notOf {Z : State} {a0 : Array Value} {C S K : String} {n : Nat} (w : (Jvm.Cond.superclass C S).before a0 Z = true) (w0 : (Jvm.Cond.noSuperclass S).before a0 Z = true) (wk : (Jvm.Cond.instantiable K n).before a0 Z = true) (h1 : C ≠ K) (h2 : S ≠ K) :
    ∃ c t, Z.vm.findClass C = some c ∧ Z.vm.findClass K = some t ∧ Z.vm.assignable c t = false := by
  obtain ⟨t, k', g0, g2, g5, g7, -⟩ := Cond.instantiable_spec wk
  obtain ⟨c, h0⟩ := found_sup w
  obtain ⟨p, k, kp, q1, q2, q3, q4, q5, q6, q7⟩ := Cond.superclass_spec h0 w
  obtain ⟨c0, k0, r1, r2, r3, -, -⟩ := Cond.noSuperclass_spec w0
  cases q1.symm.trans r1
  have ne1 := ids_ne h0 g0 h1
  have ne2 := ids_ne r1 g0 h2
  have g8 := (Bool.or_eq_false_iff.mp g7).1
  have n3 : ∀ fuel, Z.vm.isSubclassAux fuel c t = false := by
    intro fuel
    cases fuel with
    | zero => rfl
    | succ f =>
      cases f with
      | zero => simp [Vm.isSubclassAux, ne1, q2, q4]
      | succ g => simp [Vm.isSubclassAux, ne1, ne2, q2, q4, r2, r3]
  refine ⟨c, t, h0, g0, ?_⟩
  show Z.vm.assignableAux (255 + 1) c t = false
  simp [Vm.assignableAux, ne1, q2, g2, q5, g5, g8, Vm.isSubclass, n3]

theorem own_selP {Z s : State} {a0 args : Array Value} {y : MethodName} {n : Nat} (hZ : Z.Warmed39 s.vm) (wi : (Jvm.Cond.instantiable y.cls n).before a0 Z = true) (wp : (Jvm.Cond.privateMethod y).before a0 Z = true) (wm : (Jvm.Cond.instanceMethod y).before a0 Z = true) (hy : y.cls ≠ "java/lang/invoke/MethodHandle" ∧ y.cls ≠ "java/lang/invoke/VarHandle") : (Jvm.Cond.selects y.cls y y).before args s = true := by
  obtain ⟨c, k, hc, hk, -, hni, -⟩ := Cond.instantiable_spec (mvT (s := s) (args := args) hZ wi)
  exact selects_self_of_private hc hk (Bool.or_eq_false_iff.mp hni).1 (Cond.privateMethod_at (mvP hZ wp (args := #[]))) (mvT hZ wm) hy

theorem own_neS {Z : State} {h : Heap} {a b u w : Addr} {C f d : String} {k k' : ClassId} {ty : FieldType} {z z' : Int32} {vs vs' : List Value} {dv dv' : Value} (Fa : Fld Z h a C f d (.ref u)) (Va : Arv Z h u k ty z vs dv) (Fb : Fld Z h b C f d (.ref w)) (Vb : Arv Z h w k' ty z' vs' dv') (hn : z ≠ z' ∨ ∃ i : Nat, i < z.toNatClampNeg ∧ vs.getD i dv ≠ vs'.getD i dv') : a ≠ b := fun e => by
  subst e
  have hu : u = w := by
    rcases Decidable.em (u = w) with q | q
    · exact q
    · exact absurd rfl (Fld.ne Fa Fb (fun x => q (Value.ref.inj x)))
  subst hu
  obtain ⟨c1, A1, -, S1, N1, H1, -⟩ := Va
  obtain ⟨c2, A2, -, S2, N2, H2, -⟩ := Vb
  cases A1.1.symm.trans A2.1
  rcases hn with hn | ⟨i, hi, hn⟩
  · exact hn ((len_of S1 N1).symm.trans (len_of S2 N2))
  · have q1 := H1 i (by rw [S1]; exact hi)
    have q2 := H2 i (by rw [S1]; exact hi)
    exact hn (Option.some.inj (q1.symm.trans q2))

theorem own_goal {P : Prop} (h : ∀ G : Prop, (P → G) → G) : P := h P id
theorem own_mono {p : Program} {l : Launch} {e : Env} {R : Room} {s : State} {m : MethodId} {args : Array Value} {below : List Frame} {meth : Method} {c : Code} {T : State} {locs : List Loc} {cells slots c2 s2 : Nat} (X : Stand p l e R s m args below meth c T locs cells slots) (h1 : cells ≤ c2) (h2 : slots ≤ s2) : Stand p l e R s m args below meth c T locs c2 s2 := { X with same := X.same.mono h1 h2 }

theorem own_sa {Z : State} {a0 : Array Value} (hw : ∀ d ∈ tables_1, d.before a0 Z = true) : ∀ a ∈ Bundle.stringAtoms, a.before a0 Z = true := fun d hd => by
  simp only [Bundle.stringAtoms, List.mem_cons, List.not_mem_nil, or_false] at hd
  rcases hd with rfl | rfl | rfl | rfl | rfl | rfl | rfl
  · exact ow hw 34 rfl
  · exact ow hw 35 rfl
  · exact ow hw 36 rfl
  · exact ow hw 37 rfl
  · exact ow hw 38 rfl
  · exact ow hw 39 rfl
  · exact ow hw 40 rfl
abbrev EL0 : List (String × Nat) := []
theorem own_sf0 {Z : State} {vm : Vm} {h : Heap} {x : Addr} : Safe Z EL0 vm h x := fun B => by
  obtain ⟨p, hp, -⟩ := B
  cases hp

abbrev sg0 : Lambda.Shape := (Jvm.Lambda.Shape.mk "java/util/function/LongPredicate" "test" (Jvm.ClassFile.MethodDescriptor.mk ([Jvm.ClassFile.FieldType.long] : List Jvm.ClassFile.FieldType) (Option.some Jvm.ClassFile.FieldType.boolean)) ([] : List Jvm.ClassFile.FieldType) (6 : Nat) "com/example/filters_under_siege/filtersundersiege/KeeperPairs" "lambda$new$0" (Jvm.ClassFile.MethodDescriptor.mk ([Jvm.ClassFile.FieldType.long] : List Jvm.ClassFile.FieldType) (Option.some Jvm.ClassFile.FieldType.boolean)) false (Jvm.ClassFile.MethodDescriptor.mk ([Jvm.ClassFile.FieldType.long] : List Jvm.ClassFile.FieldType) (Option.some Jvm.ClassFile.FieldType.boolean)))
abbrev xi0 : MethodName := ⟨"java/util/function/LongPredicate", "test", "(J)Z"⟩
def Lm (Z : State) (a : Addr) (cK : ClassId) : Prop := Jvm.LamKit.Made Z "com/example/filters_under_siege/filtersundersiege/KeeperPairs" sg0 cK ∧ Jvm.LamKit.FnAt Z.heap a cK ∧ ∃ (mD : MethodId) (kD : Class) (i0 p0 : Nat), Z.methodNamed? y4 = some mD ∧ Z.vm.classes[mD.cls]? = some kD ∧ (kD.callSites.find? fun y => y.1 == mD.idx && y.2.1 == 2) = some (i0, p0, .constant a)
theorem own_lm {Z : State} {a0 : Array Value} (h : (Jvm.Cond.lambdaSite y4 2 1 sg0).before a0 Z = true) : ∃ a cK, Lm Z a cK := by
  obtain ⟨cK, one, hat⟩ := Cond.lambdaSite_spec h
  obtain ⟨mD, kD, cfD, i0, p0, lk, hmD, hkD, -, -, -, hfind, hmade, hcan, hl⟩ := State.lambdaAt?_spec hat
  obtain ⟨kD', hkD', hnameD⟩ := className_of_methodNamed hmD
  cases hkD.symm.trans hkD'
  rcases hl with ⟨a, cell, rfl, -, -, hcell, hcls, hvm, -⟩ | ⟨-, -, hne⟩
  · exact ⟨a, cK, ⟨_, kD, hkD, hnameD, hmade, hcan⟩, ⟨cell, hcell, hcls, hvm⟩, mD, kD, i0, p0, hmD, hkD, hfind⟩
  · exact (hne rfl).elim
/-- the made class stands under warmer tables that may have interned -/
theorem own_made39 {s : State} {vm' : Vm} (hW : s.Warmed39 vm') {d c : ClassId} {sg : Lambda.Shape} (h : Lambda.isMade { classPath := fun _ => none } s.vm d sg c = true) : Lambda.isMade { classPath := fun _ => none } vm' d sg c = true := by
  have hA := hW.alike
  simp only [Lambda.isMade, Option.bind_eq_bind, Option.pure_def, Option.getD_eq_iff, Option.bind_eq_some_iff, Bool.false_eq_true, and_false, or_false] at h ⊢
  obtain ⟨dk, h2, k, h3, file, h4, cf, h5, object, ho, iface, hi, ok, h6, lay, h7, methods, h8, t, ht, tk, htk, h⟩ := h
  obtain ⟨dk', h2', e2⟩ := hA.2.2 _ _ h2
  obtain ⟨k', h3', e3, -, hres, -⟩ := hW.2.2.2 _ _ h3
  obtain ⟨ok', h6', e6⟩ := hA.2.2 _ _ h6
  obtain ⟨tk', htk', e7⟩ := hA.2.2 _ _ htk
  have n2 : dk'.name = dk.name := by rw [e2]
  have n6 : ok'.instanceTypes = ok.instanceTypes := by rw [e6]
  have n7 : tk'.isInterface = tk.isInterface := by rw [e7]; rfl
  refine ⟨dk', h2', k', h3', file, by rw [e3]; exact h4, cf, by rw [n2]; exact h5, object, by rw [hA.findClass]; exact ho, iface, by rw [hA.findClass]; exact hi, ok', h6', lay, by rw [n6]; exact h7, methods, h8, t, by rw [hA.findClass]; exact ht, tk', htk', ?_⟩
  rw [n7, Lambda.methodIn_ask_alike hA, Lambda.methodIn_ask_alike hA]
  cases hg : ((methodIn t sg.implName sg.implDesc.toString tk.isInterface none).ask { classPath := fun _ => none } s.vm).1 with
  | error x => simp [hg] at h
  | ok target =>
    cases hf : ((methodIn iface sg.name sg.sam.toString true none).ask { classPath := fun _ => none } s.vm).1 with
    | error x => simp [hg, hf] at h
    | ok found =>
      simp only [hg, hf, Option.some.injEq, Bool.and_eq_true] at h ⊢
      obtain ⟨⟨hb, b13⟩, b14⟩ := h
      have hb' := hb
      have q : k'.name = k.name ∧ k'.kind = k.kind ∧ k'.accessFlags = k.accessFlags ∧ k'.super = k.super ∧ k'.interfaces = k.interfaces ∧ k'.init = k.init ∧ k'.loader = k.loader ∧ k'.hidden = k.hidden ∧ k'.linked = k.linked ∧ k'.callSites = k.callSites ∧ k'.invokers = k.invokers ∧ k'.methods = k.methods ∧ k'.fields = k.fields ∧ k'.instanceTypes = k.instanceTypes ∧ k'.staticTypes = k.staticTypes := by
        rw [e3]; exact ⟨rfl, rfl, rfl, rfl, rfl, rfl, rfl, rfl, rfl, rfl, rfl, rfl, rfl, rfl, rfl⟩
      obtain ⟨q1, q2, q3, q4, q5, q6, q7, q8, q9, q10, q11, q12, q13, q14, q15⟩ := q
      rw [q1, q2, q3, q4, q5, q6, q7, q8, q9, q10, q11, q12, q13, q14, q15, n2, n6, Lambda.resolvedOf_alike hA, hA.selectMethod]
      refine ⟨⟨hb', ?_⟩, b14⟩
      rw [List.all_eq_true] at b13 ⊢
      intro y hy
      have hz := b13 y hy
      obtain ⟨x, i⟩ := y
      cases x with
      | none => rfl
      | some r =>
        simp only [Option.isNone_some, Bool.false_or, decide_eq_true_eq] at hz ⊢
        rcases hres i with h1 | ⟨h1, -⟩
        · rw [h1]; exact hz
        · rw [hz] at h1; cases h1
theorem own_madeAt {Z s : State} {host : String} {sg : Lambda.Shape} {cK : ClassId} (hZ : Z.Warmed39 s.vm) (H : Jvm.LamKit.Made Z host sg cK) : Jvm.LamKit.Made s host sg cK := by
  obtain ⟨d, dk, hd, hn, hm, hc⟩ := H
  have hA := hZ.alike
  obtain ⟨dk', hd', he⟩ := hA.2.2 _ _ hd
  refine ⟨d, dk', hd', by rw [he]; exact hn, own_made39 hZ hm, ?_⟩
  simp only [State.lambdaCallable, hA.findClass, hA.assignable, hA.superclasses, hA.declaredIn] at hc ⊢
  exact hc
section
variable {p : Program} {l : Launch} {e : Env} {R : Room} {s : State} {m : MethodId} {args : Array Value} {below : List Frame} {meth : Method} {c : Code} {T : State} {locs : List Loc} {cells slots : Nat}
theorem own_site {Z : State} {a : Addr} {cK : ClassId} (X : Stand p l e R s m args below meth c T locs cells slots) (hx : p.tables.exec = Jvm.exec) (HL : Lm Z a cK) (hZ : Z.Warmed39 s.vm) (hn : s.methodNamed? y4 = some m) {g : JFrame} (hg : g.method = m) (hpc : g.pc = 2) (hsize : g.locals.size = c.maxLocals) (hdg : decode c.code g.pc = .ok (.invokedynamic 1, 5)) {W : Nat} (hW : 2 * g.monitorRoom + (g.stack.map fun v => v.category).sum ≤ W) (hwords : W + 3072 ≤ R.locals) :
    ∀ target, Steps p.tables e below (T.setTop { g with pc := g.pc + 5, stack := .ref a :: g.stack }) target → Steps p.tables e below (T.setTop g) target := by
  obtain ⟨-, -, mD, kD, i0, p0, hmD, hkD, hf⟩ := HL
  have q := State.methodNamed?_setVm (s := Z) hZ.alike y4
  rw [hmD] at q
  have q' : s.methodNamed? y4 = some mD := q
  cases hn.symm.trans q'
  obtain ⟨kD', hk', he⟩ := hZ.alike.2.2 _ _ hkD
  have hw' : e.platform.lambdaLinkWords = 3072 := by rw [X.admits.platform]
  exact fun target h => X.lambdaConstant hx hg hsize hdg hk' (by rw [he, hpc]; exact hf) (by rw [hw']; omega) h
theorem own_efL (m : MethodId) (v : Int64) : entryFrame m #[.long v] 2 = mkF m 0 #[jv v, se] [] := by first | (simp [entryFrame, mkF, argsToLocals, Value.category]; done) | rfl
theorem own_pnK : plainName "com/example/filters_under_siege/filtersundersiege/KeeperPairs" = true := by first | (simp [plainName, overriddenIn]; done) | decide +kernel
theorem own_t0 : decode prog_26_method_9_code 0 = .ok (.iconst 1, 1) := by decide +kernel
theorem own_t1 : decode prog_26_method_9_code 1 = .ok (.ireturn, 1) := by decide +kernel
theorem own_tgt (l : Launch) (v : Int64) : Met l y10 [Cond.code y10 prog_26_method_9_code 2 (some .boolean)] { frames := 0, cells := 0, slots := 0, locals := 0 } (fun args _ => args = #[.long v]) (fun _ st o t => o = .returned (some (.int (1 : Int32))) ∧ t.heap = st.heap) 0 0 (fun _ => False) := by
  refine MetFree.of_bodyS (code := prog_26_method_9_code) (maxLocals := 2) (ret := some .boolean) own_pnK (Jvm.LamKit.hisOf (List.mem_singleton.mpr rfl)) ?_
  intro p e s m args below meth c s₁ Bd hml hP _
  obtain rfl : args = #[.long v] := hP
  have X := Stand.of_body Bd
  obtain ⟨fs, hr, hrun, hended, hW, hsame⟩ := X.leave (v := some (.int (1 : Int32))) (fun h => by rw [Bd.returns] at h; cases h)
  refine ⟨s₁.setFrames fs, _, ?_, hrun, hended, ⟨rfl, by rw [Bd.state]; rfl⟩, [], ⟨⟨_, rfl⟩, hW, hsame⟩, fun q hq => nomatch hq⟩
  refine castTop (own_efL m v) ?_
  refine XS.iconst X.here Bd.exec rfl (hb Bd.bytes own_t0) ?_
  exact X.ireturnOut Bd.exec Bd.returns (by first | rfl | decide) (Or.inr (Or.inl rfl)) (hb Bd.bytes own_t1) hr
def fcode0 : ByteArray := ⟨#[0x1f, 0xb8, 0x00, 0x11, 0xac]⟩
theorem own_fwd : Jvm.LamKit.fwdOK sg0 "com/example/filters_under_siege/filtersundersiege/KeeperPairs" fcode0 3 (some .boolean) 17 14 = true := by decide +kernel
theorem own_f0 : decode fcode0 0 = .ok (.lload_n 1, 1) := by decide +kernel
theorem own_f1 : decode fcode0 1 = .ok (.invokestatic 17, 3) := by decide +kernel
theorem own_f4 : decode fcode0 4 = .ok (.ireturn, 1) := by decide +kernel
theorem own_test {Z : State} {ar : Array Value} {a : Addr} {cK : ClassId} {n0 : Nat} {h : Heap} (X : Stand p l e R s m args below meth c T locs cells slots) (hx : p.tables.exec = Jvm.exec) (hw : ∀ d ∈ tables_1, d.before ar Z = true) (hZ : Z.Warmed39 s.vm) (hown : s.vm.findClass "com/example/filters_under_siege/filtersundersiege/KeeperPairs" = some m.cls) (HL : Lm Z a cK) (O : Old Z n0 h) (eT : T.heap = h) {g : JFrame} (hg : g.method = m) (hsize : g.locals.size = c.maxLocals) {v : Int64} {rest : List Value} (hstack : g.stack = .long v :: .ref a :: rest) (hdg : decode c.code g.pc = .ok (.invokeinterface 53 3, 5)) {W : Nat} (hW : 2 * g.monitorRoom + (rest.map fun v => v.category).sum ≤ W) (hfr : 2 ≤ R.frames) (hlo : W + 27 ≤ R.locals) (hc : cells ≤ R.cells) (hs : slots ≤ R.slots) :
    ∃ T', Stand p l e R s m args below meth c T' locs cells slots ∧ T'.heap = h ∧ ∀ target, Steps p.tables e below (T'.setTop { g with pc := g.pc + 5, stack := .int (1 : Int32) :: rest }) target → Steps p.tables e below (T.setTop g) target := by
  have hcodeT : (Cond.code y10 prog_26_method_9_code 2 (some .boolean)).before args s = true := mvT hZ (ow hw 75 rfl)
  have hfn : Jvm.LamKit.FnAt T.heap a cK := by
    obtain ⟨cell, h1, h2, h3⟩ := HL.2.1
    exact ⟨cell, by rw [eT]; exact O.2.2 _ _ h1, h2, h3⟩
  obtain ⟨w, st, t, T', L, X', hL, e1, e3, hq, st8⟩ := Jvm.LamKit.callLamS X hx (own := "com/example/filters_under_siege/filtersundersiege/KeeperPairs") (host := "com/example/filters_under_siege/filtersundersiege/KeeperPairs") (index := 53) (count := 3) (xi := xi0) (y := y10) (σ := sg0) (own_tgt l v) (fun _ _ _ _ h => h) rfl rfl
    (fun w hw' a' U hU => by rw [List.mem_singleton.mp hw']; exact word_at hU (Or.inl (by first | rfl | simp [Cond.onTables, Cond.keeps, Cond.steady])) hcodeT) (List.mem_singleton.mpr rfl)
    hown (mvT hZ (ow hw 71 rfl)) (mvT hZ (ow hw 72 rfl)) (mvT hZ (ow hw 73 rfl)) hcodeT (mvT hZ (ow hw 74 rfl)) (mvT hZ (ow hw 22 rfl)) (by decide +kernel) (by decide +kernel) (by decide) (own_madeAt hZ HL.1) hfn own_fwd own_f1 own_f4
    (g := g) hg hsize (argsL := [.long v]) (argsT := [.long v]) (rest := rest) (L0 := #[.val (.ref a), .val (.long v), .second])
    (fun sig h => by cases (by decide +kernel : parseMethodDescriptor xi0.desc = some ⟨[.long], some .boolean⟩).symm.trans h; rfl) (fun sig h => by cases (by decide +kernel : parseMethodDescriptor (MethodName.desc y10) = some ⟨[.long], some .boolean⟩).symm.trans h; rfl)
    hstack hdg (fun _ => by first | rfl | (simp [entryFrame, argsToLocals, Value.category]; done)) rfl
    (fun U ck bl target hU hck _ _ k => XS.lloadN hU hx rfl (hb hck own_f0) rfl k)
    (fun st w t h => by obtain ⟨h, -⟩ := h; cases h; exact Or.inl ⟨.boolean, _, rfl, Or.inr (Or.inl rfl), by first | rfl | decide, rfl, rfl⟩) hfr (by show _ + (3 + 11) + ((2 + 11) + 0) ≤ R.locals; omega) hc hs (fun _ _ _ => rfl)
  obtain ⟨hv, hh⟩ := hq
  cases hv
  exact ⟨T', Stand.forget (extra := L) X' (fun q hq => (hL q hq).elim), e1.trans (hh.trans (e3.trans eT)), st8⟩
end
def Wd (Z : State) (w_lam : Addr) (k_lam : ClassId) : Prop :=
  Lm Z w_lam k_lam ∧
  True
theorem pn_0 : plainName "java/lang/Record" = true := by first | (simp [plainName, overriddenIn]; done) | decide +kernel
theorem pn_1 : plainName "java/util/Objects" = true := by first | (simp [plainName, overriddenIn]; done) | decide +kernel
theorem pn_2 : plainName "com/example/filters_under_siege/filtersundersiege/SketchShape" = true := by first | (simp [plainName, overriddenIn]; done) | decide +kernel
theorem pn_3 : plainName "com/example/filters_under_siege/filtersundersiege/KeeperPairs" = true := by first | (simp [plainName, overriddenIn]; done) | decide +kernel
theorem pn_4 : plainName "com/example/filters_under_siege/filtersundersiege/KeeperPairsFingerprintPinLaw" = true := by first | (simp [plainName, overriddenIn]; done) | decide +kernel
theorem pd_0 : parseMethodDescriptor "()V" = some ⟨[], none⟩ := by decide +kernel
theorem pd_1 : parseMethodDescriptor "(Ljava/lang/Object;Ljava/lang/String;)Ljava/lang/Object;" = some ⟨[(.object "java/lang/Object"), (.object "java/lang/String")], some (.object "java/lang/Object")⟩ := by decide +kernel
theorem pd_2 : parseMethodDescriptor "()I" = some ⟨[], some .int⟩ := by decide +kernel
theorem pd_3 : parseMethodDescriptor "(Lcom/example/filters_under_siege/filtersundersiege/SketchShape;Ljava/util/function/LongPredicate;)V" = some ⟨[(.object "com/example/filters_under_siege/filtersundersiege/SketchShape"), (.object "java/util/function/LongPredicate")], none⟩ := by decide +kernel
theorem pd_4 : parseMethodDescriptor "(II)V" = some ⟨[.int, .int], none⟩ := by decide +kernel
theorem pd_5 : parseMethodDescriptor "(Lcom/example/filters_under_siege/filtersundersiege/SketchShape;)V" = some ⟨[(.object "com/example/filters_under_siege/filtersundersiege/SketchShape")], none⟩ := by decide +kernel
theorem pd_6 : parseMethodDescriptor "([II)V" = some ⟨[(.array .int), .int], none⟩ := by decide +kernel
theorem pd_7 : parseMethodDescriptor "(II)I" = some ⟨[.int, .int], some .int⟩ := by decide +kernel
theorem pd_8 : parseMethodDescriptor "(II)J" = some ⟨[.int, .int], some .long⟩ := by decide +kernel

def pI (c i v x : Int32) : Int32 := if c = i then v else x
def pJ (c i : Int32) (v x : Int64) : Int64 := if c = i then v else x
def nc (K : Int64) (F f : Int32) : Int64 := if K = (0 : Int64) then (K + (1 : Int64)) else if F = f then (K + (1 : Int64)) else if (K - (1 : Int64)) = (0 : Int64) then (1 : Int64) else (K - (1 : Int64))
def nf (K : Int64) (F f : Int32) : Int32 := if K = (0 : Int64) then f else if F = f then f else if (K - (1 : Int64)) = (0 : Int64) then f else F
theorem own_ppI {c i a b x : Int32} : pI c i a (pI c i b x) = pI c i a x := by unfold pI; split <;> rfl
theorem own_ppJ {c i : Int32} {a b x : Int64} : pJ c i a (pJ c i b x) = pJ c i a x := by unfold pJ; split <;> rfl
def sI3 (c : Int32) (x0 x1 x2 : Int32) : Int32 := if c = (0 : Int32) then x0 else if c = (1 : Int32) then x1 else x2
theorem own_spI3 {c : Int32} {v x0 x1 x2 : Int32} (h : c = (0 : Int32) ∨ c = (1 : Int32) ∨ c = (2 : Int32)) : sI3 c (pI c (0 : Int32) v x0) (pI c (1 : Int32) v x1) (pI c (2 : Int32) v x2) = v := by
  rcases h with rfl | rfl | rfl <;> rfl
theorem own_psI3_0 {c : Int32} {x0 x1 x2 : Int32} (h : c = (0 : Int32) ∨ c = (1 : Int32) ∨ c = (2 : Int32)) : pI c (0 : Int32) (sI3 c x0 x1 x2) x0 = x0 := by
  rcases h with rfl | rfl | rfl <;> rfl
theorem own_psI3_1 {c : Int32} {x0 x1 x2 : Int32} (h : c = (0 : Int32) ∨ c = (1 : Int32) ∨ c = (2 : Int32)) : pI c (1 : Int32) (sI3 c x0 x1 x2) x1 = x1 := by
  rcases h with rfl | rfl | rfl <;> rfl
theorem own_psI3_2 {c : Int32} {x0 x1 x2 : Int32} (h : c = (0 : Int32) ∨ c = (1 : Int32) ∨ c = (2 : Int32)) : pI c (2 : Int32) (sI3 c x0 x1 x2) x2 = x2 := by
  rcases h with rfl | rfl | rfl <;> rfl
theorem own_gI3_0 {c : Int32} {x0 x1 x2 x3 x4 x5 : Int32} (h : c = (0 : Int32) ∨ c = (1 : Int32) ∨ c = (2 : Int32)) : ([(.int x0), (.int x1), (.int x2), (.int x3), (.int x4), (.int x5)] : List Value).getD ((0 : Int32) + c).toNatClampNeg (.int (0 : Int32)) = (.int (sI3 c x0 x1 x2)) := by rcases h with rfl | rfl | rfl <;> rfl
theorem own_sI3_0 {c : Int32} {v x0 x1 x2 x3 x4 x5 : Int32} (h : c = (0 : Int32) ∨ c = (1 : Int32) ∨ c = (2 : Int32)) : ([(.int x0), (.int x1), (.int x2), (.int x3), (.int x4), (.int x5)] : List Value).set ((0 : Int32) + c).toNatClampNeg (.int v) = [(.int (pI c (0 : Int32) v x0)), (.int (pI c (1 : Int32) v x1)), (.int (pI c (2 : Int32) v x2)), (.int x3), (.int x4), (.int x5)] := by rcases h with rfl | rfl | rfl <;> rfl
theorem own_gI3_3 {c : Int32} {x0 x1 x2 x3 x4 x5 : Int32} (h : c = (0 : Int32) ∨ c = (1 : Int32) ∨ c = (2 : Int32)) : ([(.int x0), (.int x1), (.int x2), (.int x3), (.int x4), (.int x5)] : List Value).getD ((3 : Int32) + c).toNatClampNeg (.int (0 : Int32)) = (.int (sI3 c x3 x4 x5)) := by rcases h with rfl | rfl | rfl <;> rfl
theorem own_sI3_3 {c : Int32} {v x0 x1 x2 x3 x4 x5 : Int32} (h : c = (0 : Int32) ∨ c = (1 : Int32) ∨ c = (2 : Int32)) : ([(.int x0), (.int x1), (.int x2), (.int x3), (.int x4), (.int x5)] : List Value).set ((3 : Int32) + c).toNatClampNeg (.int v) = [(.int x0), (.int x1), (.int x2), (.int (pI c (0 : Int32) v x3)), (.int (pI c (1 : Int32) v x4)), (.int (pI c (2 : Int32) v x5))] := by rcases h with rfl | rfl | rfl <;> rfl
def sJ3 (c : Int32) (x0 x1 x2 : Int64) : Int64 := if c = (0 : Int32) then x0 else if c = (1 : Int32) then x1 else x2
theorem own_spJ3 {c : Int32} {v x0 x1 x2 : Int64} (h : c = (0 : Int32) ∨ c = (1 : Int32) ∨ c = (2 : Int32)) : sJ3 c (pJ c (0 : Int32) v x0) (pJ c (1 : Int32) v x1) (pJ c (2 : Int32) v x2) = v := by
  rcases h with rfl | rfl | rfl <;> rfl
theorem own_psJ3_0 {c : Int32} {x0 x1 x2 : Int64} (h : c = (0 : Int32) ∨ c = (1 : Int32) ∨ c = (2 : Int32)) : pJ c (0 : Int32) (sJ3 c x0 x1 x2) x0 = x0 := by
  rcases h with rfl | rfl | rfl <;> rfl
theorem own_psJ3_1 {c : Int32} {x0 x1 x2 : Int64} (h : c = (0 : Int32) ∨ c = (1 : Int32) ∨ c = (2 : Int32)) : pJ c (1 : Int32) (sJ3 c x0 x1 x2) x1 = x1 := by
  rcases h with rfl | rfl | rfl <;> rfl
theorem own_psJ3_2 {c : Int32} {x0 x1 x2 : Int64} (h : c = (0 : Int32) ∨ c = (1 : Int32) ∨ c = (2 : Int32)) : pJ c (2 : Int32) (sJ3 c x0 x1 x2) x2 = x2 := by
  rcases h with rfl | rfl | rfl <;> rfl
theorem own_gJ3_0 {c : Int32} {x0 x1 x2 x3 x4 x5 : Int64} (h : c = (0 : Int32) ∨ c = (1 : Int32) ∨ c = (2 : Int32)) : ([(.long x0), (.long x1), (.long x2), (.long x3), (.long x4), (.long x5)] : List Value).getD ((0 : Int32) + c).toNatClampNeg (.long (0 : Int64)) = (.long (sJ3 c x0 x1 x2)) := by rcases h with rfl | rfl | rfl <;> rfl
theorem own_sJ3_0 {c : Int32} {v x0 x1 x2 x3 x4 x5 : Int64} (h : c = (0 : Int32) ∨ c = (1 : Int32) ∨ c = (2 : Int32)) : ([(.long x0), (.long x1), (.long x2), (.long x3), (.long x4), (.long x5)] : List Value).set ((0 : Int32) + c).toNatClampNeg (.long v) = [(.long (pJ c (0 : Int32) v x0)), (.long (pJ c (1 : Int32) v x1)), (.long (pJ c (2 : Int32) v x2)), (.long x3), (.long x4), (.long x5)] := by rcases h with rfl | rfl | rfl <;> rfl
theorem own_gJ3_3 {c : Int32} {x0 x1 x2 x3 x4 x5 : Int64} (h : c = (0 : Int32) ∨ c = (1 : Int32) ∨ c = (2 : Int32)) : ([(.long x0), (.long x1), (.long x2), (.long x3), (.long x4), (.long x5)] : List Value).getD ((3 : Int32) + c).toNatClampNeg (.long (0 : Int64)) = (.long (sJ3 c x3 x4 x5)) := by rcases h with rfl | rfl | rfl <;> rfl
theorem own_sJ3_3 {c : Int32} {v x0 x1 x2 x3 x4 x5 : Int64} (h : c = (0 : Int32) ∨ c = (1 : Int32) ∨ c = (2 : Int32)) : ([(.long x0), (.long x1), (.long x2), (.long x3), (.long x4), (.long x5)] : List Value).set ((3 : Int32) + c).toNatClampNeg (.long v) = [(.long x0), (.long x1), (.long x2), (.long (pJ c (0 : Int32) v x3)), (.long (pJ c (1 : Int32) v x4)), (.long (pJ c (2 : Int32) v x5))] := by rcases h with rfl | rfl | rfl <;> rfl
theorem own_b3_0 {c : Int32} (h : c = (0 : Int32) ∨ c = (1 : Int32) ∨ c = (2 : Int32)) : ¬ ((0 : Int32) + c) < (0 : Int32) ∧ ((0 : Int32) + c) < (6 : Int32) := by rcases h with rfl | rfl | rfl <;> decide
theorem own_k3_0 {c : Int32} (h : c = (0 : Int32) ∨ c = (1 : Int32) ∨ c = (2 : Int32)) : ((0 : Int32) + c).toNatClampNeg < 6 := by rcases h with rfl | rfl | rfl <;> decide
theorem own_b3_3 {c : Int32} (h : c = (0 : Int32) ∨ c = (1 : Int32) ∨ c = (2 : Int32)) : ¬ ((3 : Int32) + c) < (0 : Int32) ∧ ((3 : Int32) + c) < (6 : Int32) := by rcases h with rfl | rfl | rfl <;> decide
theorem own_k3_3 {c : Int32} (h : c = (0 : Int32) ∨ c = (1 : Int32) ∨ c = (2 : Int32)) : ((3 : Int32) + c).toNatClampNeg < 6 := by rcases h with rfl | rfl | rfl <;> decide

theorem d2_0 : decode jdk_30_method_1_code 0 = .ok (.aload_n 0, 1) := by decide +kernel
theorem d2_1 : decode jdk_30_method_1_code 1 = .ok (.invokespecial 1, 3) := by decide +kernel
theorem d2_4 : decode jdk_30_method_1_code 4 = .ok (.return_, 1) := by decide +kernel
theorem ef_2 (m : MethodId) (a0 : Addr) : entryFrame m #[(.ref a0)] 1 = mkF m 0 #[rv a0] [] := by first | (simp [entryFrame, mkF, argsToLocals, Value.category]; done) | rfl
def Q2 (Z : State) (a0 : Addr) (h0 : Heap) (n0 : Nat) (v : Option Value) (h : Heap) (L : List Loc) : Prop := v = none ∧ Fr n0 L ∧ h = h0
set_option maxRecDepth 65536 in
set_option maxHeartbeats 40000000 in
theorem rm2 (l : Launch) (Z : State) (ar : Array Value) (hw : ∀ d ∈ tables_1, d.before ar Z = true) (ws : List Jvm.Cond) (a0 : Addr) (h0 : Heap) (n0 : Nat) (O0 : Old Z n0 h0) :
    MetFree l y2 (head1 (Jvm.Cond.code y2 jdk_30_method_1_code 1 none :: ws) ({ frames := 1, cells := 0, slots := 0, locals := 12 } : Room)) (fun a U => a = #[(.ref a0)] ∧ Z.Warmed39 U.vm ∧ U.heap = h0) (fun _ _ _ _ _ => True) (fun _ U o U' => ∃ v L, o = .returned v ∧ Q2 Z a0 h0 n0 v U'.heap L ∧ FrameEnd U o U' L ({ frames := 1, cells := 0, slots := 0, locals := 12 } : Room).cells ({ frames := 1, cells := 0, slots := 0, locals := 12 } : Room).slots) := by
 refine MetFree.of_bodySF (plainFor_of_name pn_0) hisR ?_
 intro p e s m args below meth c s₁ Bd hml0 hP hK
 obtain ⟨rfl, hZ, hh⟩ := hP
 have hx := Bd.exec
 have hby := Bd.bytes
 have hml : c.maxLocals = 1 := hml0
 have hown : s.vm.findClass "java/lang/Record" = some m.cls := findClass_of_methodNamed Bd.named
 have hnm := (name_of_methodNamed Bd.named Bd.method).1
 have hlk : meth.locks = false := by first | assumption | exact BodyLoose.notSynchronized (by assumption) | exact Body.notSynchronized (by assumption)
 have X0 : Stand p l e ({ frames := 1, cells := 0, slots := 0, locals := 12 } : Room) s m #[(.ref a0)] below meth c s₁ [] 0 0 := Stand.of_body Bd
 have e0 : s₁.heap = h0 := by rw [← hh, Bd.state]; rfl
 have N0 := Fr.nil n0
 have Z0 : n0 ≤ h0.size := Nat.le_trans (Nat.le_of_eq O0.1.symm) O0.2.1
 obtain ⟨S0, hS0⟩ : ∃ z, z = s₁.setTop (entryFrame m #[(.ref a0)] 1) := ⟨_, rfl⟩
 have pre0 : ∀ tg, AT p e below s₁ m 0 #[rv a0] [] tg → Steps p.tables e below S0 tg := fun tg kg => by rw [hS0]; exact castTop (ef_2 m a0) kg
 obtain ⟨T1, X1, e1, st1⟩ := initO X0 hx hZ hown (ow hw 12 rfl) (ow hw 13 rfl) (ow hw 14 rfl) e0 (g := (mkF m 1 #[rv a0] [(.ref a0)])) rfl (by rw [hml]; rfl) rfl (hb hby d2_1) (by decide) (W := 0) (by show 2 * 0 + _ ≤ _; exact Nat.le_of_eq rfl) (by decide)
 obtain ⟨fs, hr, hrun, hended, hW, hsame⟩ := X1.leave (v := none) (fun _ => rfl) hlk
 subst hS0
 refine ⟨_, _, pre0 _ ?_, hrun, hended, _, _, rfl, ?_, ⟨_, rfl⟩, hW, hsame.mono (by decide) (by decide)⟩
 ·
  refine XS.aloadN X0.here hx rfl (hb hby d2_0) rfl rfl ?_
  refine st1 _ ?_
  exact X1.returnOut hx Bd.returns (hb hby d2_4) hr
 ·
  show Q2 Z a0 h0 n0 _ T1.heap _
  rw [e1]
  exact ⟨rfl, N0, rfl⟩

theorem d6_0 : decode jdk_31_method_11_code 0 = .ok (.aload_n 0, 1) := by decide +kernel
theorem d6_1 : decode jdk_31_method_11_code 1 = .ok (.ifnonnull 12, 3) := by decide +kernel
theorem d6_13 : decode jdk_31_method_11_code 13 = .ok (.aload_n 0, 1) := by decide +kernel
theorem d6_14 : decode jdk_31_method_11_code 14 = .ok (.areturn, 1) := by decide +kernel
theorem ef_6 (m : MethodId) (a0 : Addr) (a1 : Addr) : entryFrame m #[(.ref a0), (.ref a1)] 2 = mkF m 0 #[rv a0, rv a1] [] := by first | (simp [entryFrame, mkF, argsToLocals, Value.category]; done) | rfl
def Q6 (Z : State) (a0 : Addr) (a1 : Addr) (h0 : Heap) (n0 : Nat) (v : Option Value) (h : Heap) (L : List Loc) : Prop := v = some (.ref a0) ∧ Fr n0 L ∧ h = h0
set_option maxRecDepth 65536 in
set_option maxHeartbeats 40000000 in
theorem rm6 (l : Launch) (Z : State) (ar : Array Value) (hw : ∀ d ∈ tables_1, d.before ar Z = true) (ws : List Jvm.Cond) (a0 : Addr) (a1 : Addr) (h0 : Heap) (n0 : Nat) (O0 : Old Z n0 h0) :
    MetFree l y6 (head1 (Jvm.Cond.code y6 jdk_31_method_11_code 2 (some (.object "java/lang/Object")) :: ws) ({ frames := 0, cells := 0, slots := 0, locals := 0 } : Room)) (fun a U => a = #[(.ref a0), (.ref a1)] ∧ Z.Warmed39 U.vm ∧ U.heap = h0) (fun _ _ _ _ _ => True) (fun _ U o U' => ∃ v L, o = .returned v ∧ Q6 Z a0 a1 h0 n0 v U'.heap L ∧ FrameEnd U o U' L ({ frames := 0, cells := 0, slots := 0, locals := 0 } : Room).cells ({ frames := 0, cells := 0, slots := 0, locals := 0 } : Room).slots) := by
 refine MetFree.of_bodySF (plainFor_of_name pn_1) hisR ?_
 intro p e s m args below meth c s₁ Bd hml0 hP hK
 obtain ⟨rfl, hZ, hh⟩ := hP
 have hx := Bd.exec
 have hby := Bd.bytes
 have hml : c.maxLocals = 2 := hml0
 have hown : s.vm.findClass "java/util/Objects" = some m.cls := findClass_of_methodNamed Bd.named
 have hnm := (name_of_methodNamed Bd.named Bd.method).1
 have hlk : meth.locks = false := by first | assumption | exact BodyLoose.notSynchronized (by assumption) | exact Body.notSynchronized (by assumption)
 have X0 : Stand p l e ({ frames := 0, cells := 0, slots := 0, locals := 0 } : Room) s m #[(.ref a0), (.ref a1)] below meth c s₁ [] 0 0 := Stand.of_body Bd
 have e0 : s₁.heap = h0 := by rw [← hh, Bd.state]; rfl
 have N0 := Fr.nil n0
 have Z0 : n0 ≤ h0.size := Nat.le_trans (Nat.le_of_eq O0.1.symm) O0.2.1
 obtain ⟨S0, hS0⟩ : ∃ z, z = s₁.setTop (entryFrame m #[(.ref a0), (.ref a1)] 2) := ⟨_, rfl⟩
 have pre0 : ∀ tg, AT p e below s₁ m 0 #[rv a0, rv a1] [] tg → Steps p.tables e below S0 tg := fun tg kg => by rw [hS0]; exact castTop (ef_6 m a0 a1) kg
 obtain ⟨fs, hr, hrun, hended, hW, hsame⟩ := X0.leave (v := some (.ref a0)) (fun h => by rw [Bd.returns] at h; cases h) hlk
 subst hS0
 refine ⟨_, _, pre0 _ ?_, hrun, hended, _, _, rfl, ?_, ⟨_, rfl⟩, hW, hsame.mono (by decide) (by decide)⟩
 ·
  refine XS.aloadN X0.here hx rfl (hb hby d6_0) rfl rfl ?_
  show AT p e below s₁ m 1 #[rv a0, rv a1] [(.ref a0)] _
  refine XS.ifnonnullYes X0.here hx rfl (pc0 := 1) (pc' := 13) rfl (hb hby d6_1) rfl (by decide) (by decide) ?_
  refine XS.aloadN X0.here hx rfl (hb hby d6_13) rfl rfl ?_
  exact retOut X0 hx (t := (.object "java/lang/Object")) (i := .areturn) Bd.returns rfl (Or.inr (Or.inr (Or.inr (Or.inr ⟨rfl, rfl, rfl⟩)))) (hb hby d6_14) hr
 ·
  show Q6 Z a0 a1 h0 n0 _ s₁.heap _
  rw [e0]
  exact ⟨rfl, N0, rfl⟩

theorem d9_0 : decode prog_39_method_7_code 0 = .ok (.aload_n 0, 1) := by decide +kernel
theorem d9_1 : decode prog_39_method_7_code 1 = .ok (.getfield 28, 3) := by decide +kernel
theorem d9_4 : decode prog_39_method_7_code 4 = .ok (.ireturn, 1) := by decide +kernel
theorem ef_9 (m : MethodId) (a0 : Addr) : entryFrame m #[(.ref a0)] 1 = mkF m 0 #[rv a0] [] := by first | (simp [entryFrame, mkF, argsToLocals, Value.category]; done) | rfl
def Q9 (Z : State) (a0 : Addr) (wv : Int32) (h0 : Heap) (n0 : Nat) (v : Option Value) (h : Heap) (L : List Loc) : Prop := v = some (.int wv) ∧ Fr n0 L ∧ h = h0
set_option maxRecDepth 65536 in
set_option maxHeartbeats 40000000 in
theorem rm9 (l : Launch) (Z : State) (ar : Array Value) (hw : ∀ d ∈ tables_1, d.before ar Z = true) (ws : List Jvm.Cond) (a0 : Addr) (wv : Int32) (h0 : Heap) (n0 : Nat) (O0 : Old Z n0 h0) (pf0 : Fld Z h0 a0 "com/example/filters_under_siege/filtersundersiege/SketchShape" "width" "I" (.int wv)) :
    MetFree l y9 (head1 (Jvm.Cond.code y9 prog_39_method_7_code 1 (some .int) :: ws) ({ frames := 0, cells := 0, slots := 0, locals := 0 } : Room)) (fun a U => a = #[(.ref a0)] ∧ Z.Warmed39 U.vm ∧ U.heap = h0) (fun _ _ _ _ _ => True) (fun _ U o U' => ∃ v L, o = .returned v ∧ Q9 Z a0 wv h0 n0 v U'.heap L ∧ FrameEnd U o U' L ({ frames := 0, cells := 0, slots := 0, locals := 0 } : Room).cells ({ frames := 0, cells := 0, slots := 0, locals := 0 } : Room).slots) := by
 refine MetFree.of_bodySF (plainFor_of_name pn_2) hisR ?_
 intro p e s m args below meth c s₁ Bd hml0 hP hK
 obtain ⟨rfl, hZ, hh⟩ := hP
 have hx := Bd.exec
 have hby := Bd.bytes
 have hml : c.maxLocals = 1 := hml0
 have hown : s.vm.findClass "com/example/filters_under_siege/filtersundersiege/SketchShape" = some m.cls := findClass_of_methodNamed Bd.named
 have hnm := (name_of_methodNamed Bd.named Bd.method).1
 have hlk : meth.locks = false := by first | assumption | exact BodyLoose.notSynchronized (by assumption) | exact Body.notSynchronized (by assumption)
 have X0 : Stand p l e ({ frames := 0, cells := 0, slots := 0, locals := 0 } : Room) s m #[(.ref a0)] below meth c s₁ [] 0 0 := Stand.of_body Bd
 have e0 : s₁.heap = h0 := by rw [← hh, Bd.state]; rfl
 have N0 := Fr.nil n0
 have Z0 : n0 ≤ h0.size := Nat.le_trans (Nat.le_of_eq O0.1.symm) O0.2.1
 obtain ⟨S0, hS0⟩ : ∃ z, z = s₁.setTop (entryFrame m #[(.ref a0)] 1) := ⟨_, rfl⟩
 have pre0 : ∀ tg, AT p e below s₁ m 0 #[rv a0] [] tg → Steps p.tables e below S0 tg := fun tg kg => by rw [hS0]; exact castTop (ef_9 m a0) kg
 obtain ⟨T1, X1, e1, st1⟩ := getF X0 hx hZ hown (host := "") (Or.inl (ow hw 18 rfl)) Via.refl e0 pf0 (g := (mkF m 1 #[rv a0] [(.ref a0)])) rfl rfl (hb hby d9_1)
 obtain ⟨fs, hr, hrun, hended, hW, hsame⟩ := X1.leave (v := some (.int wv)) (fun h => by rw [Bd.returns] at h; cases h) hlk
 subst hS0
 refine ⟨_, _, pre0 _ ?_, hrun, hended, _, _, rfl, ?_, ⟨_, rfl⟩, hW, hsame.mono (by decide) (by decide)⟩
 ·
  refine XS.aloadN X0.here hx rfl (hb hby d9_0) rfl rfl ?_
  refine st1 _ ?_
  exact retOut X1 hx (t := .int) (i := .ireturn) Bd.returns rfl (Or.inl ⟨rfl, Or.inl rfl, _, rfl⟩) (hb hby d9_4) hr
 ·
  show Q9 Z a0 wv h0 n0 _ T1.heap _
  rw [e1]
  exact ⟨rfl, N0, rfl⟩

theorem d1_0 : decode prog_39_method_1_code 0 = .ok (.aload_n 0, 1) := by decide +kernel
theorem d1_1 : decode prog_39_method_1_code 1 = .ok (.invokespecial 1, 3) := by decide +kernel
theorem d1_4 : decode prog_39_method_1_code 4 = .ok (.iload_n 1, 1) := by decide +kernel
theorem d1_5 : decode prog_39_method_1_code 5 = .ok (.iconst 1, 1) := by decide +kernel
theorem d1_6 : decode prog_39_method_1_code 6 = .ok (.if_icmp .ge 17, 3) := by decide +kernel
theorem d1_23 : decode prog_39_method_1_code 23 = .ok (.iload_n 2, 1) := by decide +kernel
theorem d1_24 : decode prog_39_method_1_code 24 = .ok (.iconst 1, 1) := by decide +kernel
theorem d1_25 : decode prog_39_method_1_code 25 = .ok (.if_icmp .ge 17, 3) := by decide +kernel
theorem d1_42 : decode prog_39_method_1_code 42 = .ok (.iload_n 1, 1) := by decide +kernel
theorem d1_43 : decode prog_39_method_1_code 43 = .ok (.i2l, 1) := by decide +kernel
theorem d1_44 : decode prog_39_method_1_code 44 = .ok (.iload_n 2, 1) := by decide +kernel
theorem d1_45 : decode prog_39_method_1_code 45 = .ok (.i2l, 1) := by decide +kernel
theorem d1_46 : decode prog_39_method_1_code 46 = .ok (.lmul, 1) := by decide +kernel
theorem d1_47 : decode prog_39_method_1_code 47 = .ok (.ldc2_w 19, 3) := by decide +kernel
theorem d1_50 : decode prog_39_method_1_code 50 = .ok (.lcmp, 1) := by decide +kernel
theorem d1_51 : decode prog_39_method_1_code 51 = .ok (.ifCond .le 18, 3) := by decide +kernel
theorem d1_69 : decode prog_39_method_1_code 69 = .ok (.aload_n 0, 1) := by decide +kernel
theorem d1_70 : decode prog_39_method_1_code 70 = .ok (.iload_n 1, 1) := by decide +kernel
theorem d1_71 : decode prog_39_method_1_code 71 = .ok (.putfield 24, 3) := by decide +kernel
theorem d1_74 : decode prog_39_method_1_code 74 = .ok (.aload_n 0, 1) := by decide +kernel
theorem d1_75 : decode prog_39_method_1_code 75 = .ok (.iload_n 2, 1) := by decide +kernel
theorem d1_76 : decode prog_39_method_1_code 76 = .ok (.putfield 28, 3) := by decide +kernel
theorem d1_79 : decode prog_39_method_1_code 79 = .ok (.return_, 1) := by decide +kernel
theorem ef_1_3 (m : MethodId) (a0 : Addr) : entryFrame m #[(.ref a0), (.int (2 : Int32)), (.int (3 : Int32))] 3 = mkF m 0 #[rv a0, iv (2 : Int32), iv (3 : Int32)] [] := by first | (simp [entryFrame, mkF, argsToLocals, Value.category]; done) | rfl
def Q1_3 (Z : State) (a0 : Addr) (h0 : Heap) (n0 : Nat) (v : Option Value) (h : Heap) (L : List Loc) : Prop := v = none ∧ Fr n0 L ∧ Keep h0 h [a0] ∧ Exa Z h a0 "com/example/filters_under_siege/filtersundersiege/SketchShape" ∧ Fld Z h a0 "com/example/filters_under_siege/filtersundersiege/SketchShape" "rows" "I" (.int (2 : Int32)) ∧ Fld Z h a0 "com/example/filters_under_siege/filtersundersiege/SketchShape" "width" "I" (.int (3 : Int32))
set_option maxRecDepth 65536 in
set_option maxHeartbeats 40000000 in
theorem rm1_3 (l : Launch) (Z : State) (ar : Array Value) (hw : ∀ d ∈ tables_1, d.before ar Z = true) (ws : List Jvm.Cond) (a0 : Addr) (h0 : Heap) (n0 : Nat) (O0 : Old Z n0 h0) (pf0 : Exa Z h0 a0 "com/example/filters_under_siege/filtersundersiege/SketchShape") (pf1 : Fld Z h0 a0 "com/example/filters_under_siege/filtersundersiege/SketchShape" "rows" "I" (.int (0 : Int32))) (pf2 : Fld Z h0 a0 "com/example/filters_under_siege/filtersundersiege/SketchShape" "width" "I" (.int (0 : Int32))) (pf3 : n0 ≤ a0) :
    MetFree l y1 (head1 (Jvm.Cond.code y1 prog_39_method_1_code 3 none :: ws) ({ frames := 2, cells := 0, slots := 0, locals := 24 } : Room)) (fun a U => a = #[(.ref a0), (.int (2 : Int32)), (.int (3 : Int32))] ∧ Z.Warmed39 U.vm ∧ U.heap = h0) (fun _ _ _ _ _ => True) (fun _ U o U' => ∃ v L, o = .returned v ∧ Q1_3 Z a0 h0 n0 v U'.heap L ∧ FrameEnd U o U' L ({ frames := 2, cells := 0, slots := 0, locals := 24 } : Room).cells ({ frames := 2, cells := 0, slots := 0, locals := 24 } : Room).slots) := by
 refine MetFree.of_bodySF (plainFor_of_name pn_2) hisR ?_
 intro p e s m args below meth c s₁ Bd hml0 hP hK
 obtain ⟨rfl, hZ, hh⟩ := hP
 have hx := Bd.exec
 have hby := Bd.bytes
 have hml : c.maxLocals = 3 := hml0
 have hown : s.vm.findClass "com/example/filters_under_siege/filtersundersiege/SketchShape" = some m.cls := findClass_of_methodNamed Bd.named
 have hnm := (name_of_methodNamed Bd.named Bd.method).1
 have hlk : meth.locks = false := by first | assumption | exact BodyLoose.notSynchronized (by assumption) | exact Body.notSynchronized (by assumption)
 have X0 : Stand p l e ({ frames := 2, cells := 0, slots := 0, locals := 24 } : Room) s m #[(.ref a0), (.int (2 : Int32)), (.int (3 : Int32))] below meth c s₁ [] 0 0 := Stand.of_body Bd
 have e0 : s₁.heap = h0 := by rw [← hh, Bd.state]; rfl
 have N0 := Fr.nil n0
 have Z0 : n0 ≤ h0.size := Nat.le_trans (Nat.le_of_eq O0.1.symm) O0.2.1
 obtain ⟨S0, hS0⟩ : ∃ z, z = s₁.setTop (entryFrame m #[(.ref a0), (.int (2 : Int32)), (.int (3 : Int32))] 3) := ⟨_, rfl⟩
 have pre0 : ∀ tg, AT p e below s₁ m 0 #[rv a0, iv (2 : Int32), iv (3 : Int32)] [] tg → Steps p.tables e below S0 tg := fun tg kg => by rw [hS0]; exact castTop (ef_1_3 m a0) kg
 obtain ⟨_, _, ⟨T1, L1, k1, n1⟩, -, X1, ⟨Lc1, hQ1, l1, y1, z1⟩, st1⟩ := X0.specialBack hx (y := y2) rfl hown (mvT hZ (ow hw 7 rfl)) (mvT hZ (ow hw 8 rfl)) (mvT hZ (ow hw 11 rfl)) (by decide) (backOf (W := 0) (rm2 l Z ar hw [] a0 h0 n0 O0) hZ (ow hw 11 rfl) (ow hw 10 rfl) (by decide) (by decide)) (g := (mkF m 1 #[rv a0, iv (2 : Int32), iv (3 : Int32)] [(.ref a0)])) rfl (by rw [hml]; rfl) (Steps.refl _) (a := a0) (argsL := []) (rest := []) (lenOf pd_0 rfl) rfl (by show 2 * 0 + _ ≤ _; exact Nat.le_of_eq rfl) (hb hby d1_1) (fun _ _ => ⟨rfl, e0, (by decide : 0 + 0 ≤ _), (by decide : 0 + 0 ≤ _)⟩)
 dsimp only [Pt.U, Pt.locs, Pt.cells, Pt.slots] at X1 l1 y1 z1 st1 hQ1
 subst l1 y1 z1
 obtain ⟨rfl, N1q, e1⟩ := hQ1
 have N1 := Fr.app N0 N1q
 obtain ⟨T2, h2, X2, e2, W2, st2⟩ := putF X1 hx hZ hown (host := "") (Or.inl (ow hw 16 rfl)) Via.refl e1 pf1 pf0 (Or.inr ⟨(ow hw 17 rfl), rfl, hnm⟩) (ow hw 2 rfl) (ty := .int) (by decide) rfl rfl (g := (mkF m 71 #[rv a0, iv (2 : Int32), iv (3 : Int32)] [(.int (2 : Int32)), (.ref a0)])) rfl rfl (hb hby d1_71)
 have E2_3 := pf0.wr W2
 have F2_4 : Fld Z h2 a0 "com/example/filters_under_siege/filtersundersiege/SketchShape" "rows" "I" (.int (2 : Int32)) := pf1.same W2
 have F2_5 := pf2.other W2 (Or.inr (slot_ne (Or.inr (ow hw 19 rfl)) (Or.inr (ow hw 17 rfl)) (by decide) (t := .int) (t' := .int) (by decide) (by decide)))
 have K2 := (Keep.refl h0 [a0]).wr W2 (Or.inl (List.mem_of_getElem? (i := 0) rfl))
 have O2 := O0.wr W2 pf3
 have N2 := Fr.snoc X2 N1 pf3
 obtain ⟨T6, h6, X6, e6, W6, st6⟩ := putF X2 hx hZ hown (host := "") (Or.inl (ow hw 18 rfl)) Via.refl e2 F2_5 E2_3 (Or.inr ⟨(ow hw 19 rfl), rfl, hnm⟩) (ow hw 2 rfl) (ty := .int) (by decide) rfl rfl (g := (mkF m 76 #[rv a0, iv (2 : Int32), iv (3 : Int32)] [(.int (3 : Int32)), (.ref a0)])) rfl rfl (hb hby d1_76)
 have E6_7 := E2_3.wr W6
 have F6_8 := F2_4.other W6 (Or.inr (slot_ne (Or.inr (ow hw 17 rfl)) (Or.inr (ow hw 19 rfl)) (by decide) (t := .int) (t' := .int) (by decide) (by decide)))
 have F6_9 : Fld Z h6 a0 "com/example/filters_under_siege/filtersundersiege/SketchShape" "width" "I" (.int (3 : Int32)) := F2_5.same W6
 have K6 := K2.wr W6 (Or.inl (List.mem_of_getElem? (i := 0) rfl))
 have O6 := O2.wr W6 pf3
 have N6 := Fr.snoc X6 N2 pf3
 obtain ⟨fs, hr, hrun, hended, hW, hsame⟩ := X6.leave (v := none) (fun _ => rfl) hlk
 subst hS0
 refine ⟨_, _, pre0 _ ?_, hrun, hended, _, _, rfl, ?_, ⟨_, rfl⟩, hW, hsame.mono (by decide) (by decide)⟩
 ·
  refine XS.aloadN X0.here hx rfl (hb hby d1_0) rfl rfl ?_
  refine st1.trans ?_
  refine XS.iloadN X1.here hx rfl (hb hby d1_4) rfl ?_
  refine XS.iconst X1.here hx rfl (hb hby d1_5) ?_
  show AT p e below T1 m 6 #[rv a0, iv (2 : Int32), iv (3 : Int32)] [(.int (1 : Int32)), (.int (2 : Int32))] _
  refine XS.icmpYes X1.here hx rfl (pc0 := 6) (pc' := 23) rfl (hb hby d1_6) rfl (XT.ii_ge_t ((by decide) : ¬ ((2 : Int32) < (1 : Int32)))) (by decide) (by decide) ?_
  refine XS.iloadN X1.here hx rfl (hb hby d1_23) rfl ?_
  refine XS.iconst X1.here hx rfl (hb hby d1_24) ?_
  show AT p e below T1 m 25 #[rv a0, iv (2 : Int32), iv (3 : Int32)] [(.int (1 : Int32)), (.int (3 : Int32))] _
  refine XS.icmpYes X1.here hx rfl (pc0 := 25) (pc' := 42) rfl (hb hby d1_25) rfl (XT.ii_ge_t ((by decide) : ¬ ((3 : Int32) < (1 : Int32)))) (by decide) (by decide) ?_
  refine XS.iloadN X1.here hx rfl (hb hby d1_42) rfl ?_
  refine XS.i2l X1.here hx rfl (hb hby d1_43) rfl ?_
  refine XS.iloadN X1.here hx rfl (hb hby d1_44) rfl ?_
  refine XS.i2l X1.here hx rfl (hb hby d1_45) rfl ?_
  refine XS.lmul X1.here hx rfl (hb hby d1_46) rfl ?_
  refine X1.ldc2Long hx hown (mvT hZ (ow hw 15 rfl)) (g := (mkF m 47 #[rv a0, iv (2 : Int32), iv (3 : Int32)] [(.long (6 : Int64))])) rfl (hb hby d1_47) _ ?_
  show AT p e below T1 m 50 #[rv a0, iv (2 : Int32), iv (3 : Int32)] [(.long (1073741824 : Int64)), (.long (6 : Int64))] _
  refine XS.lcmp X1.here hx rfl (hb hby d1_50) rfl ?_
  show AT p e below T1 m 51 #[rv a0, iv (2 : Int32), iv (3 : Int32)] [(.int (XT.cmpL (6 : Int64) (1073741824 : Int64)))] _
  refine XS.ifYes X1.here hx rfl (pc0 := 51) (pc' := 69) rfl (hb hby d1_51) rfl (XT.ll_le_t ((by decide) : ¬ ((1073741824 : Int64) < (6 : Int64)))) (by decide) (by decide) ?_
  refine XS.aloadN X1.here hx rfl (hb hby d1_69) rfl rfl ?_
  refine XS.iloadN X1.here hx rfl (hb hby d1_70) rfl ?_
  refine st2 _ ?_
  refine XS.aloadN X2.here hx rfl (hb hby d1_74) rfl rfl ?_
  refine XS.iloadN X2.here hx rfl (hb hby d1_75) rfl ?_
  refine st6 _ ?_
  exact X6.returnOut hx Bd.returns (hb hby d1_79) hr
 ·
  show Q1_3 Z a0 h0 n0 _ T6.heap _
  rw [e6]
  exact ⟨rfl, N6, K6, E6_7, F6_8, F6_9⟩

theorem d7_0 : decode prog_39_method_2_code 0 = .ok (.aload_n 0, 1) := by decide +kernel
theorem d7_1 : decode prog_39_method_2_code 1 = .ok (.getfield 24, 3) := by decide +kernel
theorem d7_4 : decode prog_39_method_2_code 4 = .ok (.aload_n 0, 1) := by decide +kernel
theorem d7_5 : decode prog_39_method_2_code 5 = .ok (.getfield 28, 3) := by decide +kernel
theorem d7_8 : decode prog_39_method_2_code 8 = .ok (.imul, 1) := by decide +kernel
theorem d7_9 : decode prog_39_method_2_code 9 = .ok (.ireturn, 1) := by decide +kernel
theorem ef_7_3 (m : MethodId) (a0 : Addr) : entryFrame m #[(.ref a0)] 1 = mkF m 0 #[rv a0] [] := by first | (simp [entryFrame, mkF, argsToLocals, Value.category]; done) | rfl
def Q7_3 (Z : State) (a0 : Addr) (h0 : Heap) (n0 : Nat) (v : Option Value) (h : Heap) (L : List Loc) : Prop := v = some (.int (6 : Int32)) ∧ Fr n0 L ∧ h = h0
set_option maxRecDepth 65536 in
set_option maxHeartbeats 40000000 in
theorem rm7_3 (l : Launch) (Z : State) (ar : Array Value) (hw : ∀ d ∈ tables_1, d.before ar Z = true) (ws : List Jvm.Cond) (a0 : Addr) (h0 : Heap) (n0 : Nat) (O0 : Old Z n0 h0) (pf0 : Fld Z h0 a0 "com/example/filters_under_siege/filtersundersiege/SketchShape" "rows" "I" (.int (2 : Int32))) (pf1 : Fld Z h0 a0 "com/example/filters_under_siege/filtersundersiege/SketchShape" "width" "I" (.int (3 : Int32))) :
    MetFree l y7 (head1 (Jvm.Cond.code y7 prog_39_method_2_code 1 (some .int) :: ws) ({ frames := 0, cells := 0, slots := 0, locals := 0 } : Room)) (fun a U => a = #[(.ref a0)] ∧ Z.Warmed39 U.vm ∧ U.heap = h0) (fun _ _ _ _ _ => True) (fun _ U o U' => ∃ v L, o = .returned v ∧ Q7_3 Z a0 h0 n0 v U'.heap L ∧ FrameEnd U o U' L ({ frames := 0, cells := 0, slots := 0, locals := 0 } : Room).cells ({ frames := 0, cells := 0, slots := 0, locals := 0 } : Room).slots) := by
 refine MetFree.of_bodySF (plainFor_of_name pn_2) hisR ?_
 intro p e s m args below meth c s₁ Bd hml0 hP hK
 obtain ⟨rfl, hZ, hh⟩ := hP
 have hx := Bd.exec
 have hby := Bd.bytes
 have hml : c.maxLocals = 1 := hml0
 have hown : s.vm.findClass "com/example/filters_under_siege/filtersundersiege/SketchShape" = some m.cls := findClass_of_methodNamed Bd.named
 have hnm := (name_of_methodNamed Bd.named Bd.method).1
 have hlk : meth.locks = false := by first | assumption | exact BodyLoose.notSynchronized (by assumption) | exact Body.notSynchronized (by assumption)
 have X0 : Stand p l e ({ frames := 0, cells := 0, slots := 0, locals := 0 } : Room) s m #[(.ref a0)] below meth c s₁ [] 0 0 := Stand.of_body Bd
 have e0 : s₁.heap = h0 := by rw [← hh, Bd.state]; rfl
 have N0 := Fr.nil n0
 have Z0 : n0 ≤ h0.size := Nat.le_trans (Nat.le_of_eq O0.1.symm) O0.2.1
 obtain ⟨S0, hS0⟩ : ∃ z, z = s₁.setTop (entryFrame m #[(.ref a0)] 1) := ⟨_, rfl⟩
 have pre0 : ∀ tg, AT p e below s₁ m 0 #[rv a0] [] tg → Steps p.tables e below S0 tg := fun tg kg => by rw [hS0]; exact castTop (ef_7_3 m a0) kg
 obtain ⟨T1, X1, e1, st1⟩ := getF X0 hx hZ hown (host := "") (Or.inl (ow hw 16 rfl)) Via.refl e0 pf0 (g := (mkF m 1 #[rv a0] [(.ref a0)])) rfl rfl (hb hby d7_1)
 obtain ⟨T2, X2, e2, st2⟩ := getF X1 hx hZ hown (host := "") (Or.inl (ow hw 18 rfl)) Via.refl e1 pf1 (g := (mkF m 5 #[rv a0] [(.ref a0), (.int (2 : Int32))])) rfl rfl (hb hby d7_5)
 obtain ⟨fs, hr, hrun, hended, hW, hsame⟩ := X2.leave (v := some (.int (6 : Int32))) (fun h => by rw [Bd.returns] at h; cases h) hlk
 subst hS0
 refine ⟨_, _, pre0 _ ?_, hrun, hended, _, _, rfl, ?_, ⟨_, rfl⟩, hW, hsame.mono (by decide) (by decide)⟩
 ·
  refine XS.aloadN X0.here hx rfl (hb hby d7_0) rfl rfl ?_
  refine st1 _ ?_
  refine XS.aloadN X1.here hx rfl (hb hby d7_4) rfl rfl ?_
  refine st2 _ ?_
  refine XS.imul X2.here hx rfl (hb hby d7_8) rfl ?_
  exact retOut X2 hx (t := .int) (i := .ireturn) Bd.returns rfl (Or.inl ⟨rfl, Or.inl rfl, _, rfl⟩) (hb hby d7_9) hr
 ·
  show Q7_3 Z a0 h0 n0 _ T2.heap _
  rw [e2]
  exact ⟨rfl, N0, rfl⟩

theorem d5_0 : decode prog_26_method_3_code 0 = .ok (.aload_n 0, 1) := by decide +kernel
theorem d5_1 : decode prog_26_method_3_code 1 = .ok (.invokespecial 22, 3) := by decide +kernel
theorem d5_4 : decode prog_26_method_3_code 4 = .ok (.aload_n 0, 1) := by decide +kernel
theorem d5_5 : decode prog_26_method_3_code 5 = .ok (.aload_n 1, 1) := by decide +kernel
theorem d5_6 : decode prog_26_method_3_code 6 = .ok (.ldc 27, 2) := by decide +kernel
theorem d5_8 : decode prog_26_method_3_code 8 = .ok (.invokestatic 16, 3) := by decide +kernel
theorem d5_11 : decode prog_26_method_3_code 11 = .ok (.checkcast 29, 3) := by decide +kernel
theorem d5_14 : decode prog_26_method_3_code 14 = .ok (.putfield 31, 3) := by decide +kernel
theorem d5_17 : decode prog_26_method_3_code 17 = .ok (.aload_n 0, 1) := by decide +kernel
theorem d5_18 : decode prog_26_method_3_code 18 = .ok (.aload_n 2, 1) := by decide +kernel
theorem d5_19 : decode prog_26_method_3_code 19 = .ok (.putfield 34, 3) := by decide +kernel
theorem d5_22 : decode prog_26_method_3_code 22 = .ok (.aload_n 0, 1) := by decide +kernel
theorem d5_23 : decode prog_26_method_3_code 23 = .ok (.aload_n 1, 1) := by decide +kernel
theorem d5_24 : decode prog_26_method_3_code 24 = .ok (.invokevirtual 38, 3) := by decide +kernel
theorem d5_27 : decode prog_26_method_3_code 27 = .ok (.newarray .int, 2) := by decide +kernel
theorem d5_29 : decode prog_26_method_3_code 29 = .ok (.putfield 42, 3) := by decide +kernel
theorem d5_32 : decode prog_26_method_3_code 32 = .ok (.aload_n 0, 1) := by decide +kernel
theorem d5_33 : decode prog_26_method_3_code 33 = .ok (.aload_n 1, 1) := by decide +kernel
theorem d5_34 : decode prog_26_method_3_code 34 = .ok (.invokevirtual 38, 3) := by decide +kernel
theorem d5_37 : decode prog_26_method_3_code 37 = .ok (.newarray .long, 2) := by decide +kernel
theorem d5_39 : decode prog_26_method_3_code 39 = .ok (.putfield 46, 3) := by decide +kernel
theorem d5_42 : decode prog_26_method_3_code 42 = .ok (.return_, 1) := by decide +kernel
theorem ef_5_3 (m : MethodId) (a0 : Addr) (a1 : Addr) (a2 : Addr) : entryFrame m #[(.ref a0), (.ref a1), (.ref a2)] 3 = mkF m 0 #[rv a0, rv a1, rv a2] [] := by first | (simp [entryFrame, mkF, argsToLocals, Value.category]; done) | rfl
def Q5_3 (Z : State) (a0 : Addr) (a1 : Addr) (a2 : Addr) (h0 : Heap) (n0 : Nat) (v : Option Value) (h : Heap) (L : List Loc) : Prop := ∃ (fa : Addr) (ca : Addr) (kf : ClassId) (kc : ClassId), v = none ∧ Fr n0 L ∧ Keep h0 h [a0] ∧ Exa Z h a0 "com/example/filters_under_siege/filtersundersiege/KeeperPairs" ∧ Fld Z h a0 "com/example/filters_under_siege/filtersundersiege/KeeperPairs" "shape" "Lcom/example/filters_under_siege/filtersundersiege/SketchShape;" (.ref a1) ∧ Fld Z h a0 "com/example/filters_under_siege/filtersundersiege/KeeperPairs" "knocksDown" "Ljava/util/function/LongPredicate;" (.ref a2) ∧ Fld Z h a0 "com/example/filters_under_siege/filtersundersiege/KeeperPairs" "fingerprints" "[I" (.ref fa) ∧ Fld Z h a0 "com/example/filters_under_siege/filtersundersiege/KeeperPairs" "counts" "[J" (.ref ca) ∧ Arv Z h fa kf .int (6 : Int32) [(.int (0 : Int32)), (.int (0 : Int32)), (.int (0 : Int32)), (.int (0 : Int32)), (.int (0 : Int32)), (.int (0 : Int32))] (.int (0 : Int32)) ∧ Arv Z h ca kc .long (6 : Int32) [(.long (0 : Int64)), (.long (0 : Int64)), (.long (0 : Int64)), (.long (0 : Int64)), (.long (0 : Int64)), (.long (0 : Int64))] (.long (0 : Int64)) ∧ h0.size ≤ fa ∧ h0.size ≤ ca ∧ Exa Z h fa "[I" ∧ Exa Z h ca "[J"
set_option maxRecDepth 65536 in
set_option maxHeartbeats 40000000 in
theorem rm5_3 (l : Launch) (Z : State) (ar : Array Value) (hw : ∀ d ∈ tables_1, d.before ar Z = true) (ws : List Jvm.Cond) (a0 : Addr) (a1 : Addr) (a2 : Addr) (h0 : Heap) (n0 : Nat) (O0 : Old Z n0 h0) (hEL : EW Z ar EL0) (pf0 : Exa Z h0 a0 "com/example/filters_under_siege/filtersundersiege/KeeperPairs") (pf1 : Fld Z h0 a0 "com/example/filters_under_siege/filtersundersiege/KeeperPairs" "shape" "Lcom/example/filters_under_siege/filtersundersiege/SketchShape;" .null) (pf2 : Fld Z h0 a0 "com/example/filters_under_siege/filtersundersiege/KeeperPairs" "fingerprints" "[I" .null) (pf3 : Fld Z h0 a0 "com/example/filters_under_siege/filtersundersiege/KeeperPairs" "counts" "[J" .null) (pf4 : Fld Z h0 a0 "com/example/filters_under_siege/filtersundersiege/KeeperPairs" "knocksDown" "Ljava/util/function/LongPredicate;" .null) (pf5 : n0 ≤ a0) (pf6 : Exa Z h0 a1 "com/example/filters_under_siege/filtersundersiege/SketchShape") (pf7 : Fld Z h0 a1 "com/example/filters_under_siege/filtersundersiege/SketchShape" "rows" "I" (.int (2 : Int32))) (pf8 : Fld Z h0 a1 "com/example/filters_under_siege/filtersundersiege/SketchShape" "width" "I" (.int (3 : Int32))) (pf9 : a0 ≠ a1) :
    MetFree l y5 (head1 (Jvm.Cond.code y5 prog_26_method_3_code 3 none :: ws) ({ frames := 1, cells := 4, slots := 36, locals := 14 } : Room)) (fun a U => a = #[(.ref a0), (.ref a1), (.ref a2)] ∧ Z.Warmed39 U.vm ∧ U.heap = h0 ∧ CHv Z EL0 U.vm h0) (fun _ _ _ _ _ => True) (fun _ U o U' => ∃ v L, o = .returned v ∧ Q5_3 Z a0 a1 a2 h0 n0 v U'.heap L ∧ CHr Z EL0 U.vm U.heap U'.vm U'.heap ∧ ReturnedEndW U o U' L ({ frames := 1, cells := 4, slots := 36, locals := 14 } : Room).cells ({ frames := 1, cells := 4, slots := 36, locals := 14 } : Room).slots) := by
 refine MetFree.of_bodySF (plainFor_of_name pn_3) hisR ?_
 intro p e s m args below meth c s₁ Bd hml0 hP hK
 obtain ⟨rfl, hZ, hh, hCH⟩ := hP
 have hx := Bd.exec
 have hby := Bd.bytes
 have hml : c.maxLocals = 3 := hml0
 have hown : s.vm.findClass "com/example/filters_under_siege/filtersundersiege/KeeperPairs" = some m.cls := findClass_of_methodNamed Bd.named
 have hnm := (name_of_methodNamed Bd.named Bd.method).1
 have hlk : meth.locks = false := by first | assumption | exact BodyLoose.notSynchronized (by assumption) | exact Body.notSynchronized (by assumption)
 have X0 : Stand p l e ({ frames := 1, cells := 4, slots := 36, locals := 14 } : Room) (s.setVm s.vm) m #[(.ref a0), (.ref a1), (.ref a2)] below meth c s₁ [] 0 0 := Stand.of_body Bd
 have e0 : s₁.heap = h0 := by rw [← hh, Bd.state]; rfl
 have N0 := Fr.nil n0
 have Z0 : n0 ≤ h0.size := Nat.le_trans (Nat.le_of_eq O0.1.symm) O0.2.1
 obtain ⟨S0, hS0⟩ : ∃ z, z = s₁.setTop (entryFrame m #[(.ref a0), (.ref a1), (.ref a2)] 3) := ⟨_, rfl⟩
 have pre0 : ∀ tg, AT p e below s₁ m 0 #[rv a0, rv a1, rv a2] [] tg → Steps p.tables e below S0 tg := fun tg kg => by rw [hS0]; exact castTop (ef_5_3 m a0 a1 a2) kg
 have hS : s.Since s.vm 0 := (State.WarmedH.refl s).since 0
 have hk : 0 ≤ h0.size := Nat.zero_le _
 have CR0 : CHr Z EL0 s.vm h0 s.vm h0 := CHr.refl hCH
 obtain ⟨T1, X1, e1, st1⟩ := initO X0 hx hZ hown (ow hw 32 rfl) (ow hw 13 rfl) (ow hw 14 rfl) e0 (g := (mkF m 1 #[rv a0, rv a1, rv a2] [(.ref a0)])) rfl (by rw [hml]; rfl) rfl (hb hby d5_1) (by decide) (W := 0) (by show 2 * 0 + _ ≤ _; exact Nat.le_of_eq rfl) (by decide)
 obtain ⟨al2, T2, h2, q2, X2, e2, E2, hS, hk, hZ, hown, CRq2, Li2, st2⟩ := ldcOH X1 hx hZ hown (ow hw 33 rfl) (own_sa hw) e1 hS hk hEL CR0.1 (g := (mkF m 6 #[rv a0, rv a1, rv a2] [(.ref a1), (.ref a0)])) rfl (hb hby d5_6) (n := 20) (by decide) (by decide) (by decide) (by decide)
 have E2_3 := pf0.ext E2
 have F2_4 := pf1.ext E2
 have F2_5 := pf2.ext E2
 have F2_6 := pf3.ext E2
 have F2_7 := pf4.ext E2
 have E2_8 := pf6.ext E2
 have F2_9 := pf7.ext E2
 have F2_10 := pf8.ext E2
 have K2 := (Keep.refl h0 [a0]).ext E2
 have O2 : Old Z n0 h2 := O0.ext E2
 have CR2 : CHr Z EL0 s.vm h0 T2.vm h2 := CR0.trans CRq2
 obtain ⟨_, _, ⟨T11, L11, k11, n11⟩, -, X11, ⟨Lc11, hQ11, l11, y11, z11⟩, st11⟩ := Jvm.LawKit.callS X2 hx (y := y6) hown (mvT hZ (ow hw 41 rfl)) (mvT hZ (ow hw 42 rfl)) (mvT hZ (ow hw 43 rfl)) (mvT hZ (ow hw 44 rfl)) (by decide) (backOf (W := 1) (rm6 l Z ar hw [] a1 al2 h2 n0 O2) hZ (ow hw 44 rfl) (ow hw 43 rfl) (by decide) (by decide)) (g := (mkF m 8 #[rv a0, rv a1, rv a2] [(.ref al2), (.ref a1), (.ref a0)])) rfl (by rw [hml]; rfl) (argsL := [(.ref a1), (.ref al2)]) (rest := [(.ref a0)]) (lenOf pd_1 rfl) rfl (by show 2 * 0 + _ ≤ _; exact Nat.le_of_eq rfl) (hb hby d5_8) (fun _ _ => ⟨rfl, e2, (by decide : 2 + 0 ≤ _), (by decide : 24 + 0 ≤ _)⟩)
 dsimp only [Pt.U, Pt.locs, Pt.cells, Pt.slots] at X11 l11 y11 z11 st11 hQ11
 subst l11 y11 z11
 obtain ⟨rfl, N11q, e11⟩ := hQ11
 have N11 := Fr.app N0 N11q
 obtain ⟨T12, X12, e12, st12⟩ := castY X11 hx hZ hown (ow hw 45 rfl) e11 (Ins.self E2_8) (g := (mkF m 11 #[rv a0, rv a1, rv a2] [(.ref a1), (.ref a0)])) rfl rfl (hb hby d5_11)
 obtain ⟨T13, h13, X13, e13, W13, st13⟩ := putF X12 hx hZ hown (host := "") (Or.inl (ow hw 47 rfl)) Via.refl e12 F2_4 E2_3 (Or.inr ⟨(ow hw 48 rfl), rfl, hnm⟩) (ow hw 21 rfl) (ty := (.object "com/example/filters_under_siege/filtersundersiege/SketchShape")) (by decide) rfl rfl (g := (mkF m 14 #[rv a0, rv a1, rv a2] [(.ref a1), (.ref a0)])) rfl rfl (hb hby d5_14)
 have E13_14 := E2_3.wr W13
 have F13_15 : Fld Z h13 a0 "com/example/filters_under_siege/filtersundersiege/KeeperPairs" "shape" "Lcom/example/filters_under_siege/filtersundersiege/SketchShape;" (.ref a1) := F2_4.same W13
 have F13_16 := F2_5.other W13 (Or.inr (slot_ne (Or.inr (ow hw 57 rfl)) (Or.inr (ow hw 48 rfl)) (by decide) (t := (.array .int)) (t' := (.object "com/example/filters_under_siege/filtersundersiege/SketchShape")) (by decide) (by decide)))
 have F13_17 := F2_6.other W13 (Or.inr (slot_ne (Or.inr (ow hw 60 rfl)) (Or.inr (ow hw 48 rfl)) (by decide) (t := (.array .long)) (t' := (.object "com/example/filters_under_siege/filtersundersiege/SketchShape")) (by decide) (by decide)))
 have F13_18 := F2_7.other W13 (Or.inr (slot_ne (Or.inr (ow hw 50 rfl)) (Or.inr (ow hw 48 rfl)) (by decide) (t := (.object "java/util/function/LongPredicate")) (t' := (.object "com/example/filters_under_siege/filtersundersiege/SketchShape")) (by decide) (by decide)))
 have E13_19 := E2_8.wr W13
 have F13_20 := F2_9.other W13 (Or.inl (Ne.symm pf9))
 have F13_21 := F2_10.other W13 (Or.inl (Ne.symm pf9))
 have K13 := K2.wr W13 (Or.inl (List.mem_of_getElem? (i := 0) rfl))
 have O13 := O2.wr W13 pf5
 have CR13 : CHr Z EL0 s.vm h0 T2.vm h13 := CR2.trans (CHr.wr W13 own_sf0 CR2.1)
 have hk := Nat.le_trans hk (Keep.of_wr W13).1
 have N13 := Fr.snoc X13 N11 pf5
 obtain ⟨T22, h22, X22, e22, W22, st22⟩ := putF X13 hx hZ hown (host := "") (Or.inl (ow hw 49 rfl)) Via.refl e13 F13_18 E13_14 (Or.inr ⟨(ow hw 50 rfl), rfl, hnm⟩) (ow hw 21 rfl) (ty := (.object "java/util/function/LongPredicate")) (by decide) rfl rfl (g := (mkF m 19 #[rv a0, rv a1, rv a2] [(.ref a2), (.ref a0)])) rfl rfl (hb hby d5_19)
 have E22_23 := E13_14.wr W22
 have F22_24 := F13_15.other W22 (Or.inr (slot_ne (Or.inr (ow hw 48 rfl)) (Or.inr (ow hw 50 rfl)) (by decide) (t := (.object "com/example/filters_under_siege/filtersundersiege/SketchShape")) (t' := (.object "java/util/function/LongPredicate")) (by decide) (by decide)))
 have F22_25 := F13_16.other W22 (Or.inr (slot_ne (Or.inr (ow hw 57 rfl)) (Or.inr (ow hw 50 rfl)) (by decide) (t := (.array .int)) (t' := (.object "java/util/function/LongPredicate")) (by decide) (by decide)))
 have F22_26 := F13_17.other W22 (Or.inr (slot_ne (Or.inr (ow hw 60 rfl)) (Or.inr (ow hw 50 rfl)) (by decide) (t := (.array .long)) (t' := (.object "java/util/function/LongPredicate")) (by decide) (by decide)))
 have F22_27 : Fld Z h22 a0 "com/example/filters_under_siege/filtersundersiege/KeeperPairs" "knocksDown" "Ljava/util/function/LongPredicate;" (.ref a2) := F13_18.same W22
 have E22_28 := E13_19.wr W22
 have F22_29 := F13_20.other W22 (Or.inl (Ne.symm pf9))
 have F22_30 := F13_21.other W22 (Or.inl (Ne.symm pf9))
 have K22 := K13.wr W22 (Or.inl (List.mem_of_getElem? (i := 0) rfl))
 have O22 := O13.wr W22 pf5
 have CR22 : CHr Z EL0 s.vm h0 T2.vm h22 := CR13.trans (CHr.wr W22 own_sf0 CR13.1)
 have hk := Nat.le_trans hk (Keep.of_wr W22).1
 have N22 := Fr.snoc X22 N13 pf5
 obtain ⟨cq31, kq31, q31a, q31b, q31c⟩ := isOf hZ e22 E22_28
 obtain ⟨_, _, ⟨T31, L31, k31, n31⟩, -, X31, ⟨Lc31, hQ31, l31, y31, z31⟩, st31⟩ := X22.virtualBack hx (y := y7) (z := y7) hown (mvT hZ (ow hw 51 rfl)) (mvT hZ (ow hw 52 rfl)) (notFace_of_selects (args := #[]) (mvT hZ (ow hw 54 rfl))) (mvT hZ (ow hw 54 rfl)) (mvT hZ (ow hw 53 rfl)) (by decide) (backOf (W := 1) (rm7_3 l Z ar hw [] a1 h22 n0 O22 F22_29 F22_30) hZ (ow hw 55 rfl) (ow hw 3 rfl) (by decide) (by decide)) q31a q31c (g := (mkF m 24 #[rv a0, rv a1, rv a2] [(.ref a1), (.ref a0)])) rfl (by rw [hml]; rfl) (Steps.refl _) (argsL := []) (rest := [(.ref a0)]) (lenOf pd_2 rfl) rfl (by show 2 * 0 + _ ≤ _; exact Nat.le_of_eq rfl) (hb hby d5_24) (fun _ _ => ⟨rfl, e22, (by decide : 2 + 0 ≤ _), (by decide : 24 + 0 ≤ _)⟩)
 dsimp only [Pt.U, Pt.locs, Pt.cells, Pt.slots] at X31 l31 y31 z31 st31 hQ31
 subst l31 y31 z31
 obtain ⟨rfl, N31q, e31⟩ := hQ31
 have N31 := Fr.app N22 N31q
 obtain ⟨T32, h32, k32, X32, e32, E32, A32, B32, st32⟩ := newPE X31 hx hZ (ow hw 0 rfl) e31 (g := (mkF m 27 #[rv a0, rv a1, rv a2] [(.int (6 : Int32)), (.ref a0)])) rfl (hb hby d5_27) rfl (by decide) (cap := 6) (by decide) (by decide) (by decide) (by decide) (ad := "[I") (by decide)
 obtain ⟨b32, g32⟩ : ∃ z, z = h22.size := ⟨_, rfl⟩
 rw [← g32] at A32 B32 st32
 have ne32_33 : a0 ≠ b32 := Nat.ne_of_lt (Nat.lt_of_lt_of_le (E22_23).lt (Nat.le_of_eq g32.symm))
 have ne32_34 : a1 ≠ b32 := Nat.ne_of_lt (Nat.lt_of_lt_of_le (E22_28).lt (Nat.le_of_eq g32.symm))
 have gn32 : n0 ≤ b32 := Nat.le_trans (Nat.le_trans (Nat.le_of_eq O22.1.symm) O22.2.1) (Nat.le_of_eq g32.symm)
 have sz32 : h0.size ≤ b32 := Nat.le_trans K22.1 (Nat.le_of_eq g32.symm)
 have E32_35 := E22_23.ext E32
 have F32_36 := F22_24.ext E32
 have F32_37 := F22_25.ext E32
 have F32_38 := F22_26.ext E32
 have F32_39 := F22_27.ext E32
 have E32_40 := E22_28.ext E32
 have F32_41 := F22_29.ext E32
 have F32_42 := F22_30.ext E32
 have K32 := K22.ext E32
 have O32 := O22.ext E32
 have CR32 : CHr Z EL0 s.vm h0 T2.vm h32 := CR22.trans (CHr.ext E32 CR22.1)
 have hk := Nat.le_trans hk E32.1
 have V32_43 : Arv Z h32 b32 k32 .int (6 : Int32) [(.int (0 : Int32)), (.int (0 : Int32)), (.int (0 : Int32)), (.int (0 : Int32)), (.int (0 : Int32)), (.int (0 : Int32))] (.int (0 : Int32)) := (Arv.new A32 (by decide)).pad (pad_rep [] (.int (0 : Int32)) 6)
 obtain ⟨T44, h44, X44, e44, W44, st44⟩ := putF X32 hx hZ hown (host := "") (Or.inl (ow hw 56 rfl)) Via.refl e32 F32_37 E32_35 (Or.inr ⟨(ow hw 57 rfl), rfl, hnm⟩) (ow hw 21 rfl) (ty := (.array .int)) (by decide) rfl rfl (g := (mkF m 29 #[rv a0, rv a1, rv a2] [(.ref b32), (.ref a0)])) rfl rfl (hb hby d5_29)
 have E44_45 := E32_35.wr W44
 have F44_46 := F32_36.other W44 (Or.inr (slot_ne (Or.inr (ow hw 48 rfl)) (Or.inr (ow hw 57 rfl)) (by decide) (t := (.object "com/example/filters_under_siege/filtersundersiege/SketchShape")) (t' := (.array .int)) (by decide) (by decide)))
 have F44_47 : Fld Z h44 a0 "com/example/filters_under_siege/filtersundersiege/KeeperPairs" "fingerprints" "[I" (.ref b32) := F32_37.same W44
 have F44_48 := F32_38.other W44 (Or.inr (slot_ne (Or.inr (ow hw 60 rfl)) (Or.inr (ow hw 57 rfl)) (by decide) (t := (.array .long)) (t' := (.array .int)) (by decide) (by decide)))
 have F44_49 := F32_39.other W44 (Or.inr (slot_ne (Or.inr (ow hw 50 rfl)) (Or.inr (ow hw 57 rfl)) (by decide) (t := (.object "java/util/function/LongPredicate")) (t' := (.array .int)) (by decide) (by decide)))
 have E44_50 := E32_40.wr W44
 have F44_51 := F32_41.other W44 (Or.inl (Ne.symm pf9))
 have F44_52 := F32_42.other W44 (Or.inl (Ne.symm pf9))
 have V44_53 := V32_43.other W44 (Ne.symm ne32_33)
 have E44_54 := B32.wr W44
 have K44 := K32.wr W44 (Or.inl (List.mem_of_getElem? (i := 0) rfl))
 have O44 := O32.wr W44 pf5
 have CR44 : CHr Z EL0 s.vm h0 T2.vm h44 := CR32.trans (CHr.wr W44 own_sf0 CR32.1)
 have hk := Nat.le_trans hk (Keep.of_wr W44).1
 have N44 := Fr.snoc X44 N31 pf5
 obtain ⟨cq55, kq55, q55a, q55b, q55c⟩ := isOf hZ e44 E44_50
 obtain ⟨_, _, ⟨T55, L55, k55, n55⟩, -, X55, ⟨Lc55, hQ55, l55, y55, z55⟩, st55⟩ := X44.virtualBack hx (y := y7) (z := y7) hown (mvT hZ (ow hw 51 rfl)) (mvT hZ (ow hw 52 rfl)) (notFace_of_selects (args := #[]) (mvT hZ (ow hw 54 rfl))) (mvT hZ (ow hw 54 rfl)) (mvT hZ (ow hw 53 rfl)) (by decide) (backOf (W := 1) (rm7_3 l Z ar hw [] a1 h44 n0 O44 F44_51 F44_52) hZ (ow hw 55 rfl) (ow hw 3 rfl) (by decide) (by decide)) q55a q55c (g := (mkF m 34 #[rv a0, rv a1, rv a2] [(.ref a1), (.ref a0)])) rfl (by rw [hml]; rfl) (Steps.refl _) (argsL := []) (rest := [(.ref a0)]) (lenOf pd_2 rfl) rfl (by show 2 * 0 + _ ≤ _; exact Nat.le_of_eq rfl) (hb hby d5_34) (fun _ _ => ⟨rfl, e44, (by decide : 3 + 0 ≤ _), (by decide : 30 + 0 ≤ _)⟩)
 dsimp only [Pt.U, Pt.locs, Pt.cells, Pt.slots] at X55 l55 y55 z55 st55 hQ55
 subst l55 y55 z55
 obtain ⟨rfl, N55q, e55⟩ := hQ55
 have N55 := Fr.app N44 N55q
 obtain ⟨T56, h56, k56, X56, e56, E56, A56, B56, st56⟩ := newPE X55 hx hZ (ow hw 58 rfl) e55 (g := (mkF m 37 #[rv a0, rv a1, rv a2] [(.int (6 : Int32)), (.ref a0)])) rfl (hb hby d5_37) rfl (by decide) (cap := 6) (by decide) (by decide) (by decide) (by decide) (ad := "[J") (by decide)
 obtain ⟨b56, g56⟩ : ∃ z, z = h44.size := ⟨_, rfl⟩
 rw [← g56] at A56 B56 st56
 have ne56_57 : a0 ≠ b56 := Nat.ne_of_lt (Nat.lt_of_lt_of_le (E44_45).lt (Nat.le_of_eq g56.symm))
 have ne56_58 : a1 ≠ b56 := Nat.ne_of_lt (Nat.lt_of_lt_of_le (E44_50).lt (Nat.le_of_eq g56.symm))
 have ne56_59 : b32 ≠ b56 := Nat.ne_of_lt (Nat.lt_of_lt_of_le (V44_53).lt (Nat.le_of_eq g56.symm))
 have gn56 : n0 ≤ b56 := Nat.le_trans (Nat.le_trans (Nat.le_of_eq O44.1.symm) O44.2.1) (Nat.le_of_eq g56.symm)
 have sz56 : h0.size ≤ b56 := Nat.le_trans K44.1 (Nat.le_of_eq g56.symm)
 have E56_60 := E44_45.ext E56
 have F56_61 := F44_46.ext E56
 have F56_62 := F44_47.ext E56
 have F56_63 := F44_48.ext E56
 have F56_64 := F44_49.ext E56
 have E56_65 := E44_50.ext E56
 have F56_66 := F44_51.ext E56
 have F56_67 := F44_52.ext E56
 have V56_68 := V44_53.ext E56
 have E56_69 := E44_54.ext E56
 have K56 := K44.ext E56
 have O56 := O44.ext E56
 have CR56 : CHr Z EL0 s.vm h0 T2.vm h56 := CR44.trans (CHr.ext E56 CR44.1)
 have hk := Nat.le_trans hk E56.1
 have V56_70 : Arv Z h56 b56 k56 .long (6 : Int32) [(.long (0 : Int64)), (.long (0 : Int64)), (.long (0 : Int64)), (.long (0 : Int64)), (.long (0 : Int64)), (.long (0 : Int64))] (.long (0 : Int64)) := (Arv.new A56 (by decide)).pad (pad_rep [] (.long (0 : Int64)) 6)
 obtain ⟨T71, h71, X71, e71, W71, st71⟩ := putF X56 hx hZ hown (host := "") (Or.inl (ow hw 59 rfl)) Via.refl e56 F56_63 E56_60 (Or.inr ⟨(ow hw 60 rfl), rfl, hnm⟩) (ow hw 21 rfl) (ty := (.array .long)) (by decide) rfl rfl (g := (mkF m 39 #[rv a0, rv a1, rv a2] [(.ref b56), (.ref a0)])) rfl rfl (hb hby d5_39)
 have E71_72 := E56_60.wr W71
 have F71_73 := F56_61.other W71 (Or.inr (slot_ne (Or.inr (ow hw 48 rfl)) (Or.inr (ow hw 60 rfl)) (by decide) (t := (.object "com/example/filters_under_siege/filtersundersiege/SketchShape")) (t' := (.array .long)) (by decide) (by decide)))
 have F71_74 := F56_62.other W71 (Or.inr (slot_ne (Or.inr (ow hw 57 rfl)) (Or.inr (ow hw 60 rfl)) (by decide) (t := (.array .int)) (t' := (.array .long)) (by decide) (by decide)))
 have F71_75 : Fld Z h71 a0 "com/example/filters_under_siege/filtersundersiege/KeeperPairs" "counts" "[J" (.ref b56) := F56_63.same W71
 have F71_76 := F56_64.other W71 (Or.inr (slot_ne (Or.inr (ow hw 50 rfl)) (Or.inr (ow hw 60 rfl)) (by decide) (t := (.object "java/util/function/LongPredicate")) (t' := (.array .long)) (by decide) (by decide)))
 have E71_77 := E56_65.wr W71
 have F71_78 := F56_66.other W71 (Or.inl (Ne.symm pf9))
 have F71_79 := F56_67.other W71 (Or.inl (Ne.symm pf9))
 have V71_80 := V56_68.other W71 (Ne.symm ne32_33)
 have E71_81 := E56_69.wr W71
 have V71_82 := V56_70.other W71 (Ne.symm ne56_57)
 have E71_83 := B56.wr W71
 have K71 := K56.wr W71 (Or.inl (List.mem_of_getElem? (i := 0) rfl))
 have O71 := O56.wr W71 pf5
 have CR71 : CHr Z EL0 s.vm h0 T2.vm h71 := CR56.trans (CHr.wr W71 own_sf0 CR56.1)
 have hk := Nat.le_trans hk (Keep.of_wr W71).1
 have N71 := Fr.snoc X71 N55 pf5
 obtain ⟨fs, hr, hrun, hended, hRE⟩ := X71.leaveW hS (by rw [e71]; exact hk) (v := none) (fun _ => rfl)
 have CRf : CHr Z EL0 s.vm s.heap (T71.setFrames fs).vm (T71.setFrames fs).heap := by
   show CHr Z EL0 s.vm s.heap T71.vm T71.heap
   rw [hh, e71]
   exact CR71.trans (CHv.at X71 hZ hEL CR71.1)
 subst hS0
 refine ⟨_, _, pre0 _ ?_, hrun, hended, _, _, rfl, ?_, CRf, hRE.1, hRE.2.1, hRE.2.2.1, hRE.2.2.2.mono (by decide) (by decide)⟩
 ·
  refine XS.aloadN X0.here hx rfl (hb hby d5_0) rfl rfl ?_
  refine st1 _ ?_
  refine XS.aloadN X1.here hx rfl (hb hby d5_4) rfl rfl ?_
  refine XS.aloadN X1.here hx rfl (hb hby d5_5) rfl rfl ?_
  refine st2 _ ?_
  refine st11 _ ?_
  refine st12 _ ?_
  refine st13 _ ?_
  refine XS.aloadN X13.here hx rfl (hb hby d5_17) rfl rfl ?_
  refine XS.aloadN X13.here hx rfl (hb hby d5_18) rfl rfl ?_
  refine st22 _ ?_
  refine XS.aloadN X22.here hx rfl (hb hby d5_22) rfl rfl ?_
  show AT p e below T22 m 23 #[rv a0, rv a1, rv a2] [(.ref a0)] _
  refine XS.aloadN X22.here hx rfl (hb hby d5_23) rfl rfl ?_
  refine st31.trans ?_
  refine st32 _ ?_
  refine st44 _ ?_
  refine XS.aloadN X44.here hx rfl (hb hby d5_32) rfl rfl ?_
  refine XS.aloadN X44.here hx rfl (hb hby d5_33) rfl rfl ?_
  refine st55.trans ?_
  refine st56 _ ?_
  refine st71 _ ?_
  exact X71.returnOut hx Bd.returns (hb hby d5_42) hr
 ·
  show Q5_3 Z a0 a1 a2 h0 n0 _ T71.heap _
  rw [e71]
  exact ⟨b32, b56, k32, k56, rfl, N71, K71, E71_72, F71_73, F71_76, F71_74, F71_75, V71_80, V71_82, sz32, sz56, E71_81, E71_83⟩

theorem d4_0 : decode prog_26_method_1_code 0 = .ok (.aload_n 0, 1) := by decide +kernel
theorem d4_1 : decode prog_26_method_1_code 1 = .ok (.aload_n 1, 1) := by decide +kernel
theorem d4_2 : decode prog_26_method_1_code 2 = .ok (.invokedynamic 1, 5) := by decide +kernel
theorem d4_7 : decode prog_26_method_1_code 7 = .ok (.invokespecial 5, 3) := by decide +kernel
theorem d4_10 : decode prog_26_method_1_code 10 = .ok (.return_, 1) := by decide +kernel
theorem ef_4_3 (m : MethodId) (a0 : Addr) (a1 : Addr) : entryFrame m #[(.ref a0), (.ref a1)] 2 = mkF m 0 #[rv a0, rv a1] [] := by first | (simp [entryFrame, mkF, argsToLocals, Value.category]; done) | rfl
def Q4_3 (Z : State) (a0 : Addr) (a1 : Addr) (w_lam : Addr) (k_lam : ClassId) (h0 : Heap) (n0 : Nat) (v : Option Value) (h : Heap) (L : List Loc) : Prop := ∃ (fa : Addr) (ca : Addr) (kf : ClassId) (kc : ClassId), v = none ∧ Fr n0 L ∧ Keep h0 h [a0] ∧ Exa Z h a0 "com/example/filters_under_siege/filtersundersiege/KeeperPairs" ∧ Fld Z h a0 "com/example/filters_under_siege/filtersundersiege/KeeperPairs" "shape" "Lcom/example/filters_under_siege/filtersundersiege/SketchShape;" (.ref a1) ∧ Fld Z h a0 "com/example/filters_under_siege/filtersundersiege/KeeperPairs" "knocksDown" "Ljava/util/function/LongPredicate;" (.ref w_lam) ∧ Fld Z h a0 "com/example/filters_under_siege/filtersundersiege/KeeperPairs" "fingerprints" "[I" (.ref fa) ∧ Fld Z h a0 "com/example/filters_under_siege/filtersundersiege/KeeperPairs" "counts" "[J" (.ref ca) ∧ Arv Z h fa kf .int (6 : Int32) [(.int (0 : Int32)), (.int (0 : Int32)), (.int (0 : Int32)), (.int (0 : Int32)), (.int (0 : Int32)), (.int (0 : Int32))] (.int (0 : Int32)) ∧ Arv Z h ca kc .long (6 : Int32) [(.long (0 : Int64)), (.long (0 : Int64)), (.long (0 : Int64)), (.long (0 : Int64)), (.long (0 : Int64)), (.long (0 : Int64))] (.long (0 : Int64)) ∧ h0.size ≤ fa ∧ h0.size ≤ ca ∧ Exa Z h fa "[I" ∧ Exa Z h ca "[J"
set_option maxRecDepth 65536 in
set_option maxHeartbeats 40000000 in
theorem rm4_3 (l : Launch) (Z : State) (ar : Array Value) (hw : ∀ d ∈ tables_1, d.before ar Z = true) (ws : List Jvm.Cond) (a0 : Addr) (a1 : Addr) (w_lam : Addr) (k_lam : ClassId) (h0 : Heap) (n0 : Nat) (O0 : Old Z n0 h0) (hEL : EW Z ar EL0) (HW : Wd Z w_lam k_lam) (pf0 : Exa Z h0 a0 "com/example/filters_under_siege/filtersundersiege/KeeperPairs") (pf1 : Fld Z h0 a0 "com/example/filters_under_siege/filtersundersiege/KeeperPairs" "shape" "Lcom/example/filters_under_siege/filtersundersiege/SketchShape;" .null) (pf2 : Fld Z h0 a0 "com/example/filters_under_siege/filtersundersiege/KeeperPairs" "fingerprints" "[I" .null) (pf3 : Fld Z h0 a0 "com/example/filters_under_siege/filtersundersiege/KeeperPairs" "counts" "[J" .null) (pf4 : Fld Z h0 a0 "com/example/filters_under_siege/filtersundersiege/KeeperPairs" "knocksDown" "Ljava/util/function/LongPredicate;" .null) (pf5 : n0 ≤ a0) (pf6 : Exa Z h0 a1 "com/example/filters_under_siege/filtersundersiege/SketchShape") (pf7 : Fld Z h0 a1 "com/example/filters_under_siege/filtersundersiege/SketchShape" "rows" "I" (.int (2 : Int32))) (pf8 : Fld Z h0 a1 "com/example/filters_under_siege/filtersundersiege/SketchShape" "width" "I" (.int (3 : Int32))) (pf9 : a0 ≠ a1) :
    MetFree l y4 (head1 (Jvm.Cond.code y4 prog_26_method_1_code 2 none :: ws) ({ frames := 2, cells := 4, slots := 36, locals := 3074 } : Room)) (fun a U => a = #[(.ref a0), (.ref a1)] ∧ Z.Warmed39 U.vm ∧ U.heap = h0 ∧ CHv Z EL0 U.vm h0) (fun _ _ _ _ _ => True) (fun _ U o U' => ∃ v L, o = .returned v ∧ Q4_3 Z a0 a1 w_lam k_lam h0 n0 v U'.heap L ∧ CHr Z EL0 U.vm U.heap U'.vm U'.heap ∧ ReturnedEndW U o U' L ({ frames := 2, cells := 4, slots := 36, locals := 3074 } : Room).cells ({ frames := 2, cells := 4, slots := 36, locals := 3074 } : Room).slots) := by
 refine MetFree.of_bodySF (plainFor_of_name pn_3) hisR ?_
 intro p e s m args below meth c s₁ Bd hml0 hP hK
 obtain ⟨rfl, hZ, hh, hCH⟩ := hP
 have hx := Bd.exec
 have hby := Bd.bytes
 have hml : c.maxLocals = 2 := hml0
 have hown : s.vm.findClass "com/example/filters_under_siege/filtersundersiege/KeeperPairs" = some m.cls := findClass_of_methodNamed Bd.named
 have hnm := (name_of_methodNamed Bd.named Bd.method).1
 have hlk : meth.locks = false := by first | assumption | exact BodyLoose.notSynchronized (by assumption) | exact Body.notSynchronized (by assumption)
 have X0 : Stand p l e ({ frames := 2, cells := 4, slots := 36, locals := 3074 } : Room) (s.setVm s.vm) m #[(.ref a0), (.ref a1)] below meth c s₁ [] 0 0 := Stand.of_body Bd
 have e0 : s₁.heap = h0 := by rw [← hh, Bd.state]; rfl
 have N0 := Fr.nil n0
 have Z0 : n0 ≤ h0.size := Nat.le_trans (Nat.le_of_eq O0.1.symm) O0.2.1
 obtain ⟨S0, hS0⟩ : ∃ z, z = s₁.setTop (entryFrame m #[(.ref a0), (.ref a1)] 2) := ⟨_, rfl⟩
 have pre0 : ∀ tg, AT p e below s₁ m 0 #[rv a0, rv a1] [] tg → Steps p.tables e below S0 tg := fun tg kg => by rw [hS0]; exact castTop (ef_4_3 m a0 a1) kg
 have hS : s.Since s.vm 0 := (State.WarmedH.refl s).since 0
 have hk : 0 ≤ h0.size := Nat.zero_le _
 have CR0 : CHr Z EL0 s.vm h0 s.vm h0 := CHr.refl hCH
 obtain ⟨HLm, hTr⟩ := id HW
 have st1 := own_site X0 hx HLm hZ Bd.named (g := (mkF m 2 #[rv a0, rv a1] [(.ref a1), (.ref a0)])) rfl rfl (by rw [hml]; rfl) (hb hby d4_2) (W := 2) (by show 2 * 0 + _ ≤ _; exact Nat.le_of_eq rfl) (by decide)
 obtain ⟨_, _, ⟨T2, L2, k2, n2⟩, -, X2, hS2, hg2, ⟨Lc2, hQ2, l2, y2, z2, CRq2⟩, st2⟩ := X0.specialBackS hx (y := y5) rfl hown (mvT hZ (ow hw 29 rfl)) (mvT hZ (ow hw 30 rfl)) (mvT hZ (ow hw 31 rfl)) (by decide) (backOfSH (W := 0) (rm5_3 l Z ar hw [] a0 a1 w_lam h0 n0 O0 hEL pf0 pf1 pf2 pf3 pf4 pf5 pf6 pf7 pf8 pf9) hZ (ow hw 31 rfl) (ow hw 22 rfl) (by decide) (by decide) hEL CR0.1) (g := (mkF m 7 #[rv a0, rv a1] [(.ref w_lam), (.ref a1), (.ref a0)])) rfl (by rw [hml]; rfl) (Steps.refl _) (a := a0) (argsL := [(.ref a1), (.ref w_lam)]) (rest := []) (lenOf pd_3 rfl) rfl (by show 2 * 0 + _ ≤ _; exact Nat.le_of_eq rfl) (hb hby d4_7) (fun _ _ => ⟨rfl, e0, (by decide : 0 + 4 ≤ _), (by decide : 0 + 36 ≤ _)⟩)
 dsimp only [Pt.U, Pt.locs, Pt.cells, Pt.slots] at X2 l2 y2 z2 st2 hQ2 hS2 hg2 CRq2
 subst l2 y2 z2
 obtain ⟨X2, hS, hZ, hown⟩ := rebS hS (by rw [e0]; exact hk) X2 hS2 hg2 hZ hown
 have CR2 : CHr Z EL0 s.vm h0 T2.vm T2.heap := CR0.trans CRq2
 obtain ⟨fa_2, ca_2, kf_2, kc_2, rfl, N2q, Kq2, u2_0, u2_1, u2_2, u2_3, u2_4, u2_5, u2_6, u2_7, u2_8, u2_9, u2_10⟩ := hQ2
 have N2 := Fr.app N0 N2q
 have E2_3 := pf0.keep Kq2
 have E2_4 := pf6.keep Kq2
 have F2_5 := pf7.keep Kq2 (ninS (Ne.symm pf9) nin0)
 have F2_6 := pf8.keep Kq2 (ninS (Ne.symm pf9) nin0)
 have K2 := (Keep.refl h0 [a0]).trans Kq2 (allS (Or.inl (List.mem_of_getElem? (i := 0) rfl)) all0)
 have O2 := O0.keep Kq2 (allS pf5 all0)
 have hk := Nat.le_trans hk Kq2.1
 have hk := Nat.le_refl (Array.size T2.heap)
 have sz7 : h0.size ≤ fa_2 := Nat.le_trans (Keep.refl h0 [a0]).1 u2_7
 have gn7 : n0 ≤ fa_2 := Nat.le_trans (Nat.le_trans (Nat.le_of_eq O0.1.symm) O0.2.1) u2_7
 have ne8 : a0 ≠ fa_2 := Nat.ne_of_lt (Nat.lt_of_lt_of_le (pf0).lt u2_7)
 have ne9 : a1 ≠ fa_2 := Nat.ne_of_lt (Nat.lt_of_lt_of_le (pf6).lt u2_7)
 have sz10 : h0.size ≤ ca_2 := Nat.le_trans (Keep.refl h0 [a0]).1 u2_8
 have gn10 : n0 ≤ ca_2 := Nat.le_trans (Nat.le_trans (Nat.le_of_eq O0.1.symm) O0.2.1) u2_8
 have ne11 : a0 ≠ ca_2 := Nat.ne_of_lt (Nat.lt_of_lt_of_le (pf0).lt u2_8)
 have ne12 : a1 ≠ ca_2 := Nat.ne_of_lt (Nat.lt_of_lt_of_le (pf6).lt u2_8)
 obtain ⟨fs, hr, hrun, hended, hRE⟩ := X2.leaveW hS hk (v := none) (fun _ => rfl)
 have CRf : CHr Z EL0 s.vm s.heap (T2.setFrames fs).vm (T2.setFrames fs).heap := by
   show CHr Z EL0 s.vm s.heap T2.vm T2.heap
   rw [hh]
   exact CR2.trans (CHv.at X2 hZ hEL CR2.1)
 subst hS0
 refine ⟨_, _, pre0 _ ?_, hrun, hended, _, _, rfl, ?_, CRf, hRE.1, hRE.2.1, hRE.2.2.1, hRE.2.2.2.mono (by decide) (by decide)⟩
 ·
  refine XS.aloadN X0.here hx rfl (hb hby d4_0) rfl rfl ?_
  refine XS.aloadN X0.here hx rfl (hb hby d4_1) rfl rfl ?_
  refine st1 _ ?_
  refine st2.trans ?_
  exact X2.returnOut hx Bd.returns (hb hby d4_10) hr
 ·
  show Q4_3 Z a0 a1 w_lam k_lam h0 n0 _ T2.heap _
  exact ⟨fa_2, ca_2, kf_2, kc_2, rfl, N2, K2, E2_3, u2_1, u2_2, u2_3, u2_4, u2_5, u2_6, sz7, sz10, u2_9, u2_10⟩

theorem d8_0 : decode prog_26_method_4_code 0 = .ok (.iconst 0, 1) := by decide +kernel
theorem d8_1 : decode prog_26_method_4_code 1 = .ok (.istore_n 3, 1) := by decide +kernel
theorem d8_2 : decode prog_26_method_4_code 2 = .ok (.iload_n 3, 1) := by decide +kernel
theorem d8_3 : decode prog_26_method_4_code 3 = .ok (.aload_n 1, 1) := by decide +kernel
theorem d8_4 : decode prog_26_method_4_code 4 = .ok (.arraylength, 1) := by decide +kernel
theorem d8_5 : decode prog_26_method_4_code 5 = .ok (.if_icmp .ge 127, 3) := by decide +kernel
theorem d8_8 : decode prog_26_method_4_code 8 = .ok (.iload_n 3, 1) := by decide +kernel
theorem d8_9 : decode prog_26_method_4_code 9 = .ok (.aload_n 0, 1) := by decide +kernel
theorem d8_10 : decode prog_26_method_4_code 10 = .ok (.getfield 31, 3) := by decide +kernel
theorem d8_13 : decode prog_26_method_4_code 13 = .ok (.invokevirtual 50, 3) := by decide +kernel
theorem d8_16 : decode prog_26_method_4_code 16 = .ok (.imul, 1) := by decide +kernel
theorem d8_17 : decode prog_26_method_4_code 17 = .ok (.aload_n 1, 1) := by decide +kernel
theorem d8_18 : decode prog_26_method_4_code 18 = .ok (.iload_n 3, 1) := by decide +kernel
theorem d8_19 : decode prog_26_method_4_code 19 = .ok (.iaload, 1) := by decide +kernel
theorem d8_20 : decode prog_26_method_4_code 20 = .ok (.iadd, 1) := by decide +kernel
theorem d8_21 : decode prog_26_method_4_code 21 = .ok (.istore 4, 2) := by decide +kernel
theorem d8_23 : decode prog_26_method_4_code 23 = .ok (.aload_n 0, 1) := by decide +kernel
theorem d8_24 : decode prog_26_method_4_code 24 = .ok (.getfield 46, 3) := by decide +kernel
theorem d8_27 : decode prog_26_method_4_code 27 = .ok (.iload 4, 2) := by decide +kernel
theorem d8_29 : decode prog_26_method_4_code 29 = .ok (.laload, 1) := by decide +kernel
theorem d8_30 : decode prog_26_method_4_code 30 = .ok (.lconst 0, 1) := by decide +kernel
theorem d8_31 : decode prog_26_method_4_code 31 = .ok (.lcmp, 1) := by decide +kernel
theorem d8_32 : decode prog_26_method_4_code 32 = .ok (.ifCond .eq 14, 3) := by decide +kernel
theorem d8_35 : decode prog_26_method_4_code 35 = .ok (.aload_n 0, 1) := by decide +kernel
theorem d8_36 : decode prog_26_method_4_code 36 = .ok (.getfield 42, 3) := by decide +kernel
theorem d8_39 : decode prog_26_method_4_code 39 = .ok (.iload 4, 2) := by decide +kernel
theorem d8_41 : decode prog_26_method_4_code 41 = .ok (.iaload, 1) := by decide +kernel
theorem d8_42 : decode prog_26_method_4_code 42 = .ok (.iload_n 2, 1) := by decide +kernel
theorem d8_43 : decode prog_26_method_4_code 43 = .ok (.if_icmp .ne 25, 3) := by decide +kernel
theorem d8_46 : decode prog_26_method_4_code 46 = .ok (.aload_n 0, 1) := by decide +kernel
theorem d8_47 : decode prog_26_method_4_code 47 = .ok (.getfield 42, 3) := by decide +kernel
theorem d8_50 : decode prog_26_method_4_code 50 = .ok (.iload 4, 2) := by decide +kernel
theorem d8_52 : decode prog_26_method_4_code 52 = .ok (.iload_n 2, 1) := by decide +kernel
theorem d8_53 : decode prog_26_method_4_code 53 = .ok (.iastore, 1) := by decide +kernel
theorem d8_54 : decode prog_26_method_4_code 54 = .ok (.aload_n 0, 1) := by decide +kernel
theorem d8_55 : decode prog_26_method_4_code 55 = .ok (.getfield 46, 3) := by decide +kernel
theorem d8_58 : decode prog_26_method_4_code 58 = .ok (.iload 4, 2) := by decide +kernel
theorem d8_60 : decode prog_26_method_4_code 60 = .ok (.dup2, 1) := by decide +kernel
theorem d8_61 : decode prog_26_method_4_code 61 = .ok (.laload, 1) := by decide +kernel
theorem d8_62 : decode prog_26_method_4_code 62 = .ok (.lconst 1, 1) := by decide +kernel
theorem d8_63 : decode prog_26_method_4_code 63 = .ok (.ladd, 1) := by decide +kernel
theorem d8_64 : decode prog_26_method_4_code 64 = .ok (.lastore, 1) := by decide +kernel
theorem d8_65 : decode prog_26_method_4_code 65 = .ok (.goto 61, 3) := by decide +kernel
theorem d8_68 : decode prog_26_method_4_code 68 = .ok (.aload_n 0, 1) := by decide +kernel
theorem d8_69 : decode prog_26_method_4_code 69 = .ok (.getfield 34, 3) := by decide +kernel
theorem d8_72 : decode prog_26_method_4_code 72 = .ok (.aload_n 0, 1) := by decide +kernel
theorem d8_73 : decode prog_26_method_4_code 73 = .ok (.getfield 46, 3) := by decide +kernel
theorem d8_76 : decode prog_26_method_4_code 76 = .ok (.iload 4, 2) := by decide +kernel
theorem d8_78 : decode prog_26_method_4_code 78 = .ok (.laload, 1) := by decide +kernel
theorem d8_79 : decode prog_26_method_4_code 79 = .ok (.invokeinterface 53 3, 5) := by decide +kernel
theorem d8_84 : decode prog_26_method_4_code 84 = .ok (.ifCond .eq 42, 3) := by decide +kernel
theorem d8_87 : decode prog_26_method_4_code 87 = .ok (.aload_n 0, 1) := by decide +kernel
theorem d8_88 : decode prog_26_method_4_code 88 = .ok (.getfield 46, 3) := by decide +kernel
theorem d8_91 : decode prog_26_method_4_code 91 = .ok (.iload 4, 2) := by decide +kernel
theorem d8_93 : decode prog_26_method_4_code 93 = .ok (.dup2, 1) := by decide +kernel
theorem d8_94 : decode prog_26_method_4_code 94 = .ok (.laload, 1) := by decide +kernel
theorem d8_95 : decode prog_26_method_4_code 95 = .ok (.lconst 1, 1) := by decide +kernel
theorem d8_96 : decode prog_26_method_4_code 96 = .ok (.lsub, 1) := by decide +kernel
theorem d8_97 : decode prog_26_method_4_code 97 = .ok (.lastore, 1) := by decide +kernel
theorem d8_98 : decode prog_26_method_4_code 98 = .ok (.aload_n 0, 1) := by decide +kernel
theorem d8_99 : decode prog_26_method_4_code 99 = .ok (.getfield 46, 3) := by decide +kernel
theorem d8_102 : decode prog_26_method_4_code 102 = .ok (.iload 4, 2) := by decide +kernel
theorem d8_104 : decode prog_26_method_4_code 104 = .ok (.laload, 1) := by decide +kernel
theorem d8_105 : decode prog_26_method_4_code 105 = .ok (.lconst 0, 1) := by decide +kernel
theorem d8_106 : decode prog_26_method_4_code 106 = .ok (.lcmp, 1) := by decide +kernel
theorem d8_107 : decode prog_26_method_4_code 107 = .ok (.ifCond .ne 19, 3) := by decide +kernel
theorem d8_110 : decode prog_26_method_4_code 110 = .ok (.aload_n 0, 1) := by decide +kernel
theorem d8_111 : decode prog_26_method_4_code 111 = .ok (.getfield 42, 3) := by decide +kernel
theorem d8_114 : decode prog_26_method_4_code 114 = .ok (.iload 4, 2) := by decide +kernel
theorem d8_116 : decode prog_26_method_4_code 116 = .ok (.iload_n 2, 1) := by decide +kernel
theorem d8_117 : decode prog_26_method_4_code 117 = .ok (.iastore, 1) := by decide +kernel
theorem d8_118 : decode prog_26_method_4_code 118 = .ok (.aload_n 0, 1) := by decide +kernel
theorem d8_119 : decode prog_26_method_4_code 119 = .ok (.getfield 46, 3) := by decide +kernel
theorem d8_122 : decode prog_26_method_4_code 122 = .ok (.iload 4, 2) := by decide +kernel
theorem d8_124 : decode prog_26_method_4_code 124 = .ok (.lconst 1, 1) := by decide +kernel
theorem d8_125 : decode prog_26_method_4_code 125 = .ok (.lastore, 1) := by decide +kernel
theorem d8_126 : decode prog_26_method_4_code 126 = .ok (.iinc 3 1, 3) := by decide +kernel
theorem d8_129 : decode prog_26_method_4_code 129 = .ok (.goto (-127), 3) := by decide +kernel
theorem d8_132 : decode prog_26_method_4_code 132 = .ok (.return_, 1) := by decide +kernel
theorem ef_8_3 (m : MethodId) (a0 : Addr) (a1 : Addr) (p2 : Int32) : entryFrame m #[(.ref a0), (.ref a1), (.int p2)] 5 = mkF m 0 #[rv a0, rv a1, iv p2, un, un] [] := by first | (simp [entryFrame, mkF, argsToLocals, Value.category]; done) | rfl
def Q8_3 (Z : State) (a0 : Addr) (a1 : Addr) (p2 : Int32) (w_lam : Addr) (k_lam : ClassId) (sh : Addr) (kk : ClassId) (c0 : Int32) (c1 : Int32) (fa : Addr) (ca : Addr) (kf : ClassId) (kc : ClassId) (f0 : Int32) (f1 : Int32) (f2 : Int32) (f3 : Int32) (f4 : Int32) (f5 : Int32) (k0 : Int64) (k1 : Int64) (k2 : Int64) (k3 : Int64) (k4 : Int64) (k5 : Int64) (h0 : Heap) (n0 : Nat) (v : Option Value) (h : Heap) (L : List Loc) : Prop := v = none ∧ Fr n0 L ∧ Keep h0 h [fa, ca] ∧ Arv Z h fa kf .int (6 : Int32) [(.int (pI c0 (0 : Int32) (nf (sJ3 c0 k0 k1 k2) (sI3 c0 f0 f1 f2) p2) f0)), (.int (pI c0 (1 : Int32) (nf (sJ3 c0 k0 k1 k2) (sI3 c0 f0 f1 f2) p2) f1)), (.int (pI c0 (2 : Int32) (nf (sJ3 c0 k0 k1 k2) (sI3 c0 f0 f1 f2) p2) f2)), (.int (pI c1 (0 : Int32) (nf (sJ3 c1 k3 k4 k5) (sI3 c1 f3 f4 f5) p2) f3)), (.int (pI c1 (1 : Int32) (nf (sJ3 c1 k3 k4 k5) (sI3 c1 f3 f4 f5) p2) f4)), (.int (pI c1 (2 : Int32) (nf (sJ3 c1 k3 k4 k5) (sI3 c1 f3 f4 f5) p2) f5))] (.int (0 : Int32)) ∧ Arv Z h ca kc .long (6 : Int32) [(.long (pJ c0 (0 : Int32) (nc (sJ3 c0 k0 k1 k2) (sI3 c0 f0 f1 f2) p2) k0)), (.long (pJ c0 (1 : Int32) (nc (sJ3 c0 k0 k1 k2) (sI3 c0 f0 f1 f2) p2) k1)), (.long (pJ c0 (2 : Int32) (nc (sJ3 c0 k0 k1 k2) (sI3 c0 f0 f1 f2) p2) k2)), (.long (pJ c1 (0 : Int32) (nc (sJ3 c1 k3 k4 k5) (sI3 c1 f3 f4 f5) p2) k3)), (.long (pJ c1 (1 : Int32) (nc (sJ3 c1 k3 k4 k5) (sI3 c1 f3 f4 f5) p2) k4)), (.long (pJ c1 (2 : Int32) (nc (sJ3 c1 k3 k4 k5) (sI3 c1 f3 f4 f5) p2) k5))] (.long (0 : Int64))
set_option maxRecDepth 65536 in
set_option maxHeartbeats 40000000 in
theorem rm8_3 (l : Launch) (Z : State) (ar : Array Value) (hw : ∀ d ∈ tables_1, d.before ar Z = true) (ws : List Jvm.Cond) (a0 : Addr) (a1 : Addr) (p2 : Int32) (w_lam : Addr) (k_lam : ClassId) (sh : Addr) (kk : ClassId) (c0 : Int32) (c1 : Int32) (fa : Addr) (ca : Addr) (kf : ClassId) (kc : ClassId) (f0 : Int32) (f1 : Int32) (f2 : Int32) (f3 : Int32) (f4 : Int32) (f5 : Int32) (k0 : Int64) (k1 : Int64) (k2 : Int64) (k3 : Int64) (k4 : Int64) (k5 : Int64) (h0 : Heap) (n0 : Nat) (O0 : Old Z n0 h0) (HW : Wd Z w_lam k_lam) (pf0 : Exa Z h0 a0 "com/example/filters_under_siege/filtersundersiege/KeeperPairs") (pf1 : Fld Z h0 a0 "com/example/filters_under_siege/filtersundersiege/KeeperPairs" "shape" "Lcom/example/filters_under_siege/filtersundersiege/SketchShape;" (.ref sh)) (pf2 : Exa Z h0 sh "com/example/filters_under_siege/filtersundersiege/SketchShape") (pf3 : Fld Z h0 sh "com/example/filters_under_siege/filtersundersiege/SketchShape" "width" "I" (.int (3 : Int32))) (pf4 : Fld Z h0 a0 "com/example/filters_under_siege/filtersundersiege/KeeperPairs" "fingerprints" "[I" (.ref fa)) (pf5 : Fld Z h0 a0 "com/example/filters_under_siege/filtersundersiege/KeeperPairs" "counts" "[J" (.ref ca)) (pf6 : Fld Z h0 a0 "com/example/filters_under_siege/filtersundersiege/KeeperPairs" "knocksDown" "Ljava/util/function/LongPredicate;" (.ref w_lam)) (pf7 : Exa Z h0 a1 "[I") (pf8 : Arv Z h0 a1 kk .int (2 : Int32) [(.int c0), (.int c1)] (.int (0 : Int32))) (pf9 : Exa Z h0 fa "[I") (pf10 : Exa Z h0 ca "[J") (pf11 : Arv Z h0 fa kf .int (6 : Int32) [(.int f0), (.int f1), (.int f2), (.int f3), (.int f4), (.int f5)] (.int (0 : Int32))) (pf12 : Arv Z h0 ca kc .long (6 : Int32) [(.long k0), (.long k1), (.long k2), (.long k3), (.long k4), (.long k5)] (.long (0 : Int64))) (pf13 : n0 ≤ fa) (pf14 : n0 ≤ ca) (pf15 : a1 ≠ fa) (hc0 : c0 = (0 : Int32) ∨ c0 = (1 : Int32) ∨ c0 = (2 : Int32)) (hc1 : c1 = (0 : Int32) ∨ c1 = (1 : Int32) ∨ c1 = (2 : Int32)) :
    MetFree l y8 (head1 (Jvm.Cond.code y8 prog_26_method_4_code 5 none :: ws) ({ frames := 2, cells := 0, slots := 0, locals := 27 } : Room)) (fun a U => a = #[(.ref a0), (.ref a1), (.int p2)] ∧ Z.Warmed39 U.vm ∧ U.heap = h0) (fun _ _ _ _ _ => True) (fun _ U o U' => ∃ v L, o = .returned v ∧ Q8_3 Z a0 a1 p2 w_lam k_lam sh kk c0 c1 fa ca kf kc f0 f1 f2 f3 f4 f5 k0 k1 k2 k3 k4 k5 h0 n0 v U'.heap L ∧ FrameEnd U o U' L ({ frames := 2, cells := 0, slots := 0, locals := 27 } : Room).cells ({ frames := 2, cells := 0, slots := 0, locals := 27 } : Room).slots) := by
 refine MetFree.of_bodySF (plainFor_of_name pn_3) hisR ?_
 intro p e s m args below meth c s₁ Bd hml0 hP hK
 obtain ⟨rfl, hZ, hh⟩ := hP
 have hx := Bd.exec
 have hby := Bd.bytes
 have hml : c.maxLocals = 5 := hml0
 have hown : s.vm.findClass "com/example/filters_under_siege/filtersundersiege/KeeperPairs" = some m.cls := findClass_of_methodNamed Bd.named
 have hnm := (name_of_methodNamed Bd.named Bd.method).1
 have hlk : meth.locks = false := by first | assumption | exact BodyLoose.notSynchronized (by assumption) | exact Body.notSynchronized (by assumption)
 have X0 : Stand p l e ({ frames := 2, cells := 0, slots := 0, locals := 27 } : Room) s m #[(.ref a0), (.ref a1), (.int p2)] below meth c s₁ [] 0 0 := Stand.of_body Bd
 have e0 : s₁.heap = h0 := by rw [← hh, Bd.state]; rfl
 have N0 := Fr.nil n0
 have Z0 : n0 ≤ h0.size := Nat.le_trans (Nat.le_of_eq O0.1.symm) O0.2.1
 obtain ⟨S0, hS0⟩ : ∃ z, z = s₁.setTop (entryFrame m #[(.ref a0), (.ref a1), (.int p2)] 5) := ⟨_, rfl⟩
 have pre0 : ∀ tg, AT p e below s₁ m 0 #[rv a0, rv a1, iv p2, un, un] [] tg → Steps p.tables e below S0 tg := fun tg kg => by rw [hS0]; exact castTop (ef_8_3 m a0 a1 p2) kg
 obtain ⟨HLm, hTr⟩ := id HW
 have n_a0_fa : a0 ≠ fa := (ne_exa pf0 pf9 (by decide))
 have n_a0_ca : a0 ≠ ca := (ne_exa pf0 pf10 (by decide))
 have n_sh_fa : sh ≠ fa := (ne_exa pf2 pf9 (by decide))
 have n_sh_ca : sh ≠ ca := (ne_exa pf2 pf10 (by decide))
 have n_a1_ca : a1 ≠ ca := (ne_exa pf7 pf10 (by decide))
 have n_fa_ca : fa ≠ ca := (ne_exa pf9 pf10 (by decide))
 obtain ⟨cl1, Ar1, q1, S1, N1, H1, G1⟩ := id pf8
 obtain ⟨T2, X2, e2, st2⟩ := getF X0 hx hZ hown (host := "") (Or.inl (ow hw 47 rfl)) Via.refl e0 pf1 (g := (mkF m 10 #[rv a0, rv a1, iv p2, iv (0 : Int32), un] [(.ref a0), (.int (0 : Int32))])) rfl rfl (hb hby d8_10)
 obtain ⟨cq3, kq3, q3a, q3b, q3c⟩ := isOf hZ e2 pf2
 obtain ⟨_, _, ⟨T3, L3, k3, n3⟩, -, X3, ⟨Lc3, hQ3, l3, y3, z3⟩, st3⟩ := X2.virtualBack hx (y := y9) (z := y9) hown (mvT hZ (ow hw 66 rfl)) (mvT hZ (ow hw 67 rfl)) (notFace_of_selects (args := #[]) (mvT hZ (ow hw 69 rfl))) (mvT hZ (ow hw 69 rfl)) (mvT hZ (ow hw 68 rfl)) (by decide) (backOf (W := 1) (rm9 l Z ar hw [] sh (3 : Int32) h0 n0 O0 pf3) hZ (ow hw 70 rfl) (ow hw 3 rfl) (by decide) (by decide)) q3a q3c (g := (mkF m 13 #[rv a0, rv a1, iv p2, iv (0 : Int32), un] [(.ref sh), (.int (0 : Int32))])) rfl (by rw [hml]; rfl) (Steps.refl _) (argsL := []) (rest := [(.int (0 : Int32))]) (lenOf pd_2 rfl) rfl (by show 2 * 0 + _ ≤ _; exact Nat.le_of_eq rfl) (hb hby d8_13) (fun _ _ => ⟨rfl, e2, (by decide : 0 + 0 ≤ _), (by decide : 0 + 0 ≤ _)⟩)
 dsimp only [Pt.U, Pt.locs, Pt.cells, Pt.slots] at X3 l3 y3 z3 st3 hQ3
 subst l3 y3 z3
 obtain ⟨rfl, N3q, e3⟩ := hQ3
 have N3 := Fr.app N0 N3q
 obtain ⟨cl4, Ar4, q4, S4, N4, H4, G4⟩ := id pf8
 have hin4 := own_in (0 : Int32) S4 ⟨by decide, by decide⟩
 have hat4 : cl4.slots[((0 : Int32)).toNatClampNeg]? = some (.int c0) := Has.at H4 hin4 rfl
 have pre5 : ∀ tg, AT p e below T3 m 23 #[rv a0, rv a1, iv p2, iv (0 : Int32), iv ((0 : Int32) + c0)] [] tg → Steps p.tables e below S0 tg := fun tg kg => pre0 tg (by
  refine XS.iconst X0.here hx rfl (hb hby d8_0) ?_
  refine XS.istoreN X0.here hx rfl (hb hby d8_1) rfl (l' := #[rv a0, rv a1, iv p2, iv (0 : Int32), un]) rfl ?_
  refine XS.iloadN X0.here hx rfl (hb hby d8_2) rfl ?_
  refine XS.aloadN X0.here hx rfl (hb hby d8_3) rfl rfl ?_
  refine X0.arraylength hx (by rw [e0]; exact Ar1.1) (State.isArrayOf_alike hZ.alike Ar1.2.1) (g := (mkF m 4 #[rv a0, rv a1, iv p2, iv (0 : Int32), un] [(.ref a1), (.int (0 : Int32))])) rfl rfl (hb hby d8_4) _ ?_
  rw [len_of S1 N1]
  show AT p e below s₁ m 5 #[rv a0, rv a1, iv p2, iv (0 : Int32), un] [(.int (2 : Int32)), (.int (0 : Int32))] _
  refine XS.icmpNo X0.here hx rfl (hb hby d8_5) rfl (XT.ii_ge_f ((by decide) : (0 : Int32) < (2 : Int32))) ?_
  refine XS.iloadN X0.here hx rfl (hb hby d8_8) rfl ?_
  refine XS.aloadN X0.here hx rfl (hb hby d8_9) rfl rfl ?_
  refine st2 _ ?_
  refine st3.trans ?_
  refine XS.imul X3.here hx rfl (hb hby d8_16) rfl ?_
  refine XS.aloadN X3.here hx rfl (hb hby d8_17) rfl rfl ?_
  refine XS.iloadN X3.here hx rfl (hb hby d8_18) rfl ?_
  show AT p e below T3 m 19 #[rv a0, rv a1, iv p2, iv (0 : Int32), un] [(.int (0 : Int32)), (.ref a1), (.int (0 : Int32))] _
  refine X3.iaload hx (j := (0 : Int32)) (v := (.int c0)) (by rw [e3]; exact Ar4.1) (State.isArrayOf_alike hZ.alike Ar4.2.1) Ar4.2.2 hin4 hat4 (g := (mkF m 19 #[rv a0, rv a1, iv p2, iv (0 : Int32), un] [(.int (0 : Int32)), (.ref a1), (.int (0 : Int32))])) rfl rfl (hb hby d8_19) _ ?_
  refine XS.iadd X3.here hx rfl (hb hby d8_20) rfl ?_
  refine XS.istore X3.here hx rfl (hb hby d8_21) rfl (l' := #[rv a0, rv a1, iv p2, iv (0 : Int32), iv ((0 : Int32) + c0)]) rfl ?_
  exact kg)
 obtain ⟨Kz0, hKz0⟩ : ∃ z, z = (sJ3 c0 k0 k1 k2) := ⟨_, rfl⟩
 obtain ⟨Fz0, hFz0⟩ : ∃ z, z = (sI3 c0 f0 f1 f2) := ⟨_, rfl⟩
 obtain ⟨T6, h6, L6, X6, e6, N6, K6, O6, J6_0, J6_1, J6_2, J6_3, J6_4, J6_5, J6_6, J6_7, J6_8, J6_9, J6_10, J6_11, J6_12, pre6⟩ : ∃ (T6 : State) (h6 : Heap) (L6 : List Loc), Stand p l e ({ frames := 2, cells := 0, slots := 0, locals := 27 } : Room) s m #[(.ref a0), (.ref a1), (.int p2)] below meth c T6 L6 (0 + 0) (0 + 0) ∧ T6.heap = h6 ∧ Fr n0 L6 ∧ Keep h0 h6 [fa, ca] ∧ Old Z n0 h6 ∧ Exa Z h6 a0 "com/example/filters_under_siege/filtersundersiege/KeeperPairs" ∧ Fld Z h6 a0 "com/example/filters_under_siege/filtersundersiege/KeeperPairs" "shape" "Lcom/example/filters_under_siege/filtersundersiege/SketchShape;" (.ref sh) ∧ Exa Z h6 sh "com/example/filters_under_siege/filtersundersiege/SketchShape" ∧ Fld Z h6 sh "com/example/filters_under_siege/filtersundersiege/SketchShape" "width" "I" (.int (3 : Int32)) ∧ Fld Z h6 a0 "com/example/filters_under_siege/filtersundersiege/KeeperPairs" "fingerprints" "[I" (.ref fa) ∧ Fld Z h6 a0 "com/example/filters_under_siege/filtersundersiege/KeeperPairs" "counts" "[J" (.ref ca) ∧ Fld Z h6 a0 "com/example/filters_under_siege/filtersundersiege/KeeperPairs" "knocksDown" "Ljava/util/function/LongPredicate;" (.ref w_lam) ∧ Exa Z h6 a1 "[I" ∧ Arv Z h6 a1 kk .int (2 : Int32) [(.int c0), (.int c1)] (.int (0 : Int32)) ∧ Exa Z h6 fa "[I" ∧ Exa Z h6 ca "[J" ∧ Arv Z h6 fa kf .int (6 : Int32) [(.int (pI c0 (0 : Int32) (nf Kz0 Fz0 p2) f0)), (.int (pI c0 (1 : Int32) (nf Kz0 Fz0 p2) f1)), (.int (pI c0 (2 : Int32) (nf Kz0 Fz0 p2) f2)), (.int f3), (.int f4), (.int f5)] (.int (0 : Int32)) ∧ Arv Z h6 ca kc .long (6 : Int32) [(.long (pJ c0 (0 : Int32) (nc Kz0 Fz0 p2) k0)), (.long (pJ c0 (1 : Int32) (nc Kz0 Fz0 p2) k1)), (.long (pJ c0 (2 : Int32) (nc Kz0 Fz0 p2) k2)), (.long k3), (.long k4), (.long k5)] (.long (0 : Int64)) ∧ (∀ tg, AT p e below T6 m 126 #[rv a0, rv a1, iv p2, iv (0 : Int32), iv ((0 : Int32) + c0)] [] tg → Steps p.tables e below S0 tg) := by
  obtain ⟨T7, X7, e7, st7⟩ := getF X3 hx hZ hown (host := "") (Or.inl (ow hw 59 rfl)) Via.refl e3 pf5 (g := (mkF m 24 #[rv a0, rv a1, iv p2, iv (0 : Int32), iv ((0 : Int32) + c0)] [(.ref a0)])) rfl rfl (hb hby d8_24)
  obtain ⟨cl8, Ar8, q8, S8, N8, H8, G8⟩ := id pf12
  have hin8 := own_in ((0 : Int32) + c0) S8 (own_b3_0 hc0)
  have hat8 : cl8.slots[(((0 : Int32) + c0)).toNatClampNeg]? = some (.long Kz0) := Has.at H8 hin8 ((own_gJ3_0 hc0).trans (congrArg Value.long hKz0.symm))
  have pre9 : ∀ tg, AT p e below T7 m 32 #[rv a0, rv a1, iv p2, iv (0 : Int32), iv ((0 : Int32) + c0)] [(.int (XT.cmpL Kz0 (0 : Int64)))] tg → Steps p.tables e below S0 tg := fun tg kg => pre5 tg (by
   refine XS.aloadN X3.here hx rfl (hb hby d8_23) rfl rfl ?_
   refine st7 _ ?_
   refine XS.iload X7.here hx rfl (hb hby d8_27) rfl ?_
   refine X7.laload hx (j := ((0 : Int32) + c0)) (v := (.long Kz0)) (by rw [e7]; exact Ar8.1) (State.isArrayOf_alike hZ.alike Ar8.2.1) Ar8.2.2 hin8 hat8 (g := (mkF m 29 #[rv a0, rv a1, iv p2, iv (0 : Int32), iv ((0 : Int32) + c0)] [(.int ((0 : Int32) + c0)), (.ref ca)])) rfl rfl (hb hby d8_29) _ ?_
   refine XS.lconst X7.here hx rfl (hb hby d8_30) ?_
   refine XS.lcmp X7.here hx rfl (hb hby d8_31) rfl ?_
   exact kg)
  rcases Decidable.em (Kz0 = (0 : Int64)) with hc10 | hc10
  ·
   obtain ⟨T11, X11, e11, st11⟩ := getF X7 hx hZ hown (host := "") (Or.inl (ow hw 56 rfl)) Via.refl e7 pf4 (g := (mkF m 47 #[rv a0, rv a1, iv p2, iv (0 : Int32), iv ((0 : Int32) + c0)] [(.ref a0)])) rfl rfl (hb hby d8_47)
   obtain ⟨cl12, Ar12, q12, S12, M12, H12, G12⟩ := id pf11
   have hin12 := own_in ((0 : Int32) + c0) S12 (own_b3_0 hc0)
   obtain ⟨T12, h12, X12, e12, W12, st12⟩ := stI X11 hx hZ e11 Ar12 (j := ((0 : Int32) + c0)) hin12 (g := (mkF m 53 #[rv a0, rv a1, iv p2, iv (0 : Int32), iv ((0 : Int32) + c0)] [(.int p2), (.int ((0 : Int32) + c0)), (.ref fa)])) rfl rfl (hb hby d8_53)
   have V12_13 : Arv Z h12 fa kf .int (6 : Int32) [(.int (pI c0 (0 : Int32) p2 f0)), (.int (pI c0 (1 : Int32) p2 f1)), (.int (pI c0 (2 : Int32) p2 f2)), (.int f3), (.int f4), (.int f5)] (.int (0 : Int32)) := by have q := Arv.set Ar12 q12 S12 M12 H12 G12 rfl W12 (((0 : Int32) + c0)).toNatClampNeg rfl (own_k3_0 hc0); rw [own_sI3_0 hc0] at q; exact q
   have E12_14 := pf0.wr W12
   have F12_15 := pf1.other W12 (Or.inl n_a0_fa)
   have E12_16 := pf2.wr W12
   have F12_17 := pf3.other W12 (Or.inl n_sh_fa)
   have F12_18 := pf4.other W12 (Or.inl n_a0_fa)
   have F12_19 := pf5.other W12 (Or.inl n_a0_fa)
   have F12_20 := pf6.other W12 (Or.inl n_a0_fa)
   have E12_21 := pf7.wr W12
   have V12_22 := pf8.other W12 pf15
   have E12_23 := pf9.wr W12
   have E12_24 := pf10.wr W12
   have V12_25 := pf12.other W12 (Ne.symm n_fa_ca)
   have K12 := (Keep.refl h0 [fa, ca]).wr W12 (Or.inl (List.mem_of_getElem? (i := 0) rfl))
   have O12 := O0.wr W12 pf13
   have N12 := Fr.snoc X12 N3 pf13
   obtain ⟨T26, X26, e26, st26⟩ := getF X12 hx hZ hown (host := "") (Or.inl (ow hw 59 rfl)) Via.refl e12 F12_19 (g := (mkF m 55 #[rv a0, rv a1, iv p2, iv (0 : Int32), iv ((0 : Int32) + c0)] [(.ref a0)])) rfl rfl (hb hby d8_55)
   obtain ⟨cl27, Ar27, q27, S27, N27, H27, G27⟩ := id V12_25
   have hin27 := own_in ((0 : Int32) + c0) S27 (own_b3_0 hc0)
   have hat27 : cl27.slots[(((0 : Int32) + c0)).toNatClampNeg]? = some (.long Kz0) := Has.at H27 hin27 ((own_gJ3_0 hc0).trans (congrArg Value.long hKz0.symm))
   obtain ⟨cl28, Ar28, q28, S28, M28, H28, G28⟩ := id V12_25
   have hin28 := own_in ((0 : Int32) + c0) S28 (own_b3_0 hc0)
   obtain ⟨T28, h28, X28, e28, W28, st28⟩ := stJ X26 hx hZ e26 Ar28 (j := ((0 : Int32) + c0)) hin28 (g := (mkF m 64 #[rv a0, rv a1, iv p2, iv (0 : Int32), iv ((0 : Int32) + c0)] [(.long (Kz0 + (1 : Int64))), (.int ((0 : Int32) + c0)), (.ref ca)])) rfl rfl (hb hby d8_64)
   have V28_29 : Arv Z h28 ca kc .long (6 : Int32) [(.long (pJ c0 (0 : Int32) (Kz0 + (1 : Int64)) k0)), (.long (pJ c0 (1 : Int32) (Kz0 + (1 : Int64)) k1)), (.long (pJ c0 (2 : Int32) (Kz0 + (1 : Int64)) k2)), (.long k3), (.long k4), (.long k5)] (.long (0 : Int64)) := by have q := Arv.set Ar28 q28 S28 M28 H28 G28 rfl W28 (((0 : Int32) + c0)).toNatClampNeg rfl (own_k3_0 hc0); rw [own_sJ3_0 hc0] at q; exact q
   have E28_30 := E12_14.wr W28
   have F28_31 := F12_15.other W28 (Or.inl n_a0_ca)
   have E28_32 := E12_16.wr W28
   have F28_33 := F12_17.other W28 (Or.inl n_sh_ca)
   have F28_34 := F12_18.other W28 (Or.inl n_a0_ca)
   have F28_35 := F12_19.other W28 (Or.inl n_a0_ca)
   have F28_36 := F12_20.other W28 (Or.inl n_a0_ca)
   have E28_37 := E12_21.wr W28
   have V28_38 := V12_22.other W28 n_a1_ca
   have E28_39 := E12_23.wr W28
   have E28_40 := E12_24.wr W28
   have V28_41 := V12_13.other W28 n_fa_ca
   have K28 := K12.wr W28 (Or.inl (List.mem_of_getElem? (i := 1) rfl))
   have O28 := O12.wr W28 pf14
   have N28 := Fr.snoc X28 N12 pf14
   have pre42 : ∀ tg, AT p e below T28 m 126 #[rv a0, rv a1, iv p2, iv (0 : Int32), iv ((0 : Int32) + c0)] [] tg → Steps p.tables e below S0 tg := fun tg kg => pre9 tg (by
    refine XS.ifYes X7.here hx rfl (pc0 := 32) (pc' := 46) rfl (hb hby d8_32) rfl (XT.ll_eq_t hc10) (by decide) (by decide) ?_
    refine XS.aloadN X7.here hx rfl (hb hby d8_46) rfl rfl ?_
    refine st11 _ ?_
    refine XS.iload X11.here hx rfl (hb hby d8_50) rfl ?_
    refine XS.iloadN X11.here hx rfl (hb hby d8_52) rfl ?_
    refine st12 _ ?_
    refine XS.aloadN X12.here hx rfl (hb hby d8_54) rfl rfl ?_
    show AT p e below T12 m 55 #[rv a0, rv a1, iv p2, iv (0 : Int32), iv ((0 : Int32) + c0)] [(.ref a0)] _
    refine st26 _ ?_
    refine XS.iload X26.here hx rfl (hb hby d8_58) rfl ?_
    refine XT.dup2 X26.here hx rfl (hb hby d8_60) rfl rfl rfl ?_
    refine X26.laload hx (j := ((0 : Int32) + c0)) (v := (.long Kz0)) (by rw [e26]; exact Ar27.1) (State.isArrayOf_alike hZ.alike Ar27.2.1) Ar27.2.2 hin27 hat27 (g := (mkF m 61 #[rv a0, rv a1, iv p2, iv (0 : Int32), iv ((0 : Int32) + c0)] [(.int ((0 : Int32) + c0)), (.ref ca), (.int ((0 : Int32) + c0)), (.ref ca)])) rfl rfl (hb hby d8_61) _ ?_
    refine XS.lconst X26.here hx rfl (hb hby d8_62) ?_
    refine XS.ladd X26.here hx rfl (hb hby d8_63) rfl ?_
    refine st28 _ ?_
    refine XS.goto X28.here hx rfl (pc0 := 65) (pc' := 126) rfl (hb hby d8_65) (by decide) (by decide) ?_
    exact kg)
   have hj43 : (pI c0 (0 : Int32) (nf Kz0 Fz0 p2) f0) = (pI c0 (0 : Int32) p2 f0) := by simp only [nf, if_pos hc10]
   have hj44 : (pI c0 (1 : Int32) (nf Kz0 Fz0 p2) f1) = (pI c0 (1 : Int32) p2 f1) := by simp only [nf, if_pos hc10]
   have hj45 : (pI c0 (2 : Int32) (nf Kz0 Fz0 p2) f2) = (pI c0 (2 : Int32) p2 f2) := by simp only [nf, if_pos hc10]
   have hj46 : (pJ c0 (0 : Int32) (nc Kz0 Fz0 p2) k0) = (pJ c0 (0 : Int32) (Kz0 + (1 : Int64)) k0) := by simp only [nc, if_pos hc10]
   have hj47 : (pJ c0 (1 : Int32) (nc Kz0 Fz0 p2) k1) = (pJ c0 (1 : Int32) (Kz0 + (1 : Int64)) k1) := by simp only [nc, if_pos hc10]
   have hj48 : (pJ c0 (2 : Int32) (nc Kz0 Fz0 p2) k2) = (pJ c0 (2 : Int32) (Kz0 + (1 : Int64)) k2) := by simp only [nc, if_pos hc10]
   exact ⟨_, _, _, X28, e28, N28, K28, O28, E28_30, F28_31, E28_32, F28_33, F28_34, F28_35, F28_36, E28_37, V28_38, E28_39, E28_40, (by rw [hj43, hj44, hj45]; exact V28_41), (by rw [hj46, hj47, hj48]; exact V28_29), pre42⟩
  ·
   obtain ⟨T49, X49, e49, st49⟩ := getF X7 hx hZ hown (host := "") (Or.inl (ow hw 56 rfl)) Via.refl e7 pf4 (g := (mkF m 36 #[rv a0, rv a1, iv p2, iv (0 : Int32), iv ((0 : Int32) + c0)] [(.ref a0)])) rfl rfl (hb hby d8_36)
   obtain ⟨cl50, Ar50, q50, S50, N50, H50, G50⟩ := id pf11
   have hin50 := own_in ((0 : Int32) + c0) S50 (own_b3_0 hc0)
   have hat50 : cl50.slots[(((0 : Int32) + c0)).toNatClampNeg]? = some (.int Fz0) := Has.at H50 hin50 ((own_gI3_0 hc0).trans (congrArg Value.int hFz0.symm))
   have pre51 : ∀ tg, AT p e below T49 m 43 #[rv a0, rv a1, iv p2, iv (0 : Int32), iv ((0 : Int32) + c0)] [(.int p2), (.int Fz0)] tg → Steps p.tables e below S0 tg := fun tg kg => pre9 tg (by
    refine XS.ifNo X7.here hx rfl (hb hby d8_32) rfl (XT.ll_eq_f hc10) ?_
    refine XS.aloadN X7.here hx rfl (hb hby d8_35) rfl rfl ?_
    refine st49 _ ?_
    refine XS.iload X49.here hx rfl (hb hby d8_39) rfl ?_
    refine X49.iaload hx (j := ((0 : Int32) + c0)) (v := (.int Fz0)) (by rw [e49]; exact Ar50.1) (State.isArrayOf_alike hZ.alike Ar50.2.1) Ar50.2.2 hin50 hat50 (g := (mkF m 41 #[rv a0, rv a1, iv p2, iv (0 : Int32), iv ((0 : Int32) + c0)] [(.int ((0 : Int32) + c0)), (.ref fa)])) rfl rfl (hb hby d8_41) _ ?_
    refine XS.iloadN X49.here hx rfl (hb hby d8_42) rfl ?_
    exact kg)
   rcases Decidable.em (Fz0 = p2) with hc52 | hc52
   ·
    obtain ⟨T53, X53, e53, st53⟩ := getF X49 hx hZ hown (host := "") (Or.inl (ow hw 56 rfl)) Via.refl e49 pf4 (g := (mkF m 47 #[rv a0, rv a1, iv p2, iv (0 : Int32), iv ((0 : Int32) + c0)] [(.ref a0)])) rfl rfl (hb hby d8_47)
    obtain ⟨cl54, Ar54, q54, S54, M54, H54, G54⟩ := id pf11
    have hin54 := own_in ((0 : Int32) + c0) S54 (own_b3_0 hc0)
    obtain ⟨T54, h54, X54, e54, W54, st54⟩ := stI X53 hx hZ e53 Ar54 (j := ((0 : Int32) + c0)) hin54 (g := (mkF m 53 #[rv a0, rv a1, iv p2, iv (0 : Int32), iv ((0 : Int32) + c0)] [(.int p2), (.int ((0 : Int32) + c0)), (.ref fa)])) rfl rfl (hb hby d8_53)
    have V54_55 : Arv Z h54 fa kf .int (6 : Int32) [(.int (pI c0 (0 : Int32) p2 f0)), (.int (pI c0 (1 : Int32) p2 f1)), (.int (pI c0 (2 : Int32) p2 f2)), (.int f3), (.int f4), (.int f5)] (.int (0 : Int32)) := by have q := Arv.set Ar54 q54 S54 M54 H54 G54 rfl W54 (((0 : Int32) + c0)).toNatClampNeg rfl (own_k3_0 hc0); rw [own_sI3_0 hc0] at q; exact q
    have E54_56 := pf0.wr W54
    have F54_57 := pf1.other W54 (Or.inl n_a0_fa)
    have E54_58 := pf2.wr W54
    have F54_59 := pf3.other W54 (Or.inl n_sh_fa)
    have F54_60 := pf4.other W54 (Or.inl n_a0_fa)
    have F54_61 := pf5.other W54 (Or.inl n_a0_fa)
    have F54_62 := pf6.other W54 (Or.inl n_a0_fa)
    have E54_63 := pf7.wr W54
    have V54_64 := pf8.other W54 pf15
    have E54_65 := pf9.wr W54
    have E54_66 := pf10.wr W54
    have V54_67 := pf12.other W54 (Ne.symm n_fa_ca)
    have K54 := (Keep.refl h0 [fa, ca]).wr W54 (Or.inl (List.mem_of_getElem? (i := 0) rfl))
    have O54 := O0.wr W54 pf13
    have N54 := Fr.snoc X54 N3 pf13
    obtain ⟨T68, X68, e68, st68⟩ := getF X54 hx hZ hown (host := "") (Or.inl (ow hw 59 rfl)) Via.refl e54 F54_61 (g := (mkF m 55 #[rv a0, rv a1, iv p2, iv (0 : Int32), iv ((0 : Int32) + c0)] [(.ref a0)])) rfl rfl (hb hby d8_55)
    obtain ⟨cl69, Ar69, q69, S69, N69, H69, G69⟩ := id V54_67
    have hin69 := own_in ((0 : Int32) + c0) S69 (own_b3_0 hc0)
    have hat69 : cl69.slots[(((0 : Int32) + c0)).toNatClampNeg]? = some (.long Kz0) := Has.at H69 hin69 ((own_gJ3_0 hc0).trans (congrArg Value.long hKz0.symm))
    obtain ⟨cl70, Ar70, q70, S70, M70, H70, G70⟩ := id V54_67
    have hin70 := own_in ((0 : Int32) + c0) S70 (own_b3_0 hc0)
    obtain ⟨T70, h70, X70, e70, W70, st70⟩ := stJ X68 hx hZ e68 Ar70 (j := ((0 : Int32) + c0)) hin70 (g := (mkF m 64 #[rv a0, rv a1, iv p2, iv (0 : Int32), iv ((0 : Int32) + c0)] [(.long (Kz0 + (1 : Int64))), (.int ((0 : Int32) + c0)), (.ref ca)])) rfl rfl (hb hby d8_64)
    have V70_71 : Arv Z h70 ca kc .long (6 : Int32) [(.long (pJ c0 (0 : Int32) (Kz0 + (1 : Int64)) k0)), (.long (pJ c0 (1 : Int32) (Kz0 + (1 : Int64)) k1)), (.long (pJ c0 (2 : Int32) (Kz0 + (1 : Int64)) k2)), (.long k3), (.long k4), (.long k5)] (.long (0 : Int64)) := by have q := Arv.set Ar70 q70 S70 M70 H70 G70 rfl W70 (((0 : Int32) + c0)).toNatClampNeg rfl (own_k3_0 hc0); rw [own_sJ3_0 hc0] at q; exact q
    have E70_72 := E54_56.wr W70
    have F70_73 := F54_57.other W70 (Or.inl n_a0_ca)
    have E70_74 := E54_58.wr W70
    have F70_75 := F54_59.other W70 (Or.inl n_sh_ca)
    have F70_76 := F54_60.other W70 (Or.inl n_a0_ca)
    have F70_77 := F54_61.other W70 (Or.inl n_a0_ca)
    have F70_78 := F54_62.other W70 (Or.inl n_a0_ca)
    have E70_79 := E54_63.wr W70
    have V70_80 := V54_64.other W70 n_a1_ca
    have E70_81 := E54_65.wr W70
    have E70_82 := E54_66.wr W70
    have V70_83 := V54_55.other W70 n_fa_ca
    have K70 := K54.wr W70 (Or.inl (List.mem_of_getElem? (i := 1) rfl))
    have O70 := O54.wr W70 pf14
    have N70 := Fr.snoc X70 N54 pf14
    have pre84 : ∀ tg, AT p e below T70 m 126 #[rv a0, rv a1, iv p2, iv (0 : Int32), iv ((0 : Int32) + c0)] [] tg → Steps p.tables e below S0 tg := fun tg kg => pre51 tg (by
     refine XS.icmpNo X49.here hx rfl (hb hby d8_43) rfl (XT.ii_ne_f hc52) ?_
     refine XS.aloadN X49.here hx rfl (hb hby d8_46) rfl rfl ?_
     show AT p e below T49 m 47 #[rv a0, rv a1, iv p2, iv (0 : Int32), iv ((0 : Int32) + c0)] [(.ref a0)] _
     refine st53 _ ?_
     refine XS.iload X53.here hx rfl (hb hby d8_50) rfl ?_
     refine XS.iloadN X53.here hx rfl (hb hby d8_52) rfl ?_
     refine st54 _ ?_
     refine XS.aloadN X54.here hx rfl (hb hby d8_54) rfl rfl ?_
     refine st68 _ ?_
     refine XS.iload X68.here hx rfl (hb hby d8_58) rfl ?_
     refine XT.dup2 X68.here hx rfl (hb hby d8_60) rfl rfl rfl ?_
     refine X68.laload hx (j := ((0 : Int32) + c0)) (v := (.long Kz0)) (by rw [e68]; exact Ar69.1) (State.isArrayOf_alike hZ.alike Ar69.2.1) Ar69.2.2 hin69 hat69 (g := (mkF m 61 #[rv a0, rv a1, iv p2, iv (0 : Int32), iv ((0 : Int32) + c0)] [(.int ((0 : Int32) + c0)), (.ref ca), (.int ((0 : Int32) + c0)), (.ref ca)])) rfl rfl (hb hby d8_61) _ ?_
     refine XS.lconst X68.here hx rfl (hb hby d8_62) ?_
     refine XS.ladd X68.here hx rfl (hb hby d8_63) rfl ?_
     refine st70 _ ?_
     show AT p e below T70 m 65 #[rv a0, rv a1, iv p2, iv (0 : Int32), iv ((0 : Int32) + c0)] [] _
     refine XS.goto X70.here hx rfl (pc0 := 65) (pc' := 126) rfl (hb hby d8_65) (by decide) (by decide) ?_
     exact kg)
    have hj85 : (pI c0 (0 : Int32) (nf Kz0 Fz0 p2) f0) = (pI c0 (0 : Int32) p2 f0) := by simp only [nf, if_neg hc10, if_pos hc52]
    have hj86 : (pI c0 (1 : Int32) (nf Kz0 Fz0 p2) f1) = (pI c0 (1 : Int32) p2 f1) := by simp only [nf, if_neg hc10, if_pos hc52]
    have hj87 : (pI c0 (2 : Int32) (nf Kz0 Fz0 p2) f2) = (pI c0 (2 : Int32) p2 f2) := by simp only [nf, if_neg hc10, if_pos hc52]
    have hj88 : (pJ c0 (0 : Int32) (nc Kz0 Fz0 p2) k0) = (pJ c0 (0 : Int32) (Kz0 + (1 : Int64)) k0) := by simp only [nc, if_neg hc10, if_pos hc52]
    have hj89 : (pJ c0 (1 : Int32) (nc Kz0 Fz0 p2) k1) = (pJ c0 (1 : Int32) (Kz0 + (1 : Int64)) k1) := by simp only [nc, if_neg hc10, if_pos hc52]
    have hj90 : (pJ c0 (2 : Int32) (nc Kz0 Fz0 p2) k2) = (pJ c0 (2 : Int32) (Kz0 + (1 : Int64)) k2) := by simp only [nc, if_neg hc10, if_pos hc52]
    exact ⟨_, _, _, X70, e70, N70, K70, O70, E70_72, F70_73, E70_74, F70_75, F70_76, F70_77, F70_78, E70_79, V70_80, E70_81, E70_82, (by rw [hj85, hj86, hj87]; exact V70_83), (by rw [hj88, hj89, hj90]; exact V70_71), pre84⟩
   ·
    obtain ⟨T91, X91, e91, st91⟩ := getF X49 hx hZ hown (host := "") (Or.inl (ow hw 49 rfl)) Via.refl e49 pf6 (g := (mkF m 69 #[rv a0, rv a1, iv p2, iv (0 : Int32), iv ((0 : Int32) + c0)] [(.ref a0)])) rfl rfl (hb hby d8_69)
    obtain ⟨T92, X92, e92, st92⟩ := getF X91 hx hZ hown (host := "") (Or.inl (ow hw 59 rfl)) Via.refl e91 pf5 (g := (mkF m 73 #[rv a0, rv a1, iv p2, iv (0 : Int32), iv ((0 : Int32) + c0)] [(.ref a0), (.ref w_lam)])) rfl rfl (hb hby d8_73)
    obtain ⟨cl93, Ar93, q93, S93, N93, H93, G93⟩ := id pf12
    have hin93 := own_in ((0 : Int32) + c0) S93 (own_b3_0 hc0)
    have hat93 : cl93.slots[(((0 : Int32) + c0)).toNatClampNeg]? = some (.long Kz0) := Has.at H93 hin93 ((own_gJ3_0 hc0).trans (congrArg Value.long hKz0.symm))
    obtain ⟨T94, X94, e94, st94⟩ := own_test X92 hx hw hZ hown HLm O0 e92 (g := (mkF m 79 #[rv a0, rv a1, iv p2, iv (0 : Int32), iv ((0 : Int32) + c0)] [(.long Kz0), (.ref w_lam)])) rfl (by rw [hml]; rfl) rfl (hb hby d8_79) (W := 0) (by show 2 * 0 + _ ≤ _; exact Nat.le_of_eq rfl) (by decide) (by decide) (by decide) (by decide)
    obtain ⟨T95, X95, e95, st95⟩ := getF X94 hx hZ hown (host := "") (Or.inl (ow hw 59 rfl)) Via.refl e94 pf5 (g := (mkF m 88 #[rv a0, rv a1, iv p2, iv (0 : Int32), iv ((0 : Int32) + c0)] [(.ref a0)])) rfl rfl (hb hby d8_88)
    obtain ⟨cl96, Ar96, q96, S96, N96, H96, G96⟩ := id pf12
    have hin96 := own_in ((0 : Int32) + c0) S96 (own_b3_0 hc0)
    have hat96 : cl96.slots[(((0 : Int32) + c0)).toNatClampNeg]? = some (.long Kz0) := Has.at H96 hin96 ((own_gJ3_0 hc0).trans (congrArg Value.long hKz0.symm))
    obtain ⟨cl97, Ar97, q97, S97, M97, H97, G97⟩ := id pf12
    have hin97 := own_in ((0 : Int32) + c0) S97 (own_b3_0 hc0)
    obtain ⟨T97, h97, X97, e97, W97, st97⟩ := stJ X95 hx hZ e95 Ar97 (j := ((0 : Int32) + c0)) hin97 (g := (mkF m 97 #[rv a0, rv a1, iv p2, iv (0 : Int32), iv ((0 : Int32) + c0)] [(.long (Kz0 - (1 : Int64))), (.int ((0 : Int32) + c0)), (.ref ca)])) rfl rfl (hb hby d8_97)
    have V97_98 : Arv Z h97 ca kc .long (6 : Int32) [(.long (pJ c0 (0 : Int32) (Kz0 - (1 : Int64)) k0)), (.long (pJ c0 (1 : Int32) (Kz0 - (1 : Int64)) k1)), (.long (pJ c0 (2 : Int32) (Kz0 - (1 : Int64)) k2)), (.long k3), (.long k4), (.long k5)] (.long (0 : Int64)) := by have q := Arv.set Ar97 q97 S97 M97 H97 G97 rfl W97 (((0 : Int32) + c0)).toNatClampNeg rfl (own_k3_0 hc0); rw [own_sJ3_0 hc0] at q; exact q
    have E97_99 := pf0.wr W97
    have F97_100 := pf1.other W97 (Or.inl n_a0_ca)
    have E97_101 := pf2.wr W97
    have F97_102 := pf3.other W97 (Or.inl n_sh_ca)
    have F97_103 := pf4.other W97 (Or.inl n_a0_ca)
    have F97_104 := pf5.other W97 (Or.inl n_a0_ca)
    have F97_105 := pf6.other W97 (Or.inl n_a0_ca)
    have E97_106 := pf7.wr W97
    have V97_107 := pf8.other W97 n_a1_ca
    have E97_108 := pf9.wr W97
    have E97_109 := pf10.wr W97
    have V97_110 := pf11.other W97 n_fa_ca
    have K97 := (Keep.refl h0 [fa, ca]).wr W97 (Or.inl (List.mem_of_getElem? (i := 1) rfl))
    have O97 := O0.wr W97 pf14
    have N97 := Fr.snoc X97 N3 pf14
    obtain ⟨T111, X111, e111, st111⟩ := getF X97 hx hZ hown (host := "") (Or.inl (ow hw 59 rfl)) Via.refl e97 F97_104 (g := (mkF m 99 #[rv a0, rv a1, iv p2, iv (0 : Int32), iv ((0 : Int32) + c0)] [(.ref a0)])) rfl rfl (hb hby d8_99)
    obtain ⟨cl112, Ar112, q112, S112, N112, H112, G112⟩ := id V97_98
    have hin112 := own_in ((0 : Int32) + c0) S112 (own_b3_0 hc0)
    have hat112 : cl112.slots[(((0 : Int32) + c0)).toNatClampNeg]? = some (.long (Kz0 - (1 : Int64))) := Has.at H112 hin112 ((own_gJ3_0 hc0).trans (congrArg Value.long (own_spJ3 hc0)))
    have pre113 : ∀ tg, AT p e below T111 m 107 #[rv a0, rv a1, iv p2, iv (0 : Int32), iv ((0 : Int32) + c0)] [(.int (XT.cmpL (Kz0 - (1 : Int64)) (0 : Int64)))] tg → Steps p.tables e below S0 tg := fun tg kg => pre51 tg (by
     refine XS.icmpYes X49.here hx rfl (pc0 := 43) (pc' := 68) rfl (hb hby d8_43) rfl (XT.ii_ne_t hc52) (by decide) (by decide) ?_
     refine XS.aloadN X49.here hx rfl (hb hby d8_68) rfl rfl ?_
     show AT p e below T49 m 69 #[rv a0, rv a1, iv p2, iv (0 : Int32), iv ((0 : Int32) + c0)] [(.ref a0)] _
     refine st91 _ ?_
     refine XS.aloadN X91.here hx rfl (hb hby d8_72) rfl rfl ?_
     refine st92 _ ?_
     refine XS.iload X92.here hx rfl (hb hby d8_76) rfl ?_
     refine X92.laload hx (j := ((0 : Int32) + c0)) (v := (.long Kz0)) (by rw [e92]; exact Ar93.1) (State.isArrayOf_alike hZ.alike Ar93.2.1) Ar93.2.2 hin93 hat93 (g := (mkF m 78 #[rv a0, rv a1, iv p2, iv (0 : Int32), iv ((0 : Int32) + c0)] [(.int ((0 : Int32) + c0)), (.ref ca), (.ref w_lam)])) rfl rfl (hb hby d8_78) _ ?_
     refine st94 _ ?_
     show AT p e below T94 m 84 #[rv a0, rv a1, iv p2, iv (0 : Int32), iv ((0 : Int32) + c0)] [(.int (1 : Int32))] _
     refine XS.ifNo X94.here hx rfl (hb hby d8_84) rfl (XT.i0_eq_f ((by decide) : ¬ ((1 : Int32) = (0 : Int32)))) ?_
     refine XS.aloadN X94.here hx rfl (hb hby d8_87) rfl rfl ?_
     refine st95 _ ?_
     refine XS.iload X95.here hx rfl (hb hby d8_91) rfl ?_
     refine XT.dup2 X95.here hx rfl (hb hby d8_93) rfl rfl rfl ?_
     refine X95.laload hx (j := ((0 : Int32) + c0)) (v := (.long Kz0)) (by rw [e95]; exact Ar96.1) (State.isArrayOf_alike hZ.alike Ar96.2.1) Ar96.2.2 hin96 hat96 (g := (mkF m 94 #[rv a0, rv a1, iv p2, iv (0 : Int32), iv ((0 : Int32) + c0)] [(.int ((0 : Int32) + c0)), (.ref ca), (.int ((0 : Int32) + c0)), (.ref ca)])) rfl rfl (hb hby d8_94) _ ?_
     refine XS.lconst X95.here hx rfl (hb hby d8_95) ?_
     show AT p e below T95 m 96 #[rv a0, rv a1, iv p2, iv (0 : Int32), iv ((0 : Int32) + c0)] [(.long (1 : Int64)), (.long Kz0), (.int ((0 : Int32) + c0)), (.ref ca)] _
     refine XS.lsub X95.here hx rfl (hb hby d8_96) rfl ?_
     refine st97 _ ?_
     refine XS.aloadN X97.here hx rfl (hb hby d8_98) rfl rfl ?_
     refine st111 _ ?_
     refine XS.iload X111.here hx rfl (hb hby d8_102) rfl ?_
     refine X111.laload hx (j := ((0 : Int32) + c0)) (v := (.long (Kz0 - (1 : Int64)))) (by rw [e111]; exact Ar112.1) (State.isArrayOf_alike hZ.alike Ar112.2.1) Ar112.2.2 hin112 hat112 (g := (mkF m 104 #[rv a0, rv a1, iv p2, iv (0 : Int32), iv ((0 : Int32) + c0)] [(.int ((0 : Int32) + c0)), (.ref ca)])) rfl rfl (hb hby d8_104) _ ?_
     refine XS.lconst X111.here hx rfl (hb hby d8_105) ?_
     refine XS.lcmp X111.here hx rfl (hb hby d8_106) rfl ?_
     exact kg)
    rcases Decidable.em ((Kz0 - (1 : Int64)) = (0 : Int64)) with hc114 | hc114
    ·
     obtain ⟨T115, X115, e115, st115⟩ := getF X111 hx hZ hown (host := "") (Or.inl (ow hw 56 rfl)) Via.refl e111 F97_103 (g := (mkF m 111 #[rv a0, rv a1, iv p2, iv (0 : Int32), iv ((0 : Int32) + c0)] [(.ref a0)])) rfl rfl (hb hby d8_111)
     obtain ⟨cl116, Ar116, q116, S116, M116, H116, G116⟩ := id V97_110
     have hin116 := own_in ((0 : Int32) + c0) S116 (own_b3_0 hc0)
     obtain ⟨T116, h116, X116, e116, W116, st116⟩ := stI X115 hx hZ e115 Ar116 (j := ((0 : Int32) + c0)) hin116 (g := (mkF m 117 #[rv a0, rv a1, iv p2, iv (0 : Int32), iv ((0 : Int32) + c0)] [(.int p2), (.int ((0 : Int32) + c0)), (.ref fa)])) rfl rfl (hb hby d8_117)
     have V116_117 : Arv Z h116 fa kf .int (6 : Int32) [(.int (pI c0 (0 : Int32) p2 f0)), (.int (pI c0 (1 : Int32) p2 f1)), (.int (pI c0 (2 : Int32) p2 f2)), (.int f3), (.int f4), (.int f5)] (.int (0 : Int32)) := by have q := Arv.set Ar116 q116 S116 M116 H116 G116 rfl W116 (((0 : Int32) + c0)).toNatClampNeg rfl (own_k3_0 hc0); rw [own_sI3_0 hc0] at q; exact q
     have E116_118 := E97_99.wr W116
     have F116_119 := F97_100.other W116 (Or.inl n_a0_fa)
     have E116_120 := E97_101.wr W116
     have F116_121 := F97_102.other W116 (Or.inl n_sh_fa)
     have F116_122 := F97_103.other W116 (Or.inl n_a0_fa)
     have F116_123 := F97_104.other W116 (Or.inl n_a0_fa)
     have F116_124 := F97_105.other W116 (Or.inl n_a0_fa)
     have E116_125 := E97_106.wr W116
     have V116_126 := V97_107.other W116 pf15
     have E116_127 := E97_108.wr W116
     have E116_128 := E97_109.wr W116
     have V116_129 := V97_98.other W116 (Ne.symm n_fa_ca)
     have K116 := K97.wr W116 (Or.inl (List.mem_of_getElem? (i := 0) rfl))
     have O116 := O97.wr W116 pf13
     have N116 := Fr.snoc X116 N97 pf13
     obtain ⟨T130, X130, e130, st130⟩ := getF X116 hx hZ hown (host := "") (Or.inl (ow hw 59 rfl)) Via.refl e116 F116_123 (g := (mkF m 119 #[rv a0, rv a1, iv p2, iv (0 : Int32), iv ((0 : Int32) + c0)] [(.ref a0)])) rfl rfl (hb hby d8_119)
     obtain ⟨cl131, Ar131, q131, S131, M131, H131, G131⟩ := id V116_129
     have hin131 := own_in ((0 : Int32) + c0) S131 (own_b3_0 hc0)
     obtain ⟨T131, h131, X131, e131, W131, st131⟩ := stJ X130 hx hZ e130 Ar131 (j := ((0 : Int32) + c0)) hin131 (g := (mkF m 125 #[rv a0, rv a1, iv p2, iv (0 : Int32), iv ((0 : Int32) + c0)] [(.long (1 : Int64)), (.int ((0 : Int32) + c0)), (.ref ca)])) rfl rfl (hb hby d8_125)
     have V131_132 : Arv Z h131 ca kc .long (6 : Int32) [(.long (pJ c0 (0 : Int32) (1 : Int64) k0)), (.long (pJ c0 (1 : Int32) (1 : Int64) k1)), (.long (pJ c0 (2 : Int32) (1 : Int64) k2)), (.long k3), (.long k4), (.long k5)] (.long (0 : Int64)) := by have q := Arv.set Ar131 q131 S131 M131 H131 G131 rfl W131 (((0 : Int32) + c0)).toNatClampNeg rfl (own_k3_0 hc0); rw [own_sJ3_0 hc0] at q; simp only [own_ppJ] at q; exact q
     have E131_133 := E116_118.wr W131
     have F131_134 := F116_119.other W131 (Or.inl n_a0_ca)
     have E131_135 := E116_120.wr W131
     have F131_136 := F116_121.other W131 (Or.inl n_sh_ca)
     have F131_137 := F116_122.other W131 (Or.inl n_a0_ca)
     have F131_138 := F116_123.other W131 (Or.inl n_a0_ca)
     have F131_139 := F116_124.other W131 (Or.inl n_a0_ca)
     have E131_140 := E116_125.wr W131
     have V131_141 := V116_126.other W131 n_a1_ca
     have E131_142 := E116_127.wr W131
     have E131_143 := E116_128.wr W131
     have V131_144 := V116_117.other W131 n_fa_ca
     have K131 := K116.wr W131 (Or.inl (List.mem_of_getElem? (i := 1) rfl))
     have O131 := O116.wr W131 pf14
     have N131 := Fr.snoc X131 N116 pf14
     have pre145 : ∀ tg, AT p e below T131 m 126 #[rv a0, rv a1, iv p2, iv (0 : Int32), iv ((0 : Int32) + c0)] [] tg → Steps p.tables e below S0 tg := fun tg kg => pre113 tg (by
      refine XS.ifNo X111.here hx rfl (hb hby d8_107) rfl (XT.ll_ne_f hc114) ?_
      refine XS.aloadN X111.here hx rfl (hb hby d8_110) rfl rfl ?_
      refine st115 _ ?_
      refine XS.iload X115.here hx rfl (hb hby d8_114) rfl ?_
      refine XS.iloadN X115.here hx rfl (hb hby d8_116) rfl ?_
      show AT p e below T115 m 117 #[rv a0, rv a1, iv p2, iv (0 : Int32), iv ((0 : Int32) + c0)] [(.int p2), (.int ((0 : Int32) + c0)), (.ref fa)] _
      refine st116 _ ?_
      refine XS.aloadN X116.here hx rfl (hb hby d8_118) rfl rfl ?_
      refine st130 _ ?_
      refine XS.iload X130.here hx rfl (hb hby d8_122) rfl ?_
      refine XS.lconst X130.here hx rfl (hb hby d8_124) ?_
      refine st131 _ ?_
      exact kg)
     have hj146 : (pI c0 (0 : Int32) (nf Kz0 Fz0 p2) f0) = (pI c0 (0 : Int32) p2 f0) := by simp only [nf, if_neg hc10, if_neg hc52, if_pos hc114]
     have hj147 : (pI c0 (1 : Int32) (nf Kz0 Fz0 p2) f1) = (pI c0 (1 : Int32) p2 f1) := by simp only [nf, if_neg hc10, if_neg hc52, if_pos hc114]
     have hj148 : (pI c0 (2 : Int32) (nf Kz0 Fz0 p2) f2) = (pI c0 (2 : Int32) p2 f2) := by simp only [nf, if_neg hc10, if_neg hc52, if_pos hc114]
     have hj149 : (pJ c0 (0 : Int32) (nc Kz0 Fz0 p2) k0) = (pJ c0 (0 : Int32) (1 : Int64) k0) := by simp only [nc, if_neg hc10, if_neg hc52, if_pos hc114]
     have hj150 : (pJ c0 (1 : Int32) (nc Kz0 Fz0 p2) k1) = (pJ c0 (1 : Int32) (1 : Int64) k1) := by simp only [nc, if_neg hc10, if_neg hc52, if_pos hc114]
     have hj151 : (pJ c0 (2 : Int32) (nc Kz0 Fz0 p2) k2) = (pJ c0 (2 : Int32) (1 : Int64) k2) := by simp only [nc, if_neg hc10, if_neg hc52, if_pos hc114]
     exact ⟨_, _, _, X131, e131, N131, K131, O131, E131_133, F131_134, E131_135, F131_136, F131_137, F131_138, F131_139, E131_140, V131_141, E131_142, E131_143, (by rw [hj146, hj147, hj148]; exact V131_144), (by rw [hj149, hj150, hj151]; exact V131_132), pre145⟩
    ·
     have pre152 : ∀ tg, AT p e below T111 m 126 #[rv a0, rv a1, iv p2, iv (0 : Int32), iv ((0 : Int32) + c0)] [] tg → Steps p.tables e below S0 tg := fun tg kg => pre113 tg (by
      refine XS.ifYes X111.here hx rfl (pc0 := 107) (pc' := 126) rfl (hb hby d8_107) rfl (XT.ll_ne_t hc114) (by decide) (by decide) ?_
      exact kg)
     have hj153 : (pI c0 (0 : Int32) (nf Kz0 Fz0 p2) f0) = f0 := by rw [nf, if_neg hc10, if_neg hc52, if_neg hc114, hFz0]; exact own_psI3_0 hc0
     have hj154 : (pI c0 (1 : Int32) (nf Kz0 Fz0 p2) f1) = f1 := by rw [nf, if_neg hc10, if_neg hc52, if_neg hc114, hFz0]; exact own_psI3_1 hc0
     have hj155 : (pI c0 (2 : Int32) (nf Kz0 Fz0 p2) f2) = f2 := by rw [nf, if_neg hc10, if_neg hc52, if_neg hc114, hFz0]; exact own_psI3_2 hc0
     have hj156 : (pJ c0 (0 : Int32) (nc Kz0 Fz0 p2) k0) = (pJ c0 (0 : Int32) (Kz0 - (1 : Int64)) k0) := by simp only [nc, if_neg hc10, if_neg hc52, if_neg hc114]
     have hj157 : (pJ c0 (1 : Int32) (nc Kz0 Fz0 p2) k1) = (pJ c0 (1 : Int32) (Kz0 - (1 : Int64)) k1) := by simp only [nc, if_neg hc10, if_neg hc52, if_neg hc114]
     have hj158 : (pJ c0 (2 : Int32) (nc Kz0 Fz0 p2) k2) = (pJ c0 (2 : Int32) (Kz0 - (1 : Int64)) k2) := by simp only [nc, if_neg hc10, if_neg hc52, if_neg hc114]
     exact ⟨_, _, _, X111, e111, N97, K97, O97, E97_99, F97_100, E97_101, F97_102, F97_103, F97_104, F97_105, E97_106, V97_107, E97_108, E97_109, (by rw [hj153, hj154, hj155]; exact V97_110), (by rw [hj156, hj157, hj158]; exact V97_98), pre152⟩
 obtain ⟨cl159, Ar159, q159, S159, N159, H159, G159⟩ := id J6_8
 obtain ⟨T160, X160, e160, st160⟩ := getF X6 hx hZ hown (host := "") (Or.inl (ow hw 47 rfl)) Via.refl e6 J6_1 (g := (mkF m 10 #[rv a0, rv a1, iv p2, iv (1 : Int32), iv ((0 : Int32) + c0)] [(.ref a0), (.int (1 : Int32))])) rfl rfl (hb hby d8_10)
 obtain ⟨cq161, kq161, q161a, q161b, q161c⟩ := isOf hZ e160 J6_2
 obtain ⟨_, _, ⟨T161, L161, k161, n161⟩, -, X161, ⟨Lc161, hQ161, l161, y161, z161⟩, st161⟩ := X160.virtualBack hx (y := y9) (z := y9) hown (mvT hZ (ow hw 66 rfl)) (mvT hZ (ow hw 67 rfl)) (notFace_of_selects (args := #[]) (mvT hZ (ow hw 69 rfl))) (mvT hZ (ow hw 69 rfl)) (mvT hZ (ow hw 68 rfl)) (by decide) (backOf (W := 1) (rm9 l Z ar hw [] sh (3 : Int32) h6 n0 O6 J6_3) hZ (ow hw 70 rfl) (ow hw 3 rfl) (by decide) (by decide)) q161a q161c (g := (mkF m 13 #[rv a0, rv a1, iv p2, iv (1 : Int32), iv ((0 : Int32) + c0)] [(.ref sh), (.int (1 : Int32))])) rfl (by rw [hml]; rfl) (Steps.refl _) (argsL := []) (rest := [(.int (1 : Int32))]) (lenOf pd_2 rfl) rfl (by show 2 * 0 + _ ≤ _; exact Nat.le_of_eq rfl) (hb hby d8_13) (fun _ _ => ⟨rfl, e160, (by decide : 0 + 0 ≤ _), (by decide : 0 + 0 ≤ _)⟩)
 dsimp only [Pt.U, Pt.locs, Pt.cells, Pt.slots] at X161 l161 y161 z161 st161 hQ161
 subst l161 y161 z161
 obtain ⟨rfl, N161q, e161⟩ := hQ161
 have N161 := Fr.app N6 N161q
 obtain ⟨cl162, Ar162, q162, S162, N162, H162, G162⟩ := id J6_8
 have hin162 := own_in (1 : Int32) S162 ⟨by decide, by decide⟩
 have hat162 : cl162.slots[((1 : Int32)).toNatClampNeg]? = some (.int c1) := Has.at H162 hin162 rfl
 have pre163 : ∀ tg, AT p e below T161 m 23 #[rv a0, rv a1, iv p2, iv (1 : Int32), iv ((3 : Int32) + c1)] [] tg → Steps p.tables e below S0 tg := fun tg kg => pre6 tg (by
  refine XS.iinc X6.here hx rfl (hb hby d8_126) rfl (l' := #[rv a0, rv a1, iv p2, iv (1 : Int32), iv ((0 : Int32) + c0)]) rfl ?_
  refine XS.goto X6.here hx rfl (pc0 := 129) (pc' := 2) rfl (hb hby d8_129) (by decide) (by decide) ?_
  refine XS.iloadN X6.here hx rfl (hb hby d8_2) rfl ?_
  refine XS.aloadN X6.here hx rfl (hb hby d8_3) rfl rfl ?_
  refine X6.arraylength hx (by rw [e6]; exact Ar159.1) (State.isArrayOf_alike hZ.alike Ar159.2.1) (g := (mkF m 4 #[rv a0, rv a1, iv p2, iv (1 : Int32), iv ((0 : Int32) + c0)] [(.ref a1), (.int (1 : Int32))])) rfl rfl (hb hby d8_4) _ ?_
  rw [len_of S159 N159]
  show AT p e below T6 m 5 #[rv a0, rv a1, iv p2, iv (1 : Int32), iv ((0 : Int32) + c0)] [(.int (2 : Int32)), (.int (1 : Int32))] _
  refine XS.icmpNo X6.here hx rfl (hb hby d8_5) rfl (XT.ii_ge_f ((by decide) : (1 : Int32) < (2 : Int32))) ?_
  refine XS.iloadN X6.here hx rfl (hb hby d8_8) rfl ?_
  refine XS.aloadN X6.here hx rfl (hb hby d8_9) rfl rfl ?_
  refine st160 _ ?_
  refine st161.trans ?_
  refine XS.imul X161.here hx rfl (hb hby d8_16) rfl ?_
  refine XS.aloadN X161.here hx rfl (hb hby d8_17) rfl rfl ?_
  refine XS.iloadN X161.here hx rfl (hb hby d8_18) rfl ?_
  show AT p e below T161 m 19 #[rv a0, rv a1, iv p2, iv (1 : Int32), iv ((0 : Int32) + c0)] [(.int (1 : Int32)), (.ref a1), (.int (3 : Int32))] _
  refine X161.iaload hx (j := (1 : Int32)) (v := (.int c1)) (by rw [e161]; exact Ar162.1) (State.isArrayOf_alike hZ.alike Ar162.2.1) Ar162.2.2 hin162 hat162 (g := (mkF m 19 #[rv a0, rv a1, iv p2, iv (1 : Int32), iv ((0 : Int32) + c0)] [(.int (1 : Int32)), (.ref a1), (.int (3 : Int32))])) rfl rfl (hb hby d8_19) _ ?_
  refine XS.iadd X161.here hx rfl (hb hby d8_20) rfl ?_
  refine XS.istore X161.here hx rfl (hb hby d8_21) rfl (l' := #[rv a0, rv a1, iv p2, iv (1 : Int32), iv ((3 : Int32) + c1)]) rfl ?_
  exact kg)
 obtain ⟨Kz1, hKz1⟩ : ∃ z, z = (sJ3 c1 k3 k4 k5) := ⟨_, rfl⟩
 obtain ⟨Fz1, hFz1⟩ : ∃ z, z = (sI3 c1 f3 f4 f5) := ⟨_, rfl⟩
 obtain ⟨T164, h164, L164, X164, e164, N164, K164, O164, J164_0, J164_1, J164_2, J164_3, J164_4, J164_5, J164_6, J164_7, J164_8, J164_9, J164_10, J164_11, J164_12, pre164⟩ : ∃ (T164 : State) (h164 : Heap) (L164 : List Loc), Stand p l e ({ frames := 2, cells := 0, slots := 0, locals := 27 } : Room) s m #[(.ref a0), (.ref a1), (.int p2)] below meth c T164 L164 ((0 + 0) + 0) ((0 + 0) + 0) ∧ T164.heap = h164 ∧ Fr n0 L164 ∧ Keep h0 h164 [fa, ca] ∧ Old Z n0 h164 ∧ Exa Z h164 a0 "com/example/filters_under_siege/filtersundersiege/KeeperPairs" ∧ Fld Z h164 a0 "com/example/filters_under_siege/filtersundersiege/KeeperPairs" "shape" "Lcom/example/filters_under_siege/filtersundersiege/SketchShape;" (.ref sh) ∧ Exa Z h164 sh "com/example/filters_under_siege/filtersundersiege/SketchShape" ∧ Fld Z h164 sh "com/example/filters_under_siege/filtersundersiege/SketchShape" "width" "I" (.int (3 : Int32)) ∧ Fld Z h164 a0 "com/example/filters_under_siege/filtersundersiege/KeeperPairs" "fingerprints" "[I" (.ref fa) ∧ Fld Z h164 a0 "com/example/filters_under_siege/filtersundersiege/KeeperPairs" "counts" "[J" (.ref ca) ∧ Fld Z h164 a0 "com/example/filters_under_siege/filtersundersiege/KeeperPairs" "knocksDown" "Ljava/util/function/LongPredicate;" (.ref w_lam) ∧ Exa Z h164 a1 "[I" ∧ Arv Z h164 a1 kk .int (2 : Int32) [(.int c0), (.int c1)] (.int (0 : Int32)) ∧ Exa Z h164 fa "[I" ∧ Exa Z h164 ca "[J" ∧ Arv Z h164 fa kf .int (6 : Int32) [(.int (pI c0 (0 : Int32) (nf Kz0 Fz0 p2) f0)), (.int (pI c0 (1 : Int32) (nf Kz0 Fz0 p2) f1)), (.int (pI c0 (2 : Int32) (nf Kz0 Fz0 p2) f2)), (.int (pI c1 (0 : Int32) (nf Kz1 Fz1 p2) f3)), (.int (pI c1 (1 : Int32) (nf Kz1 Fz1 p2) f4)), (.int (pI c1 (2 : Int32) (nf Kz1 Fz1 p2) f5))] (.int (0 : Int32)) ∧ Arv Z h164 ca kc .long (6 : Int32) [(.long (pJ c0 (0 : Int32) (nc Kz0 Fz0 p2) k0)), (.long (pJ c0 (1 : Int32) (nc Kz0 Fz0 p2) k1)), (.long (pJ c0 (2 : Int32) (nc Kz0 Fz0 p2) k2)), (.long (pJ c1 (0 : Int32) (nc Kz1 Fz1 p2) k3)), (.long (pJ c1 (1 : Int32) (nc Kz1 Fz1 p2) k4)), (.long (pJ c1 (2 : Int32) (nc Kz1 Fz1 p2) k5))] (.long (0 : Int64)) ∧ (∀ tg, AT p e below T164 m 126 #[rv a0, rv a1, iv p2, iv (1 : Int32), iv ((3 : Int32) + c1)] [] tg → Steps p.tables e below S0 tg) := by
  obtain ⟨T165, X165, e165, st165⟩ := getF X161 hx hZ hown (host := "") (Or.inl (ow hw 59 rfl)) Via.refl e161 J6_5 (g := (mkF m 24 #[rv a0, rv a1, iv p2, iv (1 : Int32), iv ((3 : Int32) + c1)] [(.ref a0)])) rfl rfl (hb hby d8_24)
  obtain ⟨cl166, Ar166, q166, S166, N166, H166, G166⟩ := id J6_12
  have hin166 := own_in ((3 : Int32) + c1) S166 (own_b3_3 hc1)
  have hat166 : cl166.slots[(((3 : Int32) + c1)).toNatClampNeg]? = some (.long Kz1) := Has.at H166 hin166 ((own_gJ3_3 hc1).trans (congrArg Value.long hKz1.symm))
  have pre167 : ∀ tg, AT p e below T165 m 32 #[rv a0, rv a1, iv p2, iv (1 : Int32), iv ((3 : Int32) + c1)] [(.int (XT.cmpL Kz1 (0 : Int64)))] tg → Steps p.tables e below S0 tg := fun tg kg => pre163 tg (by
   refine XS.aloadN X161.here hx rfl (hb hby d8_23) rfl rfl ?_
   refine st165 _ ?_
   refine XS.iload X165.here hx rfl (hb hby d8_27) rfl ?_
   refine X165.laload hx (j := ((3 : Int32) + c1)) (v := (.long Kz1)) (by rw [e165]; exact Ar166.1) (State.isArrayOf_alike hZ.alike Ar166.2.1) Ar166.2.2 hin166 hat166 (g := (mkF m 29 #[rv a0, rv a1, iv p2, iv (1 : Int32), iv ((3 : Int32) + c1)] [(.int ((3 : Int32) + c1)), (.ref ca)])) rfl rfl (hb hby d8_29) _ ?_
   refine XS.lconst X165.here hx rfl (hb hby d8_30) ?_
   refine XS.lcmp X165.here hx rfl (hb hby d8_31) rfl ?_
   exact kg)
  rcases Decidable.em (Kz1 = (0 : Int64)) with hc168 | hc168
  ·
   obtain ⟨T169, X169, e169, st169⟩ := getF X165 hx hZ hown (host := "") (Or.inl (ow hw 56 rfl)) Via.refl e165 J6_4 (g := (mkF m 47 #[rv a0, rv a1, iv p2, iv (1 : Int32), iv ((3 : Int32) + c1)] [(.ref a0)])) rfl rfl (hb hby d8_47)
   obtain ⟨cl170, Ar170, q170, S170, M170, H170, G170⟩ := id J6_11
   have hin170 := own_in ((3 : Int32) + c1) S170 (own_b3_3 hc1)
   obtain ⟨T170, h170, X170, e170, W170, st170⟩ := stI X169 hx hZ e169 Ar170 (j := ((3 : Int32) + c1)) hin170 (g := (mkF m 53 #[rv a0, rv a1, iv p2, iv (1 : Int32), iv ((3 : Int32) + c1)] [(.int p2), (.int ((3 : Int32) + c1)), (.ref fa)])) rfl rfl (hb hby d8_53)
   have V170_171 : Arv Z h170 fa kf .int (6 : Int32) [(.int (pI c0 (0 : Int32) (nf Kz0 Fz0 p2) f0)), (.int (pI c0 (1 : Int32) (nf Kz0 Fz0 p2) f1)), (.int (pI c0 (2 : Int32) (nf Kz0 Fz0 p2) f2)), (.int (pI c1 (0 : Int32) p2 f3)), (.int (pI c1 (1 : Int32) p2 f4)), (.int (pI c1 (2 : Int32) p2 f5))] (.int (0 : Int32)) := by have q := Arv.set Ar170 q170 S170 M170 H170 G170 rfl W170 (((3 : Int32) + c1)).toNatClampNeg rfl (own_k3_3 hc1); rw [own_sI3_3 hc1] at q; exact q
   have E170_172 := J6_0.wr W170
   have F170_173 := J6_1.other W170 (Or.inl n_a0_fa)
   have E170_174 := J6_2.wr W170
   have F170_175 := J6_3.other W170 (Or.inl n_sh_fa)
   have F170_176 := J6_4.other W170 (Or.inl n_a0_fa)
   have F170_177 := J6_5.other W170 (Or.inl n_a0_fa)
   have F170_178 := J6_6.other W170 (Or.inl n_a0_fa)
   have E170_179 := J6_7.wr W170
   have V170_180 := J6_8.other W170 pf15
   have E170_181 := J6_9.wr W170
   have E170_182 := J6_10.wr W170
   have V170_183 := J6_12.other W170 (Ne.symm n_fa_ca)
   have K170 := K6.wr W170 (Or.inl (List.mem_of_getElem? (i := 0) rfl))
   have O170 := O6.wr W170 pf13
   have N170 := Fr.snoc X170 N161 pf13
   obtain ⟨T184, X184, e184, st184⟩ := getF X170 hx hZ hown (host := "") (Or.inl (ow hw 59 rfl)) Via.refl e170 F170_177 (g := (mkF m 55 #[rv a0, rv a1, iv p2, iv (1 : Int32), iv ((3 : Int32) + c1)] [(.ref a0)])) rfl rfl (hb hby d8_55)
   obtain ⟨cl185, Ar185, q185, S185, N185, H185, G185⟩ := id V170_183
   have hin185 := own_in ((3 : Int32) + c1) S185 (own_b3_3 hc1)
   have hat185 : cl185.slots[(((3 : Int32) + c1)).toNatClampNeg]? = some (.long Kz1) := Has.at H185 hin185 ((own_gJ3_3 hc1).trans (congrArg Value.long hKz1.symm))
   obtain ⟨cl186, Ar186, q186, S186, M186, H186, G186⟩ := id V170_183
   have hin186 := own_in ((3 : Int32) + c1) S186 (own_b3_3 hc1)
   obtain ⟨T186, h186, X186, e186, W186, st186⟩ := stJ X184 hx hZ e184 Ar186 (j := ((3 : Int32) + c1)) hin186 (g := (mkF m 64 #[rv a0, rv a1, iv p2, iv (1 : Int32), iv ((3 : Int32) + c1)] [(.long (Kz1 + (1 : Int64))), (.int ((3 : Int32) + c1)), (.ref ca)])) rfl rfl (hb hby d8_64)
   have V186_187 : Arv Z h186 ca kc .long (6 : Int32) [(.long (pJ c0 (0 : Int32) (nc Kz0 Fz0 p2) k0)), (.long (pJ c0 (1 : Int32) (nc Kz0 Fz0 p2) k1)), (.long (pJ c0 (2 : Int32) (nc Kz0 Fz0 p2) k2)), (.long (pJ c1 (0 : Int32) (Kz1 + (1 : Int64)) k3)), (.long (pJ c1 (1 : Int32) (Kz1 + (1 : Int64)) k4)), (.long (pJ c1 (2 : Int32) (Kz1 + (1 : Int64)) k5))] (.long (0 : Int64)) := by have q := Arv.set Ar186 q186 S186 M186 H186 G186 rfl W186 (((3 : Int32) + c1)).toNatClampNeg rfl (own_k3_3 hc1); rw [own_sJ3_3 hc1] at q; exact q
   have E186_188 := E170_172.wr W186
   have F186_189 := F170_173.other W186 (Or.inl n_a0_ca)
   have E186_190 := E170_174.wr W186
   have F186_191 := F170_175.other W186 (Or.inl n_sh_ca)
   have F186_192 := F170_176.other W186 (Or.inl n_a0_ca)
   have F186_193 := F170_177.other W186 (Or.inl n_a0_ca)
   have F186_194 := F170_178.other W186 (Or.inl n_a0_ca)
   have E186_195 := E170_179.wr W186
   have V186_196 := V170_180.other W186 n_a1_ca
   have E186_197 := E170_181.wr W186
   have E186_198 := E170_182.wr W186
   have V186_199 := V170_171.other W186 n_fa_ca
   have K186 := K170.wr W186 (Or.inl (List.mem_of_getElem? (i := 1) rfl))
   have O186 := O170.wr W186 pf14
   have N186 := Fr.snoc X186 N170 pf14
   have pre200 : ∀ tg, AT p e below T186 m 126 #[rv a0, rv a1, iv p2, iv (1 : Int32), iv ((3 : Int32) + c1)] [] tg → Steps p.tables e below S0 tg := fun tg kg => pre167 tg (by
    refine XS.ifYes X165.here hx rfl (pc0 := 32) (pc' := 46) rfl (hb hby d8_32) rfl (XT.ll_eq_t hc168) (by decide) (by decide) ?_
    refine XS.aloadN X165.here hx rfl (hb hby d8_46) rfl rfl ?_
    refine st169 _ ?_
    refine XS.iload X169.here hx rfl (hb hby d8_50) rfl ?_
    refine XS.iloadN X169.here hx rfl (hb hby d8_52) rfl ?_
    refine st170 _ ?_
    refine XS.aloadN X170.here hx rfl (hb hby d8_54) rfl rfl ?_
    show AT p e below T170 m 55 #[rv a0, rv a1, iv p2, iv (1 : Int32), iv ((3 : Int32) + c1)] [(.ref a0)] _
    refine st184 _ ?_
    refine XS.iload X184.here hx rfl (hb hby d8_58) rfl ?_
    refine XT.dup2 X184.here hx rfl (hb hby d8_60) rfl rfl rfl ?_
    refine X184.laload hx (j := ((3 : Int32) + c1)) (v := (.long Kz1)) (by rw [e184]; exact Ar185.1) (State.isArrayOf_alike hZ.alike Ar185.2.1) Ar185.2.2 hin185 hat185 (g := (mkF m 61 #[rv a0, rv a1, iv p2, iv (1 : Int32), iv ((3 : Int32) + c1)] [(.int ((3 : Int32) + c1)), (.ref ca), (.int ((3 : Int32) + c1)), (.ref ca)])) rfl rfl (hb hby d8_61) _ ?_
    refine XS.lconst X184.here hx rfl (hb hby d8_62) ?_
    refine XS.ladd X184.here hx rfl (hb hby d8_63) rfl ?_
    refine st186 _ ?_
    refine XS.goto X186.here hx rfl (pc0 := 65) (pc' := 126) rfl (hb hby d8_65) (by decide) (by decide) ?_
    exact kg)
   have hj201 : (pI c1 (0 : Int32) (nf Kz1 Fz1 p2) f3) = (pI c1 (0 : Int32) p2 f3) := by simp only [nf, if_pos hc168]
   have hj202 : (pI c1 (1 : Int32) (nf Kz1 Fz1 p2) f4) = (pI c1 (1 : Int32) p2 f4) := by simp only [nf, if_pos hc168]
   have hj203 : (pI c1 (2 : Int32) (nf Kz1 Fz1 p2) f5) = (pI c1 (2 : Int32) p2 f5) := by simp only [nf, if_pos hc168]
   have hj204 : (pJ c1 (0 : Int32) (nc Kz1 Fz1 p2) k3) = (pJ c1 (0 : Int32) (Kz1 + (1 : Int64)) k3) := by simp only [nc, if_pos hc168]
   have hj205 : (pJ c1 (1 : Int32) (nc Kz1 Fz1 p2) k4) = (pJ c1 (1 : Int32) (Kz1 + (1 : Int64)) k4) := by simp only [nc, if_pos hc168]
   have hj206 : (pJ c1 (2 : Int32) (nc Kz1 Fz1 p2) k5) = (pJ c1 (2 : Int32) (Kz1 + (1 : Int64)) k5) := by simp only [nc, if_pos hc168]
   exact ⟨_, _, _, X186, e186, N186, K186, O186, E186_188, F186_189, E186_190, F186_191, F186_192, F186_193, F186_194, E186_195, V186_196, E186_197, E186_198, (by rw [hj201, hj202, hj203]; exact V186_199), (by rw [hj204, hj205, hj206]; exact V186_187), pre200⟩
  ·
   obtain ⟨T207, X207, e207, st207⟩ := getF X165 hx hZ hown (host := "") (Or.inl (ow hw 56 rfl)) Via.refl e165 J6_4 (g := (mkF m 36 #[rv a0, rv a1, iv p2, iv (1 : Int32), iv ((3 : Int32) + c1)] [(.ref a0)])) rfl rfl (hb hby d8_36)
   obtain ⟨cl208, Ar208, q208, S208, N208, H208, G208⟩ := id J6_11
   have hin208 := own_in ((3 : Int32) + c1) S208 (own_b3_3 hc1)
   have hat208 : cl208.slots[(((3 : Int32) + c1)).toNatClampNeg]? = some (.int Fz1) := Has.at H208 hin208 ((own_gI3_3 hc1).trans (congrArg Value.int hFz1.symm))
   have pre209 : ∀ tg, AT p e below T207 m 43 #[rv a0, rv a1, iv p2, iv (1 : Int32), iv ((3 : Int32) + c1)] [(.int p2), (.int Fz1)] tg → Steps p.tables e below S0 tg := fun tg kg => pre167 tg (by
    refine XS.ifNo X165.here hx rfl (hb hby d8_32) rfl (XT.ll_eq_f hc168) ?_
    refine XS.aloadN X165.here hx rfl (hb hby d8_35) rfl rfl ?_
    refine st207 _ ?_
    refine XS.iload X207.here hx rfl (hb hby d8_39) rfl ?_
    refine X207.iaload hx (j := ((3 : Int32) + c1)) (v := (.int Fz1)) (by rw [e207]; exact Ar208.1) (State.isArrayOf_alike hZ.alike Ar208.2.1) Ar208.2.2 hin208 hat208 (g := (mkF m 41 #[rv a0, rv a1, iv p2, iv (1 : Int32), iv ((3 : Int32) + c1)] [(.int ((3 : Int32) + c1)), (.ref fa)])) rfl rfl (hb hby d8_41) _ ?_
    refine XS.iloadN X207.here hx rfl (hb hby d8_42) rfl ?_
    exact kg)
   rcases Decidable.em (Fz1 = p2) with hc210 | hc210
   ·
    obtain ⟨T211, X211, e211, st211⟩ := getF X207 hx hZ hown (host := "") (Or.inl (ow hw 56 rfl)) Via.refl e207 J6_4 (g := (mkF m 47 #[rv a0, rv a1, iv p2, iv (1 : Int32), iv ((3 : Int32) + c1)] [(.ref a0)])) rfl rfl (hb hby d8_47)
    obtain ⟨cl212, Ar212, q212, S212, M212, H212, G212⟩ := id J6_11
    have hin212 := own_in ((3 : Int32) + c1) S212 (own_b3_3 hc1)
    obtain ⟨T212, h212, X212, e212, W212, st212⟩ := stI X211 hx hZ e211 Ar212 (j := ((3 : Int32) + c1)) hin212 (g := (mkF m 53 #[rv a0, rv a1, iv p2, iv (1 : Int32), iv ((3 : Int32) + c1)] [(.int p2), (.int ((3 : Int32) + c1)), (.ref fa)])) rfl rfl (hb hby d8_53)
    have V212_213 : Arv Z h212 fa kf .int (6 : Int32) [(.int (pI c0 (0 : Int32) (nf Kz0 Fz0 p2) f0)), (.int (pI c0 (1 : Int32) (nf Kz0 Fz0 p2) f1)), (.int (pI c0 (2 : Int32) (nf Kz0 Fz0 p2) f2)), (.int (pI c1 (0 : Int32) p2 f3)), (.int (pI c1 (1 : Int32) p2 f4)), (.int (pI c1 (2 : Int32) p2 f5))] (.int (0 : Int32)) := by have q := Arv.set Ar212 q212 S212 M212 H212 G212 rfl W212 (((3 : Int32) + c1)).toNatClampNeg rfl (own_k3_3 hc1); rw [own_sI3_3 hc1] at q; exact q
    have E212_214 := J6_0.wr W212
    have F212_215 := J6_1.other W212 (Or.inl n_a0_fa)
    have E212_216 := J6_2.wr W212
    have F212_217 := J6_3.other W212 (Or.inl n_sh_fa)
    have F212_218 := J6_4.other W212 (Or.inl n_a0_fa)
    have F212_219 := J6_5.other W212 (Or.inl n_a0_fa)
    have F212_220 := J6_6.other W212 (Or.inl n_a0_fa)
    have E212_221 := J6_7.wr W212
    have V212_222 := J6_8.other W212 pf15
    have E212_223 := J6_9.wr W212
    have E212_224 := J6_10.wr W212
    have V212_225 := J6_12.other W212 (Ne.symm n_fa_ca)
    have K212 := K6.wr W212 (Or.inl (List.mem_of_getElem? (i := 0) rfl))
    have O212 := O6.wr W212 pf13
    have N212 := Fr.snoc X212 N161 pf13
    obtain ⟨T226, X226, e226, st226⟩ := getF X212 hx hZ hown (host := "") (Or.inl (ow hw 59 rfl)) Via.refl e212 F212_219 (g := (mkF m 55 #[rv a0, rv a1, iv p2, iv (1 : Int32), iv ((3 : Int32) + c1)] [(.ref a0)])) rfl rfl (hb hby d8_55)
    obtain ⟨cl227, Ar227, q227, S227, N227, H227, G227⟩ := id V212_225
    have hin227 := own_in ((3 : Int32) + c1) S227 (own_b3_3 hc1)
    have hat227 : cl227.slots[(((3 : Int32) + c1)).toNatClampNeg]? = some (.long Kz1) := Has.at H227 hin227 ((own_gJ3_3 hc1).trans (congrArg Value.long hKz1.symm))
    obtain ⟨cl228, Ar228, q228, S228, M228, H228, G228⟩ := id V212_225
    have hin228 := own_in ((3 : Int32) + c1) S228 (own_b3_3 hc1)
    obtain ⟨T228, h228, X228, e228, W228, st228⟩ := stJ X226 hx hZ e226 Ar228 (j := ((3 : Int32) + c1)) hin228 (g := (mkF m 64 #[rv a0, rv a1, iv p2, iv (1 : Int32), iv ((3 : Int32) + c1)] [(.long (Kz1 + (1 : Int64))), (.int ((3 : Int32) + c1)), (.ref ca)])) rfl rfl (hb hby d8_64)
    have V228_229 : Arv Z h228 ca kc .long (6 : Int32) [(.long (pJ c0 (0 : Int32) (nc Kz0 Fz0 p2) k0)), (.long (pJ c0 (1 : Int32) (nc Kz0 Fz0 p2) k1)), (.long (pJ c0 (2 : Int32) (nc Kz0 Fz0 p2) k2)), (.long (pJ c1 (0 : Int32) (Kz1 + (1 : Int64)) k3)), (.long (pJ c1 (1 : Int32) (Kz1 + (1 : Int64)) k4)), (.long (pJ c1 (2 : Int32) (Kz1 + (1 : Int64)) k5))] (.long (0 : Int64)) := by have q := Arv.set Ar228 q228 S228 M228 H228 G228 rfl W228 (((3 : Int32) + c1)).toNatClampNeg rfl (own_k3_3 hc1); rw [own_sJ3_3 hc1] at q; exact q
    have E228_230 := E212_214.wr W228
    have F228_231 := F212_215.other W228 (Or.inl n_a0_ca)
    have E228_232 := E212_216.wr W228
    have F228_233 := F212_217.other W228 (Or.inl n_sh_ca)
    have F228_234 := F212_218.other W228 (Or.inl n_a0_ca)
    have F228_235 := F212_219.other W228 (Or.inl n_a0_ca)
    have F228_236 := F212_220.other W228 (Or.inl n_a0_ca)
    have E228_237 := E212_221.wr W228
    have V228_238 := V212_222.other W228 n_a1_ca
    have E228_239 := E212_223.wr W228
    have E228_240 := E212_224.wr W228
    have V228_241 := V212_213.other W228 n_fa_ca
    have K228 := K212.wr W228 (Or.inl (List.mem_of_getElem? (i := 1) rfl))
    have O228 := O212.wr W228 pf14
    have N228 := Fr.snoc X228 N212 pf14
    have pre242 : ∀ tg, AT p e below T228 m 126 #[rv a0, rv a1, iv p2, iv (1 : Int32), iv ((3 : Int32) + c1)] [] tg → Steps p.tables e below S0 tg := fun tg kg => pre209 tg (by
     refine XS.icmpNo X207.here hx rfl (hb hby d8_43) rfl (XT.ii_ne_f hc210) ?_
     refine XS.aloadN X207.here hx rfl (hb hby d8_46) rfl rfl ?_
     show AT p e below T207 m 47 #[rv a0, rv a1, iv p2, iv (1 : Int32), iv ((3 : Int32) + c1)] [(.ref a0)] _
     refine st211 _ ?_
     refine XS.iload X211.here hx rfl (hb hby d8_50) rfl ?_
     refine XS.iloadN X211.here hx rfl (hb hby d8_52) rfl ?_
     refine st212 _ ?_
     refine XS.aloadN X212.here hx rfl (hb hby d8_54) rfl rfl ?_
     refine st226 _ ?_
     refine XS.iload X226.here hx rfl (hb hby d8_58) rfl ?_
     refine XT.dup2 X226.here hx rfl (hb hby d8_60) rfl rfl rfl ?_
     refine X226.laload hx (j := ((3 : Int32) + c1)) (v := (.long Kz1)) (by rw [e226]; exact Ar227.1) (State.isArrayOf_alike hZ.alike Ar227.2.1) Ar227.2.2 hin227 hat227 (g := (mkF m 61 #[rv a0, rv a1, iv p2, iv (1 : Int32), iv ((3 : Int32) + c1)] [(.int ((3 : Int32) + c1)), (.ref ca), (.int ((3 : Int32) + c1)), (.ref ca)])) rfl rfl (hb hby d8_61) _ ?_
     refine XS.lconst X226.here hx rfl (hb hby d8_62) ?_
     refine XS.ladd X226.here hx rfl (hb hby d8_63) rfl ?_
     refine st228 _ ?_
     show AT p e below T228 m 65 #[rv a0, rv a1, iv p2, iv (1 : Int32), iv ((3 : Int32) + c1)] [] _
     refine XS.goto X228.here hx rfl (pc0 := 65) (pc' := 126) rfl (hb hby d8_65) (by decide) (by decide) ?_
     exact kg)
    have hj243 : (pI c1 (0 : Int32) (nf Kz1 Fz1 p2) f3) = (pI c1 (0 : Int32) p2 f3) := by simp only [nf, if_neg hc168, if_pos hc210]
    have hj244 : (pI c1 (1 : Int32) (nf Kz1 Fz1 p2) f4) = (pI c1 (1 : Int32) p2 f4) := by simp only [nf, if_neg hc168, if_pos hc210]
    have hj245 : (pI c1 (2 : Int32) (nf Kz1 Fz1 p2) f5) = (pI c1 (2 : Int32) p2 f5) := by simp only [nf, if_neg hc168, if_pos hc210]
    have hj246 : (pJ c1 (0 : Int32) (nc Kz1 Fz1 p2) k3) = (pJ c1 (0 : Int32) (Kz1 + (1 : Int64)) k3) := by simp only [nc, if_neg hc168, if_pos hc210]
    have hj247 : (pJ c1 (1 : Int32) (nc Kz1 Fz1 p2) k4) = (pJ c1 (1 : Int32) (Kz1 + (1 : Int64)) k4) := by simp only [nc, if_neg hc168, if_pos hc210]
    have hj248 : (pJ c1 (2 : Int32) (nc Kz1 Fz1 p2) k5) = (pJ c1 (2 : Int32) (Kz1 + (1 : Int64)) k5) := by simp only [nc, if_neg hc168, if_pos hc210]
    exact ⟨_, _, _, X228, e228, N228, K228, O228, E228_230, F228_231, E228_232, F228_233, F228_234, F228_235, F228_236, E228_237, V228_238, E228_239, E228_240, (by rw [hj243, hj244, hj245]; exact V228_241), (by rw [hj246, hj247, hj248]; exact V228_229), pre242⟩
   ·
    obtain ⟨T249, X249, e249, st249⟩ := getF X207 hx hZ hown (host := "") (Or.inl (ow hw 49 rfl)) Via.refl e207 J6_6 (g := (mkF m 69 #[rv a0, rv a1, iv p2, iv (1 : Int32), iv ((3 : Int32) + c1)] [(.ref a0)])) rfl rfl (hb hby d8_69)
    obtain ⟨T250, X250, e250, st250⟩ := getF X249 hx hZ hown (host := "") (Or.inl (ow hw 59 rfl)) Via.refl e249 J6_5 (g := (mkF m 73 #[rv a0, rv a1, iv p2, iv (1 : Int32), iv ((3 : Int32) + c1)] [(.ref a0), (.ref w_lam)])) rfl rfl (hb hby d8_73)
    obtain ⟨cl251, Ar251, q251, S251, N251, H251, G251⟩ := id J6_12
    have hin251 := own_in ((3 : Int32) + c1) S251 (own_b3_3 hc1)
    have hat251 : cl251.slots[(((3 : Int32) + c1)).toNatClampNeg]? = some (.long Kz1) := Has.at H251 hin251 ((own_gJ3_3 hc1).trans (congrArg Value.long hKz1.symm))
    obtain ⟨T252, X252, e252, st252⟩ := own_test X250 hx hw hZ hown HLm O6 e250 (g := (mkF m 79 #[rv a0, rv a1, iv p2, iv (1 : Int32), iv ((3 : Int32) + c1)] [(.long Kz1), (.ref w_lam)])) rfl (by rw [hml]; rfl) rfl (hb hby d8_79) (W := 0) (by show 2 * 0 + _ ≤ _; exact Nat.le_of_eq rfl) (by decide) (by decide) (by decide) (by decide)
    obtain ⟨T253, X253, e253, st253⟩ := getF X252 hx hZ hown (host := "") (Or.inl (ow hw 59 rfl)) Via.refl e252 J6_5 (g := (mkF m 88 #[rv a0, rv a1, iv p2, iv (1 : Int32), iv ((3 : Int32) + c1)] [(.ref a0)])) rfl rfl (hb hby d8_88)
    obtain ⟨cl254, Ar254, q254, S254, N254, H254, G254⟩ := id J6_12
    have hin254 := own_in ((3 : Int32) + c1) S254 (own_b3_3 hc1)
    have hat254 : cl254.slots[(((3 : Int32) + c1)).toNatClampNeg]? = some (.long Kz1) := Has.at H254 hin254 ((own_gJ3_3 hc1).trans (congrArg Value.long hKz1.symm))
    obtain ⟨cl255, Ar255, q255, S255, M255, H255, G255⟩ := id J6_12
    have hin255 := own_in ((3 : Int32) + c1) S255 (own_b3_3 hc1)
    obtain ⟨T255, h255, X255, e255, W255, st255⟩ := stJ X253 hx hZ e253 Ar255 (j := ((3 : Int32) + c1)) hin255 (g := (mkF m 97 #[rv a0, rv a1, iv p2, iv (1 : Int32), iv ((3 : Int32) + c1)] [(.long (Kz1 - (1 : Int64))), (.int ((3 : Int32) + c1)), (.ref ca)])) rfl rfl (hb hby d8_97)
    have V255_256 : Arv Z h255 ca kc .long (6 : Int32) [(.long (pJ c0 (0 : Int32) (nc Kz0 Fz0 p2) k0)), (.long (pJ c0 (1 : Int32) (nc Kz0 Fz0 p2) k1)), (.long (pJ c0 (2 : Int32) (nc Kz0 Fz0 p2) k2)), (.long (pJ c1 (0 : Int32) (Kz1 - (1 : Int64)) k3)), (.long (pJ c1 (1 : Int32) (Kz1 - (1 : Int64)) k4)), (.long (pJ c1 (2 : Int32) (Kz1 - (1 : Int64)) k5))] (.long (0 : Int64)) := by have q := Arv.set Ar255 q255 S255 M255 H255 G255 rfl W255 (((3 : Int32) + c1)).toNatClampNeg rfl (own_k3_3 hc1); rw [own_sJ3_3 hc1] at q; exact q
    have E255_257 := J6_0.wr W255
    have F255_258 := J6_1.other W255 (Or.inl n_a0_ca)
    have E255_259 := J6_2.wr W255
    have F255_260 := J6_3.other W255 (Or.inl n_sh_ca)
    have F255_261 := J6_4.other W255 (Or.inl n_a0_ca)
    have F255_262 := J6_5.other W255 (Or.inl n_a0_ca)
    have F255_263 := J6_6.other W255 (Or.inl n_a0_ca)
    have E255_264 := J6_7.wr W255
    have V255_265 := J6_8.other W255 n_a1_ca
    have E255_266 := J6_9.wr W255
    have E255_267 := J6_10.wr W255
    have V255_268 := J6_11.other W255 n_fa_ca
    have K255 := K6.wr W255 (Or.inl (List.mem_of_getElem? (i := 1) rfl))
    have O255 := O6.wr W255 pf14
    have N255 := Fr.snoc X255 N161 pf14
    obtain ⟨T269, X269, e269, st269⟩ := getF X255 hx hZ hown (host := "") (Or.inl (ow hw 59 rfl)) Via.refl e255 F255_262 (g := (mkF m 99 #[rv a0, rv a1, iv p2, iv (1 : Int32), iv ((3 : Int32) + c1)] [(.ref a0)])) rfl rfl (hb hby d8_99)
    obtain ⟨cl270, Ar270, q270, S270, N270, H270, G270⟩ := id V255_256
    have hin270 := own_in ((3 : Int32) + c1) S270 (own_b3_3 hc1)
    have hat270 : cl270.slots[(((3 : Int32) + c1)).toNatClampNeg]? = some (.long (Kz1 - (1 : Int64))) := Has.at H270 hin270 ((own_gJ3_3 hc1).trans (congrArg Value.long (own_spJ3 hc1)))
    have pre271 : ∀ tg, AT p e below T269 m 107 #[rv a0, rv a1, iv p2, iv (1 : Int32), iv ((3 : Int32) + c1)] [(.int (XT.cmpL (Kz1 - (1 : Int64)) (0 : Int64)))] tg → Steps p.tables e below S0 tg := fun tg kg => pre209 tg (by
     refine XS.icmpYes X207.here hx rfl (pc0 := 43) (pc' := 68) rfl (hb hby d8_43) rfl (XT.ii_ne_t hc210) (by decide) (by decide) ?_
     refine XS.aloadN X207.here hx rfl (hb hby d8_68) rfl rfl ?_
     show AT p e below T207 m 69 #[rv a0, rv a1, iv p2, iv (1 : Int32), iv ((3 : Int32) + c1)] [(.ref a0)] _
     refine st249 _ ?_
     refine XS.aloadN X249.here hx rfl (hb hby d8_72) rfl rfl ?_
     refine st250 _ ?_
     refine XS.iload X250.here hx rfl (hb hby d8_76) rfl ?_
     refine X250.laload hx (j := ((3 : Int32) + c1)) (v := (.long Kz1)) (by rw [e250]; exact Ar251.1) (State.isArrayOf_alike hZ.alike Ar251.2.1) Ar251.2.2 hin251 hat251 (g := (mkF m 78 #[rv a0, rv a1, iv p2, iv (1 : Int32), iv ((3 : Int32) + c1)] [(.int ((3 : Int32) + c1)), (.ref ca), (.ref w_lam)])) rfl rfl (hb hby d8_78) _ ?_
     refine st252 _ ?_
     show AT p e below T252 m 84 #[rv a0, rv a1, iv p2, iv (1 : Int32), iv ((3 : Int32) + c1)] [(.int (1 : Int32))] _
     refine XS.ifNo X252.here hx rfl (hb hby d8_84) rfl (XT.i0_eq_f ((by decide) : ¬ ((1 : Int32) = (0 : Int32)))) ?_
     refine XS.aloadN X252.here hx rfl (hb hby d8_87) rfl rfl ?_
     refine st253 _ ?_
     refine XS.iload X253.here hx rfl (hb hby d8_91) rfl ?_
     refine XT.dup2 X253.here hx rfl (hb hby d8_93) rfl rfl rfl ?_
     refine X253.laload hx (j := ((3 : Int32) + c1)) (v := (.long Kz1)) (by rw [e253]; exact Ar254.1) (State.isArrayOf_alike hZ.alike Ar254.2.1) Ar254.2.2 hin254 hat254 (g := (mkF m 94 #[rv a0, rv a1, iv p2, iv (1 : Int32), iv ((3 : Int32) + c1)] [(.int ((3 : Int32) + c1)), (.ref ca), (.int ((3 : Int32) + c1)), (.ref ca)])) rfl rfl (hb hby d8_94) _ ?_
     refine XS.lconst X253.here hx rfl (hb hby d8_95) ?_
     show AT p e below T253 m 96 #[rv a0, rv a1, iv p2, iv (1 : Int32), iv ((3 : Int32) + c1)] [(.long (1 : Int64)), (.long Kz1), (.int ((3 : Int32) + c1)), (.ref ca)] _
     refine XS.lsub X253.here hx rfl (hb hby d8_96) rfl ?_
     refine st255 _ ?_
     refine XS.aloadN X255.here hx rfl (hb hby d8_98) rfl rfl ?_
     refine st269 _ ?_
     refine XS.iload X269.here hx rfl (hb hby d8_102) rfl ?_
     refine X269.laload hx (j := ((3 : Int32) + c1)) (v := (.long (Kz1 - (1 : Int64)))) (by rw [e269]; exact Ar270.1) (State.isArrayOf_alike hZ.alike Ar270.2.1) Ar270.2.2 hin270 hat270 (g := (mkF m 104 #[rv a0, rv a1, iv p2, iv (1 : Int32), iv ((3 : Int32) + c1)] [(.int ((3 : Int32) + c1)), (.ref ca)])) rfl rfl (hb hby d8_104) _ ?_
     refine XS.lconst X269.here hx rfl (hb hby d8_105) ?_
     refine XS.lcmp X269.here hx rfl (hb hby d8_106) rfl ?_
     exact kg)
    rcases Decidable.em ((Kz1 - (1 : Int64)) = (0 : Int64)) with hc272 | hc272
    ·
     obtain ⟨T273, X273, e273, st273⟩ := getF X269 hx hZ hown (host := "") (Or.inl (ow hw 56 rfl)) Via.refl e269 F255_261 (g := (mkF m 111 #[rv a0, rv a1, iv p2, iv (1 : Int32), iv ((3 : Int32) + c1)] [(.ref a0)])) rfl rfl (hb hby d8_111)
     obtain ⟨cl274, Ar274, q274, S274, M274, H274, G274⟩ := id V255_268
     have hin274 := own_in ((3 : Int32) + c1) S274 (own_b3_3 hc1)
     obtain ⟨T274, h274, X274, e274, W274, st274⟩ := stI X273 hx hZ e273 Ar274 (j := ((3 : Int32) + c1)) hin274 (g := (mkF m 117 #[rv a0, rv a1, iv p2, iv (1 : Int32), iv ((3 : Int32) + c1)] [(.int p2), (.int ((3 : Int32) + c1)), (.ref fa)])) rfl rfl (hb hby d8_117)
     have V274_275 : Arv Z h274 fa kf .int (6 : Int32) [(.int (pI c0 (0 : Int32) (nf Kz0 Fz0 p2) f0)), (.int (pI c0 (1 : Int32) (nf Kz0 Fz0 p2) f1)), (.int (pI c0 (2 : Int32) (nf Kz0 Fz0 p2) f2)), (.int (pI c1 (0 : Int32) p2 f3)), (.int (pI c1 (1 : Int32) p2 f4)), (.int (pI c1 (2 : Int32) p2 f5))] (.int (0 : Int32)) := by have q := Arv.set Ar274 q274 S274 M274 H274 G274 rfl W274 (((3 : Int32) + c1)).toNatClampNeg rfl (own_k3_3 hc1); rw [own_sI3_3 hc1] at q; exact q
     have E274_276 := E255_257.wr W274
     have F274_277 := F255_258.other W274 (Or.inl n_a0_fa)
     have E274_278 := E255_259.wr W274
     have F274_279 := F255_260.other W274 (Or.inl n_sh_fa)
     have F274_280 := F255_261.other W274 (Or.inl n_a0_fa)
     have F274_281 := F255_262.other W274 (Or.inl n_a0_fa)
     have F274_282 := F255_263.other W274 (Or.inl n_a0_fa)
     have E274_283 := E255_264.wr W274
     have V274_284 := V255_265.other W274 pf15
     have E274_285 := E255_266.wr W274
     have E274_286 := E255_267.wr W274
     have V274_287 := V255_256.other W274 (Ne.symm n_fa_ca)
     have K274 := K255.wr W274 (Or.inl (List.mem_of_getElem? (i := 0) rfl))
     have O274 := O255.wr W274 pf13
     have N274 := Fr.snoc X274 N255 pf13
     obtain ⟨T288, X288, e288, st288⟩ := getF X274 hx hZ hown (host := "") (Or.inl (ow hw 59 rfl)) Via.refl e274 F274_281 (g := (mkF m 119 #[rv a0, rv a1, iv p2, iv (1 : Int32), iv ((3 : Int32) + c1)] [(.ref a0)])) rfl rfl (hb hby d8_119)
     obtain ⟨cl289, Ar289, q289, S289, M289, H289, G289⟩ := id V274_287
     have hin289 := own_in ((3 : Int32) + c1) S289 (own_b3_3 hc1)
     obtain ⟨T289, h289, X289, e289, W289, st289⟩ := stJ X288 hx hZ e288 Ar289 (j := ((3 : Int32) + c1)) hin289 (g := (mkF m 125 #[rv a0, rv a1, iv p2, iv (1 : Int32), iv ((3 : Int32) + c1)] [(.long (1 : Int64)), (.int ((3 : Int32) + c1)), (.ref ca)])) rfl rfl (hb hby d8_125)
     have V289_290 : Arv Z h289 ca kc .long (6 : Int32) [(.long (pJ c0 (0 : Int32) (nc Kz0 Fz0 p2) k0)), (.long (pJ c0 (1 : Int32) (nc Kz0 Fz0 p2) k1)), (.long (pJ c0 (2 : Int32) (nc Kz0 Fz0 p2) k2)), (.long (pJ c1 (0 : Int32) (1 : Int64) k3)), (.long (pJ c1 (1 : Int32) (1 : Int64) k4)), (.long (pJ c1 (2 : Int32) (1 : Int64) k5))] (.long (0 : Int64)) := by have q := Arv.set Ar289 q289 S289 M289 H289 G289 rfl W289 (((3 : Int32) + c1)).toNatClampNeg rfl (own_k3_3 hc1); rw [own_sJ3_3 hc1] at q; simp only [own_ppJ] at q; exact q
     have E289_291 := E274_276.wr W289
     have F289_292 := F274_277.other W289 (Or.inl n_a0_ca)
     have E289_293 := E274_278.wr W289
     have F289_294 := F274_279.other W289 (Or.inl n_sh_ca)
     have F289_295 := F274_280.other W289 (Or.inl n_a0_ca)
     have F289_296 := F274_281.other W289 (Or.inl n_a0_ca)
     have F289_297 := F274_282.other W289 (Or.inl n_a0_ca)
     have E289_298 := E274_283.wr W289
     have V289_299 := V274_284.other W289 n_a1_ca
     have E289_300 := E274_285.wr W289
     have E289_301 := E274_286.wr W289
     have V289_302 := V274_275.other W289 n_fa_ca
     have K289 := K274.wr W289 (Or.inl (List.mem_of_getElem? (i := 1) rfl))
     have O289 := O274.wr W289 pf14
     have N289 := Fr.snoc X289 N274 pf14
     have pre303 : ∀ tg, AT p e below T289 m 126 #[rv a0, rv a1, iv p2, iv (1 : Int32), iv ((3 : Int32) + c1)] [] tg → Steps p.tables e below S0 tg := fun tg kg => pre271 tg (by
      refine XS.ifNo X269.here hx rfl (hb hby d8_107) rfl (XT.ll_ne_f hc272) ?_
      refine XS.aloadN X269.here hx rfl (hb hby d8_110) rfl rfl ?_
      refine st273 _ ?_
      refine XS.iload X273.here hx rfl (hb hby d8_114) rfl ?_
      refine XS.iloadN X273.here hx rfl (hb hby d8_116) rfl ?_
      show AT p e below T273 m 117 #[rv a0, rv a1, iv p2, iv (1 : Int32), iv ((3 : Int32) + c1)] [(.int p2), (.int ((3 : Int32) + c1)), (.ref fa)] _
      refine st274 _ ?_
      refine XS.aloadN X274.here hx rfl (hb hby d8_118) rfl rfl ?_
      refine st288 _ ?_
      refine XS.iload X288.here hx rfl (hb hby d8_122) rfl ?_
      refine XS.lconst X288.here hx rfl (hb hby d8_124) ?_
      refine st289 _ ?_
      exact kg)
     have hj304 : (pI c1 (0 : Int32) (nf Kz1 Fz1 p2) f3) = (pI c1 (0 : Int32) p2 f3) := by simp only [nf, if_neg hc168, if_neg hc210, if_pos hc272]
     have hj305 : (pI c1 (1 : Int32) (nf Kz1 Fz1 p2) f4) = (pI c1 (1 : Int32) p2 f4) := by simp only [nf, if_neg hc168, if_neg hc210, if_pos hc272]
     have hj306 : (pI c1 (2 : Int32) (nf Kz1 Fz1 p2) f5) = (pI c1 (2 : Int32) p2 f5) := by simp only [nf, if_neg hc168, if_neg hc210, if_pos hc272]
     have hj307 : (pJ c1 (0 : Int32) (nc Kz1 Fz1 p2) k3) = (pJ c1 (0 : Int32) (1 : Int64) k3) := by simp only [nc, if_neg hc168, if_neg hc210, if_pos hc272]
     have hj308 : (pJ c1 (1 : Int32) (nc Kz1 Fz1 p2) k4) = (pJ c1 (1 : Int32) (1 : Int64) k4) := by simp only [nc, if_neg hc168, if_neg hc210, if_pos hc272]
     have hj309 : (pJ c1 (2 : Int32) (nc Kz1 Fz1 p2) k5) = (pJ c1 (2 : Int32) (1 : Int64) k5) := by simp only [nc, if_neg hc168, if_neg hc210, if_pos hc272]
     exact ⟨_, _, _, X289, e289, N289, K289, O289, E289_291, F289_292, E289_293, F289_294, F289_295, F289_296, F289_297, E289_298, V289_299, E289_300, E289_301, (by rw [hj304, hj305, hj306]; exact V289_302), (by rw [hj307, hj308, hj309]; exact V289_290), pre303⟩
    ·
     have pre310 : ∀ tg, AT p e below T269 m 126 #[rv a0, rv a1, iv p2, iv (1 : Int32), iv ((3 : Int32) + c1)] [] tg → Steps p.tables e below S0 tg := fun tg kg => pre271 tg (by
      refine XS.ifYes X269.here hx rfl (pc0 := 107) (pc' := 126) rfl (hb hby d8_107) rfl (XT.ll_ne_t hc272) (by decide) (by decide) ?_
      exact kg)
     have hj311 : (pI c1 (0 : Int32) (nf Kz1 Fz1 p2) f3) = f3 := by rw [nf, if_neg hc168, if_neg hc210, if_neg hc272, hFz1]; exact own_psI3_0 hc1
     have hj312 : (pI c1 (1 : Int32) (nf Kz1 Fz1 p2) f4) = f4 := by rw [nf, if_neg hc168, if_neg hc210, if_neg hc272, hFz1]; exact own_psI3_1 hc1
     have hj313 : (pI c1 (2 : Int32) (nf Kz1 Fz1 p2) f5) = f5 := by rw [nf, if_neg hc168, if_neg hc210, if_neg hc272, hFz1]; exact own_psI3_2 hc1
     have hj314 : (pJ c1 (0 : Int32) (nc Kz1 Fz1 p2) k3) = (pJ c1 (0 : Int32) (Kz1 - (1 : Int64)) k3) := by simp only [nc, if_neg hc168, if_neg hc210, if_neg hc272]
     have hj315 : (pJ c1 (1 : Int32) (nc Kz1 Fz1 p2) k4) = (pJ c1 (1 : Int32) (Kz1 - (1 : Int64)) k4) := by simp only [nc, if_neg hc168, if_neg hc210, if_neg hc272]
     have hj316 : (pJ c1 (2 : Int32) (nc Kz1 Fz1 p2) k5) = (pJ c1 (2 : Int32) (Kz1 - (1 : Int64)) k5) := by simp only [nc, if_neg hc168, if_neg hc210, if_neg hc272]
     exact ⟨_, _, _, X269, e269, N255, K255, O255, E255_257, F255_258, E255_259, F255_260, F255_261, F255_262, F255_263, E255_264, V255_265, E255_266, E255_267, (by rw [hj311, hj312, hj313]; exact V255_268), (by rw [hj314, hj315, hj316]; exact V255_256), pre310⟩
 obtain ⟨cl317, Ar317, q317, S317, N317, H317, G317⟩ := id J164_8
 obtain ⟨fs, hr, hrun, hended, hW, hsame⟩ := X164.leave (v := none) (fun _ => rfl) hlk
 subst hS0
 refine ⟨_, _, pre164 _ ?_, hrun, hended, _, _, rfl, ?_, ⟨_, rfl⟩, hW, hsame.mono (by decide) (by decide)⟩
 ·
  refine XS.iinc X164.here hx rfl (hb hby d8_126) rfl (l' := #[rv a0, rv a1, iv p2, iv (2 : Int32), iv ((3 : Int32) + c1)]) rfl ?_
  refine XS.goto X164.here hx rfl (pc0 := 129) (pc' := 2) rfl (hb hby d8_129) (by decide) (by decide) ?_
  refine XS.iloadN X164.here hx rfl (hb hby d8_2) rfl ?_
  refine XS.aloadN X164.here hx rfl (hb hby d8_3) rfl rfl ?_
  refine X164.arraylength hx (by rw [e164]; exact Ar317.1) (State.isArrayOf_alike hZ.alike Ar317.2.1) (g := (mkF m 4 #[rv a0, rv a1, iv p2, iv (2 : Int32), iv ((3 : Int32) + c1)] [(.ref a1), (.int (2 : Int32))])) rfl rfl (hb hby d8_4) _ ?_
  rw [len_of S317 N317]
  show AT p e below T164 m 5 #[rv a0, rv a1, iv p2, iv (2 : Int32), iv ((3 : Int32) + c1)] [(.int (2 : Int32)), (.int (2 : Int32))] _
  refine XS.icmpYes X164.here hx rfl (pc0 := 5) (pc' := 132) rfl (hb hby d8_5) rfl (XT.ii_ge_t ((by decide) : ¬ ((2 : Int32) < (2 : Int32)))) (by decide) (by decide) ?_
  exact X164.returnOut hx Bd.returns (hb hby d8_132) hr
 ·
  show Q8_3 Z a0 a1 p2 w_lam k_lam sh kk c0 c1 fa ca kf kc f0 f1 f2 f3 f4 f5 k0 k1 k2 k3 k4 k5 h0 n0 _ T164.heap _
  rw [e164]
  exact ⟨rfl, N164, K164, (by have q := J164_11; rw [hKz0, hFz0, hKz1, hFz1] at q; exact q), (by have q := J164_12; rw [hKz0, hFz0, hKz1, hFz1] at q; exact q)⟩

theorem d11_0 : decode prog_26_method_7_code 0 = .ok (.aload_n 0, 1) := by decide +kernel
theorem d11_1 : decode prog_26_method_7_code 1 = .ok (.getfield 42, 3) := by decide +kernel
theorem d11_4 : decode prog_26_method_7_code 4 = .ok (.iload_n 1, 1) := by decide +kernel
theorem d11_5 : decode prog_26_method_7_code 5 = .ok (.aload_n 0, 1) := by decide +kernel
theorem d11_6 : decode prog_26_method_7_code 6 = .ok (.getfield 31, 3) := by decide +kernel
theorem d11_9 : decode prog_26_method_7_code 9 = .ok (.invokevirtual 50, 3) := by decide +kernel
theorem d11_12 : decode prog_26_method_7_code 12 = .ok (.imul, 1) := by decide +kernel
theorem d11_13 : decode prog_26_method_7_code 13 = .ok (.iload_n 2, 1) := by decide +kernel
theorem d11_14 : decode prog_26_method_7_code 14 = .ok (.iadd, 1) := by decide +kernel
theorem d11_15 : decode prog_26_method_7_code 15 = .ok (.iaload, 1) := by decide +kernel
theorem d11_16 : decode prog_26_method_7_code 16 = .ok (.ireturn, 1) := by decide +kernel
theorem ef_11_3_0 (m : MethodId) (a0 : Addr) (p2 : Int32) : entryFrame m #[(.ref a0), (.int (0 : Int32)), (.int p2)] 3 = mkF m 0 #[rv a0, iv (0 : Int32), iv p2] [] := by first | (simp [entryFrame, mkF, argsToLocals, Value.category]; done) | rfl
def Q11_3_0 (Z : State) (a0 : Addr) (p2 : Int32) (sh : Addr) (fa : Addr) (kf : ClassId) (f0 : Int32) (f1 : Int32) (f2 : Int32) (f3 : Int32) (f4 : Int32) (f5 : Int32) (h0 : Heap) (n0 : Nat) (v : Option Value) (h : Heap) (L : List Loc) : Prop := v = some (.int (sI3 p2 f0 f1 f2)) ∧ Fr n0 L ∧ h = h0
set_option maxRecDepth 65536 in
set_option maxHeartbeats 40000000 in
theorem rm11_3_0 (l : Launch) (Z : State) (ar : Array Value) (hw : ∀ d ∈ tables_1, d.before ar Z = true) (ws : List Jvm.Cond) (a0 : Addr) (p2 : Int32) (sh : Addr) (fa : Addr) (kf : ClassId) (f0 : Int32) (f1 : Int32) (f2 : Int32) (f3 : Int32) (f4 : Int32) (f5 : Int32) (h0 : Heap) (n0 : Nat) (O0 : Old Z n0 h0) (pf0 : Exa Z h0 a0 "com/example/filters_under_siege/filtersundersiege/KeeperPairs") (pf1 : Fld Z h0 a0 "com/example/filters_under_siege/filtersundersiege/KeeperPairs" "shape" "Lcom/example/filters_under_siege/filtersundersiege/SketchShape;" (.ref sh)) (pf2 : Exa Z h0 sh "com/example/filters_under_siege/filtersundersiege/SketchShape") (pf3 : Fld Z h0 sh "com/example/filters_under_siege/filtersundersiege/SketchShape" "width" "I" (.int (3 : Int32))) (pf4 : Fld Z h0 a0 "com/example/filters_under_siege/filtersundersiege/KeeperPairs" "fingerprints" "[I" (.ref fa)) (pf5 : Arv Z h0 fa kf .int (6 : Int32) [(.int f0), (.int f1), (.int f2), (.int f3), (.int f4), (.int f5)] (.int (0 : Int32))) (hp2 : p2 = (0 : Int32) ∨ p2 = (1 : Int32) ∨ p2 = (2 : Int32)) :
    MetFree l y11 (head1 (Jvm.Cond.code y11 prog_26_method_7_code 3 (some .int) :: ws) ({ frames := 1, cells := 0, slots := 0, locals := 14 } : Room)) (fun a U => a = #[(.ref a0), (.int (0 : Int32)), (.int p2)] ∧ Z.Warmed39 U.vm ∧ U.heap = h0) (fun _ _ _ _ _ => True) (fun _ U o U' => ∃ v L, o = .returned v ∧ Q11_3_0 Z a0 p2 sh fa kf f0 f1 f2 f3 f4 f5 h0 n0 v U'.heap L ∧ FrameEnd U o U' L ({ frames := 1, cells := 0, slots := 0, locals := 14 } : Room).cells ({ frames := 1, cells := 0, slots := 0, locals := 14 } : Room).slots) := by
 refine MetFree.of_bodySF (plainFor_of_name pn_3) hisR ?_
 intro p e s m args below meth c s₁ Bd hml0 hP hK
 obtain ⟨rfl, hZ, hh⟩ := hP
 have hx := Bd.exec
 have hby := Bd.bytes
 have hml : c.maxLocals = 3 := hml0
 have hown : s.vm.findClass "com/example/filters_under_siege/filtersundersiege/KeeperPairs" = some m.cls := findClass_of_methodNamed Bd.named
 have hnm := (name_of_methodNamed Bd.named Bd.method).1
 have hlk : meth.locks = false := by first | assumption | exact BodyLoose.notSynchronized (by assumption) | exact Body.notSynchronized (by assumption)
 have X0 : Stand p l e ({ frames := 1, cells := 0, slots := 0, locals := 14 } : Room) s m #[(.ref a0), (.int (0 : Int32)), (.int p2)] below meth c s₁ [] 0 0 := Stand.of_body Bd
 have e0 : s₁.heap = h0 := by rw [← hh, Bd.state]; rfl
 have N0 := Fr.nil n0
 have Z0 : n0 ≤ h0.size := Nat.le_trans (Nat.le_of_eq O0.1.symm) O0.2.1
 obtain ⟨S0, hS0⟩ : ∃ z, z = s₁.setTop (entryFrame m #[(.ref a0), (.int (0 : Int32)), (.int p2)] 3) := ⟨_, rfl⟩
 have pre0 : ∀ tg, AT p e below s₁ m 0 #[rv a0, iv (0 : Int32), iv p2] [] tg → Steps p.tables e below S0 tg := fun tg kg => by rw [hS0]; exact castTop (ef_11_3_0 m a0 p2) kg
 obtain ⟨T1, X1, e1, st1⟩ := getF X0 hx hZ hown (host := "") (Or.inl (ow hw 56 rfl)) Via.refl e0 pf4 (g := (mkF m 1 #[rv a0, iv (0 : Int32), iv p2] [(.ref a0)])) rfl rfl (hb hby d11_1)
 obtain ⟨T2, X2, e2, st2⟩ := getF X1 hx hZ hown (host := "") (Or.inl (ow hw 47 rfl)) Via.refl e1 pf1 (g := (mkF m 6 #[rv a0, iv (0 : Int32), iv p2] [(.ref a0), (.int (0 : Int32)), (.ref fa)])) rfl rfl (hb hby d11_6)
 obtain ⟨cq3, kq3, q3a, q3b, q3c⟩ := isOf hZ e2 pf2
 obtain ⟨_, _, ⟨T3, L3, k3, n3⟩, -, X3, ⟨Lc3, hQ3, l3, y3, z3⟩, st3⟩ := X2.virtualBack hx (y := y9) (z := y9) hown (mvT hZ (ow hw 66 rfl)) (mvT hZ (ow hw 67 rfl)) (notFace_of_selects (args := #[]) (mvT hZ (ow hw 69 rfl))) (mvT hZ (ow hw 69 rfl)) (mvT hZ (ow hw 68 rfl)) (by decide) (backOf (W := 2) (rm9 l Z ar hw [] sh (3 : Int32) h0 n0 O0 pf3) hZ (ow hw 70 rfl) (ow hw 3 rfl) (by decide) (by decide)) q3a q3c (g := (mkF m 9 #[rv a0, iv (0 : Int32), iv p2] [(.ref sh), (.int (0 : Int32)), (.ref fa)])) rfl (by rw [hml]; rfl) (Steps.refl _) (argsL := []) (rest := [(.int (0 : Int32)), (.ref fa)]) (lenOf pd_2 rfl) rfl (by show 2 * 0 + _ ≤ _; exact Nat.le_of_eq rfl) (hb hby d11_9) (fun _ _ => ⟨rfl, e2, (by decide : 0 + 0 ≤ _), (by decide : 0 + 0 ≤ _)⟩)
 dsimp only [Pt.U, Pt.locs, Pt.cells, Pt.slots] at X3 l3 y3 z3 st3 hQ3
 subst l3 y3 z3
 obtain ⟨rfl, N3q, e3⟩ := hQ3
 have N3 := Fr.app N0 N3q
 obtain ⟨cl4, Ar4, q4, S4, N4, H4, G4⟩ := id pf5
 have hin4 := own_in ((0 : Int32) + p2) S4 (own_b3_0 hp2)
 have hat4 : cl4.slots[(((0 : Int32) + p2)).toNatClampNeg]? = some (.int (sI3 p2 f0 f1 f2)) := Has.at H4 hin4 (own_gI3_0 hp2)
 obtain ⟨fs, hr, hrun, hended, hW, hsame⟩ := X3.leave (v := some (.int (sI3 p2 f0 f1 f2))) (fun h => by rw [Bd.returns] at h; cases h) hlk
 subst hS0
 refine ⟨_, _, pre0 _ ?_, hrun, hended, _, _, rfl, ?_, ⟨_, rfl⟩, hW, hsame.mono (by decide) (by decide)⟩
 ·
  refine XS.aloadN X0.here hx rfl (hb hby d11_0) rfl rfl ?_
  refine st1 _ ?_
  refine XS.iloadN X1.here hx rfl (hb hby d11_4) rfl ?_
  refine XS.aloadN X1.here hx rfl (hb hby d11_5) rfl rfl ?_
  refine st2 _ ?_
  refine st3.trans ?_
  refine XS.imul X3.here hx rfl (hb hby d11_12) rfl ?_
  refine XS.iloadN X3.here hx rfl (hb hby d11_13) rfl ?_
  refine XS.iadd X3.here hx rfl (hb hby d11_14) rfl ?_
  refine X3.iaload hx (j := ((0 : Int32) + p2)) (v := (.int (sI3 p2 f0 f1 f2))) (by rw [e3]; exact Ar4.1) (State.isArrayOf_alike hZ.alike Ar4.2.1) Ar4.2.2 hin4 hat4 (g := (mkF m 15 #[rv a0, iv (0 : Int32), iv p2] [(.int ((0 : Int32) + p2)), (.ref fa)])) rfl rfl (hb hby d11_15) _ ?_
  exact retOut X3 hx (t := .int) (i := .ireturn) Bd.returns rfl (Or.inl ⟨rfl, Or.inl rfl, _, rfl⟩) (hb hby d11_16) hr
 ·
  show Q11_3_0 Z a0 p2 sh fa kf f0 f1 f2 f3 f4 f5 h0 n0 _ T3.heap _
  rw [e3]
  exact ⟨rfl, N3, rfl⟩

theorem d12_0 : decode prog_26_method_6_code 0 = .ok (.aload_n 0, 1) := by decide +kernel
theorem d12_1 : decode prog_26_method_6_code 1 = .ok (.getfield 46, 3) := by decide +kernel
theorem d12_4 : decode prog_26_method_6_code 4 = .ok (.iload_n 1, 1) := by decide +kernel
theorem d12_5 : decode prog_26_method_6_code 5 = .ok (.aload_n 0, 1) := by decide +kernel
theorem d12_6 : decode prog_26_method_6_code 6 = .ok (.getfield 31, 3) := by decide +kernel
theorem d12_9 : decode prog_26_method_6_code 9 = .ok (.invokevirtual 50, 3) := by decide +kernel
theorem d12_12 : decode prog_26_method_6_code 12 = .ok (.imul, 1) := by decide +kernel
theorem d12_13 : decode prog_26_method_6_code 13 = .ok (.iload_n 2, 1) := by decide +kernel
theorem d12_14 : decode prog_26_method_6_code 14 = .ok (.iadd, 1) := by decide +kernel
theorem d12_15 : decode prog_26_method_6_code 15 = .ok (.laload, 1) := by decide +kernel
theorem d12_16 : decode prog_26_method_6_code 16 = .ok (.lreturn, 1) := by decide +kernel
theorem ef_12_3_0 (m : MethodId) (a0 : Addr) (p2 : Int32) : entryFrame m #[(.ref a0), (.int (0 : Int32)), (.int p2)] 3 = mkF m 0 #[rv a0, iv (0 : Int32), iv p2] [] := by first | (simp [entryFrame, mkF, argsToLocals, Value.category]; done) | rfl
def Q12_3_0 (Z : State) (a0 : Addr) (p2 : Int32) (sh : Addr) (ca : Addr) (kc : ClassId) (k0 : Int64) (k1 : Int64) (k2 : Int64) (k3 : Int64) (k4 : Int64) (k5 : Int64) (h0 : Heap) (n0 : Nat) (v : Option Value) (h : Heap) (L : List Loc) : Prop := v = some (.long (sJ3 p2 k0 k1 k2)) ∧ Fr n0 L ∧ h = h0
set_option maxRecDepth 65536 in
set_option maxHeartbeats 40000000 in
theorem rm12_3_0 (l : Launch) (Z : State) (ar : Array Value) (hw : ∀ d ∈ tables_1, d.before ar Z = true) (ws : List Jvm.Cond) (a0 : Addr) (p2 : Int32) (sh : Addr) (ca : Addr) (kc : ClassId) (k0 : Int64) (k1 : Int64) (k2 : Int64) (k3 : Int64) (k4 : Int64) (k5 : Int64) (h0 : Heap) (n0 : Nat) (O0 : Old Z n0 h0) (pf0 : Exa Z h0 a0 "com/example/filters_under_siege/filtersundersiege/KeeperPairs") (pf1 : Fld Z h0 a0 "com/example/filters_under_siege/filtersundersiege/KeeperPairs" "shape" "Lcom/example/filters_under_siege/filtersundersiege/SketchShape;" (.ref sh)) (pf2 : Exa Z h0 sh "com/example/filters_under_siege/filtersundersiege/SketchShape") (pf3 : Fld Z h0 sh "com/example/filters_under_siege/filtersundersiege/SketchShape" "width" "I" (.int (3 : Int32))) (pf4 : Fld Z h0 a0 "com/example/filters_under_siege/filtersundersiege/KeeperPairs" "counts" "[J" (.ref ca)) (pf5 : Arv Z h0 ca kc .long (6 : Int32) [(.long k0), (.long k1), (.long k2), (.long k3), (.long k4), (.long k5)] (.long (0 : Int64))) (hp2 : p2 = (0 : Int32) ∨ p2 = (1 : Int32) ∨ p2 = (2 : Int32)) :
    MetFree l y12 (head1 (Jvm.Cond.code y12 prog_26_method_6_code 3 (some .long) :: ws) ({ frames := 1, cells := 0, slots := 0, locals := 14 } : Room)) (fun a U => a = #[(.ref a0), (.int (0 : Int32)), (.int p2)] ∧ Z.Warmed39 U.vm ∧ U.heap = h0) (fun _ _ _ _ _ => True) (fun _ U o U' => ∃ v L, o = .returned v ∧ Q12_3_0 Z a0 p2 sh ca kc k0 k1 k2 k3 k4 k5 h0 n0 v U'.heap L ∧ FrameEnd U o U' L ({ frames := 1, cells := 0, slots := 0, locals := 14 } : Room).cells ({ frames := 1, cells := 0, slots := 0, locals := 14 } : Room).slots) := by
 refine MetFree.of_bodySF (plainFor_of_name pn_3) hisR ?_
 intro p e s m args below meth c s₁ Bd hml0 hP hK
 obtain ⟨rfl, hZ, hh⟩ := hP
 have hx := Bd.exec
 have hby := Bd.bytes
 have hml : c.maxLocals = 3 := hml0
 have hown : s.vm.findClass "com/example/filters_under_siege/filtersundersiege/KeeperPairs" = some m.cls := findClass_of_methodNamed Bd.named
 have hnm := (name_of_methodNamed Bd.named Bd.method).1
 have hlk : meth.locks = false := by first | assumption | exact BodyLoose.notSynchronized (by assumption) | exact Body.notSynchronized (by assumption)
 have X0 : Stand p l e ({ frames := 1, cells := 0, slots := 0, locals := 14 } : Room) s m #[(.ref a0), (.int (0 : Int32)), (.int p2)] below meth c s₁ [] 0 0 := Stand.of_body Bd
 have e0 : s₁.heap = h0 := by rw [← hh, Bd.state]; rfl
 have N0 := Fr.nil n0
 have Z0 : n0 ≤ h0.size := Nat.le_trans (Nat.le_of_eq O0.1.symm) O0.2.1
 obtain ⟨S0, hS0⟩ : ∃ z, z = s₁.setTop (entryFrame m #[(.ref a0), (.int (0 : Int32)), (.int p2)] 3) := ⟨_, rfl⟩
 have pre0 : ∀ tg, AT p e below s₁ m 0 #[rv a0, iv (0 : Int32), iv p2] [] tg → Steps p.tables e below S0 tg := fun tg kg => by rw [hS0]; exact castTop (ef_12_3_0 m a0 p2) kg
 obtain ⟨T1, X1, e1, st1⟩ := getF X0 hx hZ hown (host := "") (Or.inl (ow hw 59 rfl)) Via.refl e0 pf4 (g := (mkF m 1 #[rv a0, iv (0 : Int32), iv p2] [(.ref a0)])) rfl rfl (hb hby d12_1)
 obtain ⟨T2, X2, e2, st2⟩ := getF X1 hx hZ hown (host := "") (Or.inl (ow hw 47 rfl)) Via.refl e1 pf1 (g := (mkF m 6 #[rv a0, iv (0 : Int32), iv p2] [(.ref a0), (.int (0 : Int32)), (.ref ca)])) rfl rfl (hb hby d12_6)
 obtain ⟨cq3, kq3, q3a, q3b, q3c⟩ := isOf hZ e2 pf2
 obtain ⟨_, _, ⟨T3, L3, k3, n3⟩, -, X3, ⟨Lc3, hQ3, l3, y3, z3⟩, st3⟩ := X2.virtualBack hx (y := y9) (z := y9) hown (mvT hZ (ow hw 66 rfl)) (mvT hZ (ow hw 67 rfl)) (notFace_of_selects (args := #[]) (mvT hZ (ow hw 69 rfl))) (mvT hZ (ow hw 69 rfl)) (mvT hZ (ow hw 68 rfl)) (by decide) (backOf (W := 2) (rm9 l Z ar hw [] sh (3 : Int32) h0 n0 O0 pf3) hZ (ow hw 70 rfl) (ow hw 3 rfl) (by decide) (by decide)) q3a q3c (g := (mkF m 9 #[rv a0, iv (0 : Int32), iv p2] [(.ref sh), (.int (0 : Int32)), (.ref ca)])) rfl (by rw [hml]; rfl) (Steps.refl _) (argsL := []) (rest := [(.int (0 : Int32)), (.ref ca)]) (lenOf pd_2 rfl) rfl (by show 2 * 0 + _ ≤ _; exact Nat.le_of_eq rfl) (hb hby d12_9) (fun _ _ => ⟨rfl, e2, (by decide : 0 + 0 ≤ _), (by decide : 0 + 0 ≤ _)⟩)
 dsimp only [Pt.U, Pt.locs, Pt.cells, Pt.slots] at X3 l3 y3 z3 st3 hQ3
 subst l3 y3 z3
 obtain ⟨rfl, N3q, e3⟩ := hQ3
 have N3 := Fr.app N0 N3q
 obtain ⟨cl4, Ar4, q4, S4, N4, H4, G4⟩ := id pf5
 have hin4 := own_in ((0 : Int32) + p2) S4 (own_b3_0 hp2)
 have hat4 : cl4.slots[(((0 : Int32) + p2)).toNatClampNeg]? = some (.long (sJ3 p2 k0 k1 k2)) := Has.at H4 hin4 (own_gJ3_0 hp2)
 obtain ⟨fs, hr, hrun, hended, hW, hsame⟩ := X3.leave (v := some (.long (sJ3 p2 k0 k1 k2))) (fun h => by rw [Bd.returns] at h; cases h) hlk
 subst hS0
 refine ⟨_, _, pre0 _ ?_, hrun, hended, _, _, rfl, ?_, ⟨_, rfl⟩, hW, hsame.mono (by decide) (by decide)⟩
 ·
  refine XS.aloadN X0.here hx rfl (hb hby d12_0) rfl rfl ?_
  refine st1 _ ?_
  refine XS.iloadN X1.here hx rfl (hb hby d12_4) rfl ?_
  refine XS.aloadN X1.here hx rfl (hb hby d12_5) rfl rfl ?_
  refine st2 _ ?_
  refine st3.trans ?_
  refine XS.imul X3.here hx rfl (hb hby d12_12) rfl ?_
  refine XS.iloadN X3.here hx rfl (hb hby d12_13) rfl ?_
  refine XS.iadd X3.here hx rfl (hb hby d12_14) rfl ?_
  refine X3.laload hx (j := ((0 : Int32) + p2)) (v := (.long (sJ3 p2 k0 k1 k2))) (by rw [e3]; exact Ar4.1) (State.isArrayOf_alike hZ.alike Ar4.2.1) Ar4.2.2 hin4 hat4 (g := (mkF m 15 #[rv a0, iv (0 : Int32), iv p2] [(.int ((0 : Int32) + p2)), (.ref ca)])) rfl rfl (hb hby d12_15) _ ?_
  exact retOut X3 hx (t := .long) (i := .lreturn) Bd.returns rfl (Or.inr (Or.inl ⟨rfl, rfl, _, rfl⟩)) (hb hby d12_16) hr
 ·
  show Q12_3_0 Z a0 p2 sh ca kc k0 k1 k2 k3 k4 k5 h0 n0 _ T3.heap _
  rw [e3]
  exact ⟨rfl, N3, rfl⟩

theorem ef_11_3_1 (m : MethodId) (a0 : Addr) (p2 : Int32) : entryFrame m #[(.ref a0), (.int (1 : Int32)), (.int p2)] 3 = mkF m 0 #[rv a0, iv (1 : Int32), iv p2] [] := by first | (simp [entryFrame, mkF, argsToLocals, Value.category]; done) | rfl
def Q11_3_1 (Z : State) (a0 : Addr) (p2 : Int32) (sh : Addr) (fa : Addr) (kf : ClassId) (f0 : Int32) (f1 : Int32) (f2 : Int32) (f3 : Int32) (f4 : Int32) (f5 : Int32) (h0 : Heap) (n0 : Nat) (v : Option Value) (h : Heap) (L : List Loc) : Prop := v = some (.int (sI3 p2 f3 f4 f5)) ∧ Fr n0 L ∧ h = h0
set_option maxRecDepth 65536 in
set_option maxHeartbeats 40000000 in
theorem rm11_3_1 (l : Launch) (Z : State) (ar : Array Value) (hw : ∀ d ∈ tables_1, d.before ar Z = true) (ws : List Jvm.Cond) (a0 : Addr) (p2 : Int32) (sh : Addr) (fa : Addr) (kf : ClassId) (f0 : Int32) (f1 : Int32) (f2 : Int32) (f3 : Int32) (f4 : Int32) (f5 : Int32) (h0 : Heap) (n0 : Nat) (O0 : Old Z n0 h0) (pf0 : Exa Z h0 a0 "com/example/filters_under_siege/filtersundersiege/KeeperPairs") (pf1 : Fld Z h0 a0 "com/example/filters_under_siege/filtersundersiege/KeeperPairs" "shape" "Lcom/example/filters_under_siege/filtersundersiege/SketchShape;" (.ref sh)) (pf2 : Exa Z h0 sh "com/example/filters_under_siege/filtersundersiege/SketchShape") (pf3 : Fld Z h0 sh "com/example/filters_under_siege/filtersundersiege/SketchShape" "width" "I" (.int (3 : Int32))) (pf4 : Fld Z h0 a0 "com/example/filters_under_siege/filtersundersiege/KeeperPairs" "fingerprints" "[I" (.ref fa)) (pf5 : Arv Z h0 fa kf .int (6 : Int32) [(.int f0), (.int f1), (.int f2), (.int f3), (.int f4), (.int f5)] (.int (0 : Int32))) (hp2 : p2 = (0 : Int32) ∨ p2 = (1 : Int32) ∨ p2 = (2 : Int32)) :
    MetFree l y11 (head1 (Jvm.Cond.code y11 prog_26_method_7_code 3 (some .int) :: ws) ({ frames := 1, cells := 0, slots := 0, locals := 14 } : Room)) (fun a U => a = #[(.ref a0), (.int (1 : Int32)), (.int p2)] ∧ Z.Warmed39 U.vm ∧ U.heap = h0) (fun _ _ _ _ _ => True) (fun _ U o U' => ∃ v L, o = .returned v ∧ Q11_3_1 Z a0 p2 sh fa kf f0 f1 f2 f3 f4 f5 h0 n0 v U'.heap L ∧ FrameEnd U o U' L ({ frames := 1, cells := 0, slots := 0, locals := 14 } : Room).cells ({ frames := 1, cells := 0, slots := 0, locals := 14 } : Room).slots) := by
 refine MetFree.of_bodySF (plainFor_of_name pn_3) hisR ?_
 intro p e s m args below meth c s₁ Bd hml0 hP hK
 obtain ⟨rfl, hZ, hh⟩ := hP
 have hx := Bd.exec
 have hby := Bd.bytes
 have hml : c.maxLocals = 3 := hml0
 have hown : s.vm.findClass "com/example/filters_under_siege/filtersundersiege/KeeperPairs" = some m.cls := findClass_of_methodNamed Bd.named
 have hnm := (name_of_methodNamed Bd.named Bd.method).1
 have hlk : meth.locks = false := by first | assumption | exact BodyLoose.notSynchronized (by assumption) | exact Body.notSynchronized (by assumption)
 have X0 : Stand p l e ({ frames := 1, cells := 0, slots := 0, locals := 14 } : Room) s m #[(.ref a0), (.int (1 : Int32)), (.int p2)] below meth c s₁ [] 0 0 := Stand.of_body Bd
 have e0 : s₁.heap = h0 := by rw [← hh, Bd.state]; rfl
 have N0 := Fr.nil n0
 have Z0 : n0 ≤ h0.size := Nat.le_trans (Nat.le_of_eq O0.1.symm) O0.2.1
 obtain ⟨S0, hS0⟩ : ∃ z, z = s₁.setTop (entryFrame m #[(.ref a0), (.int (1 : Int32)), (.int p2)] 3) := ⟨_, rfl⟩
 have pre0 : ∀ tg, AT p e below s₁ m 0 #[rv a0, iv (1 : Int32), iv p2] [] tg → Steps p.tables e below S0 tg := fun tg kg => by rw [hS0]; exact castTop (ef_11_3_1 m a0 p2) kg
 obtain ⟨T1, X1, e1, st1⟩ := getF X0 hx hZ hown (host := "") (Or.inl (ow hw 56 rfl)) Via.refl e0 pf4 (g := (mkF m 1 #[rv a0, iv (1 : Int32), iv p2] [(.ref a0)])) rfl rfl (hb hby d11_1)
 obtain ⟨T2, X2, e2, st2⟩ := getF X1 hx hZ hown (host := "") (Or.inl (ow hw 47 rfl)) Via.refl e1 pf1 (g := (mkF m 6 #[rv a0, iv (1 : Int32), iv p2] [(.ref a0), (.int (1 : Int32)), (.ref fa)])) rfl rfl (hb hby d11_6)
 obtain ⟨cq3, kq3, q3a, q3b, q3c⟩ := isOf hZ e2 pf2
 obtain ⟨_, _, ⟨T3, L3, k3, n3⟩, -, X3, ⟨Lc3, hQ3, l3, y3, z3⟩, st3⟩ := X2.virtualBack hx (y := y9) (z := y9) hown (mvT hZ (ow hw 66 rfl)) (mvT hZ (ow hw 67 rfl)) (notFace_of_selects (args := #[]) (mvT hZ (ow hw 69 rfl))) (mvT hZ (ow hw 69 rfl)) (mvT hZ (ow hw 68 rfl)) (by decide) (backOf (W := 2) (rm9 l Z ar hw [] sh (3 : Int32) h0 n0 O0 pf3) hZ (ow hw 70 rfl) (ow hw 3 rfl) (by decide) (by decide)) q3a q3c (g := (mkF m 9 #[rv a0, iv (1 : Int32), iv p2] [(.ref sh), (.int (1 : Int32)), (.ref fa)])) rfl (by rw [hml]; rfl) (Steps.refl _) (argsL := []) (rest := [(.int (1 : Int32)), (.ref fa)]) (lenOf pd_2 rfl) rfl (by show 2 * 0 + _ ≤ _; exact Nat.le_of_eq rfl) (hb hby d11_9) (fun _ _ => ⟨rfl, e2, (by decide : 0 + 0 ≤ _), (by decide : 0 + 0 ≤ _)⟩)
 dsimp only [Pt.U, Pt.locs, Pt.cells, Pt.slots] at X3 l3 y3 z3 st3 hQ3
 subst l3 y3 z3
 obtain ⟨rfl, N3q, e3⟩ := hQ3
 have N3 := Fr.app N0 N3q
 obtain ⟨cl4, Ar4, q4, S4, N4, H4, G4⟩ := id pf5
 have hin4 := own_in ((3 : Int32) + p2) S4 (own_b3_3 hp2)
 have hat4 : cl4.slots[(((3 : Int32) + p2)).toNatClampNeg]? = some (.int (sI3 p2 f3 f4 f5)) := Has.at H4 hin4 (own_gI3_3 hp2)
 obtain ⟨fs, hr, hrun, hended, hW, hsame⟩ := X3.leave (v := some (.int (sI3 p2 f3 f4 f5))) (fun h => by rw [Bd.returns] at h; cases h) hlk
 subst hS0
 refine ⟨_, _, pre0 _ ?_, hrun, hended, _, _, rfl, ?_, ⟨_, rfl⟩, hW, hsame.mono (by decide) (by decide)⟩
 ·
  refine XS.aloadN X0.here hx rfl (hb hby d11_0) rfl rfl ?_
  refine st1 _ ?_
  refine XS.iloadN X1.here hx rfl (hb hby d11_4) rfl ?_
  refine XS.aloadN X1.here hx rfl (hb hby d11_5) rfl rfl ?_
  refine st2 _ ?_
  refine st3.trans ?_
  refine XS.imul X3.here hx rfl (hb hby d11_12) rfl ?_
  refine XS.iloadN X3.here hx rfl (hb hby d11_13) rfl ?_
  refine XS.iadd X3.here hx rfl (hb hby d11_14) rfl ?_
  refine X3.iaload hx (j := ((3 : Int32) + p2)) (v := (.int (sI3 p2 f3 f4 f5))) (by rw [e3]; exact Ar4.1) (State.isArrayOf_alike hZ.alike Ar4.2.1) Ar4.2.2 hin4 hat4 (g := (mkF m 15 #[rv a0, iv (1 : Int32), iv p2] [(.int ((3 : Int32) + p2)), (.ref fa)])) rfl rfl (hb hby d11_15) _ ?_
  exact retOut X3 hx (t := .int) (i := .ireturn) Bd.returns rfl (Or.inl ⟨rfl, Or.inl rfl, _, rfl⟩) (hb hby d11_16) hr
 ·
  show Q11_3_1 Z a0 p2 sh fa kf f0 f1 f2 f3 f4 f5 h0 n0 _ T3.heap _
  rw [e3]
  exact ⟨rfl, N3, rfl⟩

theorem ef_12_3_1 (m : MethodId) (a0 : Addr) (p2 : Int32) : entryFrame m #[(.ref a0), (.int (1 : Int32)), (.int p2)] 3 = mkF m 0 #[rv a0, iv (1 : Int32), iv p2] [] := by first | (simp [entryFrame, mkF, argsToLocals, Value.category]; done) | rfl
def Q12_3_1 (Z : State) (a0 : Addr) (p2 : Int32) (sh : Addr) (ca : Addr) (kc : ClassId) (k0 : Int64) (k1 : Int64) (k2 : Int64) (k3 : Int64) (k4 : Int64) (k5 : Int64) (h0 : Heap) (n0 : Nat) (v : Option Value) (h : Heap) (L : List Loc) : Prop := v = some (.long (sJ3 p2 k3 k4 k5)) ∧ Fr n0 L ∧ h = h0
set_option maxRecDepth 65536 in
set_option maxHeartbeats 40000000 in
theorem rm12_3_1 (l : Launch) (Z : State) (ar : Array Value) (hw : ∀ d ∈ tables_1, d.before ar Z = true) (ws : List Jvm.Cond) (a0 : Addr) (p2 : Int32) (sh : Addr) (ca : Addr) (kc : ClassId) (k0 : Int64) (k1 : Int64) (k2 : Int64) (k3 : Int64) (k4 : Int64) (k5 : Int64) (h0 : Heap) (n0 : Nat) (O0 : Old Z n0 h0) (pf0 : Exa Z h0 a0 "com/example/filters_under_siege/filtersundersiege/KeeperPairs") (pf1 : Fld Z h0 a0 "com/example/filters_under_siege/filtersundersiege/KeeperPairs" "shape" "Lcom/example/filters_under_siege/filtersundersiege/SketchShape;" (.ref sh)) (pf2 : Exa Z h0 sh "com/example/filters_under_siege/filtersundersiege/SketchShape") (pf3 : Fld Z h0 sh "com/example/filters_under_siege/filtersundersiege/SketchShape" "width" "I" (.int (3 : Int32))) (pf4 : Fld Z h0 a0 "com/example/filters_under_siege/filtersundersiege/KeeperPairs" "counts" "[J" (.ref ca)) (pf5 : Arv Z h0 ca kc .long (6 : Int32) [(.long k0), (.long k1), (.long k2), (.long k3), (.long k4), (.long k5)] (.long (0 : Int64))) (hp2 : p2 = (0 : Int32) ∨ p2 = (1 : Int32) ∨ p2 = (2 : Int32)) :
    MetFree l y12 (head1 (Jvm.Cond.code y12 prog_26_method_6_code 3 (some .long) :: ws) ({ frames := 1, cells := 0, slots := 0, locals := 14 } : Room)) (fun a U => a = #[(.ref a0), (.int (1 : Int32)), (.int p2)] ∧ Z.Warmed39 U.vm ∧ U.heap = h0) (fun _ _ _ _ _ => True) (fun _ U o U' => ∃ v L, o = .returned v ∧ Q12_3_1 Z a0 p2 sh ca kc k0 k1 k2 k3 k4 k5 h0 n0 v U'.heap L ∧ FrameEnd U o U' L ({ frames := 1, cells := 0, slots := 0, locals := 14 } : Room).cells ({ frames := 1, cells := 0, slots := 0, locals := 14 } : Room).slots) := by
 refine MetFree.of_bodySF (plainFor_of_name pn_3) hisR ?_
 intro p e s m args below meth c s₁ Bd hml0 hP hK
 obtain ⟨rfl, hZ, hh⟩ := hP
 have hx := Bd.exec
 have hby := Bd.bytes
 have hml : c.maxLocals = 3 := hml0
 have hown : s.vm.findClass "com/example/filters_under_siege/filtersundersiege/KeeperPairs" = some m.cls := findClass_of_methodNamed Bd.named
 have hnm := (name_of_methodNamed Bd.named Bd.method).1
 have hlk : meth.locks = false := by first | assumption | exact BodyLoose.notSynchronized (by assumption) | exact Body.notSynchronized (by assumption)
 have X0 : Stand p l e ({ frames := 1, cells := 0, slots := 0, locals := 14 } : Room) s m #[(.ref a0), (.int (1 : Int32)), (.int p2)] below meth c s₁ [] 0 0 := Stand.of_body Bd
 have e0 : s₁.heap = h0 := by rw [← hh, Bd.state]; rfl
 have N0 := Fr.nil n0
 have Z0 : n0 ≤ h0.size := Nat.le_trans (Nat.le_of_eq O0.1.symm) O0.2.1
 obtain ⟨S0, hS0⟩ : ∃ z, z = s₁.setTop (entryFrame m #[(.ref a0), (.int (1 : Int32)), (.int p2)] 3) := ⟨_, rfl⟩
 have pre0 : ∀ tg, AT p e below s₁ m 0 #[rv a0, iv (1 : Int32), iv p2] [] tg → Steps p.tables e below S0 tg := fun tg kg => by rw [hS0]; exact castTop (ef_12_3_1 m a0 p2) kg
 obtain ⟨T1, X1, e1, st1⟩ := getF X0 hx hZ hown (host := "") (Or.inl (ow hw 59 rfl)) Via.refl e0 pf4 (g := (mkF m 1 #[rv a0, iv (1 : Int32), iv p2] [(.ref a0)])) rfl rfl (hb hby d12_1)
 obtain ⟨T2, X2, e2, st2⟩ := getF X1 hx hZ hown (host := "") (Or.inl (ow hw 47 rfl)) Via.refl e1 pf1 (g := (mkF m 6 #[rv a0, iv (1 : Int32), iv p2] [(.ref a0), (.int (1 : Int32)), (.ref ca)])) rfl rfl (hb hby d12_6)
 obtain ⟨cq3, kq3, q3a, q3b, q3c⟩ := isOf hZ e2 pf2
 obtain ⟨_, _, ⟨T3, L3, k3, n3⟩, -, X3, ⟨Lc3, hQ3, l3, y3, z3⟩, st3⟩ := X2.virtualBack hx (y := y9) (z := y9) hown (mvT hZ (ow hw 66 rfl)) (mvT hZ (ow hw 67 rfl)) (notFace_of_selects (args := #[]) (mvT hZ (ow hw 69 rfl))) (mvT hZ (ow hw 69 rfl)) (mvT hZ (ow hw 68 rfl)) (by decide) (backOf (W := 2) (rm9 l Z ar hw [] sh (3 : Int32) h0 n0 O0 pf3) hZ (ow hw 70 rfl) (ow hw 3 rfl) (by decide) (by decide)) q3a q3c (g := (mkF m 9 #[rv a0, iv (1 : Int32), iv p2] [(.ref sh), (.int (1 : Int32)), (.ref ca)])) rfl (by rw [hml]; rfl) (Steps.refl _) (argsL := []) (rest := [(.int (1 : Int32)), (.ref ca)]) (lenOf pd_2 rfl) rfl (by show 2 * 0 + _ ≤ _; exact Nat.le_of_eq rfl) (hb hby d12_9) (fun _ _ => ⟨rfl, e2, (by decide : 0 + 0 ≤ _), (by decide : 0 + 0 ≤ _)⟩)
 dsimp only [Pt.U, Pt.locs, Pt.cells, Pt.slots] at X3 l3 y3 z3 st3 hQ3
 subst l3 y3 z3
 obtain ⟨rfl, N3q, e3⟩ := hQ3
 have N3 := Fr.app N0 N3q
 obtain ⟨cl4, Ar4, q4, S4, N4, H4, G4⟩ := id pf5
 have hin4 := own_in ((3 : Int32) + p2) S4 (own_b3_3 hp2)
 have hat4 : cl4.slots[(((3 : Int32) + p2)).toNatClampNeg]? = some (.long (sJ3 p2 k3 k4 k5)) := Has.at H4 hin4 (own_gJ3_3 hp2)
 obtain ⟨fs, hr, hrun, hended, hW, hsame⟩ := X3.leave (v := some (.long (sJ3 p2 k3 k4 k5))) (fun h => by rw [Bd.returns] at h; cases h) hlk
 subst hS0
 refine ⟨_, _, pre0 _ ?_, hrun, hended, _, _, rfl, ?_, ⟨_, rfl⟩, hW, hsame.mono (by decide) (by decide)⟩
 ·
  refine XS.aloadN X0.here hx rfl (hb hby d12_0) rfl rfl ?_
  refine st1 _ ?_
  refine XS.iloadN X1.here hx rfl (hb hby d12_4) rfl ?_
  refine XS.aloadN X1.here hx rfl (hb hby d12_5) rfl rfl ?_
  refine st2 _ ?_
  refine st3.trans ?_
  refine XS.imul X3.here hx rfl (hb hby d12_12) rfl ?_
  refine XS.iloadN X3.here hx rfl (hb hby d12_13) rfl ?_
  refine XS.iadd X3.here hx rfl (hb hby d12_14) rfl ?_
  refine X3.laload hx (j := ((3 : Int32) + p2)) (v := (.long (sJ3 p2 k3 k4 k5))) (by rw [e3]; exact Ar4.1) (State.isArrayOf_alike hZ.alike Ar4.2.1) Ar4.2.2 hin4 hat4 (g := (mkF m 15 #[rv a0, iv (1 : Int32), iv p2] [(.int ((3 : Int32) + p2)), (.ref ca)])) rfl rfl (hb hby d12_15) _ ?_
  exact retOut X3 hx (t := .long) (i := .lreturn) Bd.returns rfl (Or.inr (Or.inl ⟨rfl, rfl, _, rfl⟩)) (hb hby d12_16) hr
 ·
  show Q12_3_1 Z a0 p2 sh ca kc k0 k1 k2 k3 k4 k5 h0 n0 _ T3.heap _
  rw [e3]
  exact ⟨rfl, N3, rfl⟩

theorem own_nc0 {c F f : Int32} : nc (sJ3 c (0 : Int64) (0 : Int64) (0 : Int64)) F f = (1 : Int64) := by
  have h : sJ3 c (0 : Int64) (0 : Int64) (0 : Int64) = (0 : Int64) := by unfold sJ3; (repeat' split) <;> rfl
  rw [h, nc, if_pos rfl]; rfl
theorem own_nf0 {c F f : Int32} : nf (sJ3 c (0 : Int64) (0 : Int64) (0 : Int64)) F f = f := by
  have h : sJ3 c (0 : Int64) (0 : Int64) (0 : Int64) = (0 : Int64) := by unfold sJ3; (repeat' split) <;> rfl
  rw [h, nf, if_pos rfl]
theorem own_N {c d f g : Int32} (hc : c = (0 : Int32) ∨ c = (1 : Int32) ∨ c = (2 : Int32)) (hd : d = (0 : Int32) ∨ d = (1 : Int32) ∨ d = (2 : Int32)) : (nf (sJ3 d (pJ c (0 : Int32) (1 : Int64) (0 : Int64)) (pJ c (1 : Int32) (1 : Int64) (0 : Int64)) (pJ c (2 : Int32) (1 : Int64) (0 : Int64))) (sI3 d (pI c (0 : Int32) f (0 : Int32)) (pI c (1 : Int32) f (0 : Int32)) (pI c (2 : Int32) f (0 : Int32))) g) = g := by
  have e0_1 : ¬ (0 : Int32) = (1 : Int32) := by decide
  have e0_2 : ¬ (0 : Int32) = (2 : Int32) := by decide
  have e1_0 : ¬ (1 : Int32) = (0 : Int32) := by decide
  have e1_2 : ¬ (1 : Int32) = (2 : Int32) := by decide
  have e2_0 : ¬ (2 : Int32) = (0 : Int32) := by decide
  have e2_1 : ¬ (2 : Int32) = (1 : Int32) := by decide
  have z0 : ¬ (1 : Int64) = (0 : Int64) := by decide
  have z1 : (1 : Int64) - (1 : Int64) = (0 : Int64) := by decide
  rcases hc with rfl | rfl | rfl <;> rcases hd with rfl | rfl | rfl <;> simp [nf, sJ3, sI3, pJ, pI, e0_1, e0_2, e1_0, e1_2, e2_0, e2_1, z0, z1]
theorem own_fin {c d z f g : Int32} (hc : c = (0 : Int32) ∨ c = (1 : Int32) ∨ c = (2 : Int32)) (hd : d = (0 : Int32) ∨ d = (1 : Int32) ∨ d = (2 : Int32)) (hz : z = (0 : Int32) ∨ z = (1 : Int32) ∨ z = (2 : Int32)) : (d = z → (sI3 z (pI d (0 : Int32) (nf (sJ3 d (pJ c (0 : Int32) (1 : Int64) (0 : Int64)) (pJ c (1 : Int32) (1 : Int64) (0 : Int64)) (pJ c (2 : Int32) (1 : Int64) (0 : Int64))) (sI3 d (pI c (0 : Int32) f (0 : Int32)) (pI c (1 : Int32) f (0 : Int32)) (pI c (2 : Int32) f (0 : Int32))) g) (pI c (0 : Int32) f (0 : Int32))) (pI d (1 : Int32) (nf (sJ3 d (pJ c (0 : Int32) (1 : Int64) (0 : Int64)) (pJ c (1 : Int32) (1 : Int64) (0 : Int64)) (pJ c (2 : Int32) (1 : Int64) (0 : Int64))) (sI3 d (pI c (0 : Int32) f (0 : Int32)) (pI c (1 : Int32) f (0 : Int32)) (pI c (2 : Int32) f (0 : Int32))) g) (pI c (1 : Int32) f (0 : Int32))) (pI d (2 : Int32) (nf (sJ3 d (pJ c (0 : Int32) (1 : Int64) (0 : Int64)) (pJ c (1 : Int32) (1 : Int64) (0 : Int64)) (pJ c (2 : Int32) (1 : Int64) (0 : Int64))) (sI3 d (pI c (0 : Int32) f (0 : Int32)) (pI c (1 : Int32) f (0 : Int32)) (pI c (2 : Int32) f (0 : Int32))) g) (pI c (2 : Int32) f (0 : Int32)))) = g) ∧ (¬ d = z → c = z → (sI3 z (pI d (0 : Int32) (nf (sJ3 d (pJ c (0 : Int32) (1 : Int64) (0 : Int64)) (pJ c (1 : Int32) (1 : Int64) (0 : Int64)) (pJ c (2 : Int32) (1 : Int64) (0 : Int64))) (sI3 d (pI c (0 : Int32) f (0 : Int32)) (pI c (1 : Int32) f (0 : Int32)) (pI c (2 : Int32) f (0 : Int32))) g) (pI c (0 : Int32) f (0 : Int32))) (pI d (1 : Int32) (nf (sJ3 d (pJ c (0 : Int32) (1 : Int64) (0 : Int64)) (pJ c (1 : Int32) (1 : Int64) (0 : Int64)) (pJ c (2 : Int32) (1 : Int64) (0 : Int64))) (sI3 d (pI c (0 : Int32) f (0 : Int32)) (pI c (1 : Int32) f (0 : Int32)) (pI c (2 : Int32) f (0 : Int32))) g) (pI c (1 : Int32) f (0 : Int32))) (pI d (2 : Int32) (nf (sJ3 d (pJ c (0 : Int32) (1 : Int64) (0 : Int64)) (pJ c (1 : Int32) (1 : Int64) (0 : Int64)) (pJ c (2 : Int32) (1 : Int64) (0 : Int64))) (sI3 d (pI c (0 : Int32) f (0 : Int32)) (pI c (1 : Int32) f (0 : Int32)) (pI c (2 : Int32) f (0 : Int32))) g) (pI c (2 : Int32) f (0 : Int32)))) = f) ∧ (¬ d = z → ¬ c = z → (sJ3 z (pJ d (0 : Int32) (nc (sJ3 d (pJ c (0 : Int32) (1 : Int64) (0 : Int64)) (pJ c (1 : Int32) (1 : Int64) (0 : Int64)) (pJ c (2 : Int32) (1 : Int64) (0 : Int64))) (sI3 d (pI c (0 : Int32) f (0 : Int32)) (pI c (1 : Int32) f (0 : Int32)) (pI c (2 : Int32) f (0 : Int32))) g) (pJ c (0 : Int32) (1 : Int64) (0 : Int64))) (pJ d (1 : Int32) (nc (sJ3 d (pJ c (0 : Int32) (1 : Int64) (0 : Int64)) (pJ c (1 : Int32) (1 : Int64) (0 : Int64)) (pJ c (2 : Int32) (1 : Int64) (0 : Int64))) (sI3 d (pI c (0 : Int32) f (0 : Int32)) (pI c (1 : Int32) f (0 : Int32)) (pI c (2 : Int32) f (0 : Int32))) g) (pJ c (1 : Int32) (1 : Int64) (0 : Int64))) (pJ d (2 : Int32) (nc (sJ3 d (pJ c (0 : Int32) (1 : Int64) (0 : Int64)) (pJ c (1 : Int32) (1 : Int64) (0 : Int64)) (pJ c (2 : Int32) (1 : Int64) (0 : Int64))) (sI3 d (pI c (0 : Int32) f (0 : Int32)) (pI c (1 : Int32) f (0 : Int32)) (pI c (2 : Int32) f (0 : Int32))) g) (pJ c (2 : Int32) (1 : Int64) (0 : Int64)))) = (0 : Int64)) := by
  rw [own_N hc hd]
  generalize (nc (sJ3 d (pJ c (0 : Int32) (1 : Int64) (0 : Int64)) (pJ c (1 : Int32) (1 : Int64) (0 : Int64)) (pJ c (2 : Int32) (1 : Int64) (0 : Int64))) (sI3 d (pI c (0 : Int32) f (0 : Int32)) (pI c (1 : Int32) f (0 : Int32)) (pI c (2 : Int32) f (0 : Int32))) g) = M
  have e0_1 : ¬ (0 : Int32) = (1 : Int32) := by decide
  have e0_2 : ¬ (0 : Int32) = (2 : Int32) := by decide
  have e1_0 : ¬ (1 : Int32) = (0 : Int32) := by decide
  have e1_2 : ¬ (1 : Int32) = (2 : Int32) := by decide
  have e2_0 : ¬ (2 : Int32) = (0 : Int32) := by decide
  have e2_1 : ¬ (2 : Int32) = (1 : Int32) := by decide
  have z0 : ¬ (1 : Int64) = (0 : Int64) := by decide
  have z1 : (1 : Int64) - (1 : Int64) = (0 : Int64) := by decide
  rcases hc with rfl | rfl | rfl <;> rcases hd with rfl | rfl | rfl <;> rcases hz with rfl | rfl | rfl <;> simp [sJ3, sI3, pJ, pI, e0_1, e0_2, e1_0, e1_2, e2_0, e2_1, z0, z1]


theorem own_m3 (x : Int32) : (x &&& (255 : Int32)) % (3 : Int32) = (0 : Int32) ∨ (x &&& (255 : Int32)) % (3 : Int32) = (1 : Int32) ∨ (x &&& (255 : Int32)) % (3 : Int32) = (2 : Int32) := by
  have h1 := c_mask x (255 : Int32) 8 (by decide) (by decide)
  have h0 : 0 ≤ x.toInt % (2 ^ 8 : Nat) := Int.emod_nonneg _ (by decide)
  have h2 := (c_irem (x &&& (255 : Int32)) (3 : Int32) 3 rfl).1 (by rw [h1]; exact h0)
  have l0 : ((0 : Int32)).toInt = 0 := rfl
  have l1 : ((1 : Int32)).toInt = 1 := rfl
  have l2 : ((2 : Int32)).toInt = 2 := rfl
  simp only [← Int32.toInt_inj, l0, l1, l2]
  omega
theorem own_a1 (x : Int32) : (x &&& (1 : Int32)) = (0 : Int32) ∨ (x &&& (1 : Int32)) = (1 : Int32) := by
  have h1 := c_mask x (1 : Int32) 1 (by decide) (by decide)
  have h2 : 0 ≤ x.toInt % (2 ^ 1 : Nat) := Int.emod_nonneg _ (by decide)
  have h3 : x.toInt % (2 ^ 1 : Nat) < 2 := Int.emod_lt_of_pos _ (by decide)
  have l0 : ((0 : Int32)).toInt = 0 := rfl
  have l1 : ((1 : Int32)).toInt = 1 := rfl
  simp only [← Int32.toInt_inj, l0, l1]
  omega

theorem ef_0 (m : MethodId) (p0 : Int32) (p1 : Int32) (p2 : Int32) (p3 : Int32) (p4 : Int32) (p5 : Int32) : entryFrame m #[(.int p0), (.int p1), (.int p2), (.int p3), (.int p4), (.int p5)] maxLocals = mkF m 0 #[iv p0, iv p1, iv p2, iv p3, iv p4, iv p5, un, un, un, un, un, un, un] [] := by first | (simp [entryFrame, mkF, argsToLocals, Value.category, maxLocals]; done) | rfl
def Q0 (Z : State) (p0 : Int32) (p1 : Int32) (p2 : Int32) (p3 : Int32) (p4 : Int32) (p5 : Int32) (w_lam : Addr) (k_lam : ClassId) (h0 : Heap) (n0 : Nat) (v : Option Value) (h : Heap) (L : List Loc) : Prop := v = some (.int 1) ∧ Fr n0 L
set_option maxRecDepth 65536 in
set_option maxHeartbeats 40000000 in
theorem rm0 (l : Launch) (Z : State) (ar : Array Value) (hw : ∀ d ∈ tables_1, d.before ar Z = true) (ws : List Jvm.Cond) (p0 : Int32) (p1 : Int32) (p2 : Int32) (p3 : Int32) (p4 : Int32) (p5 : Int32) (w_lam : Addr) (k_lam : ClassId) (h0 : Heap) (n0 : Nat) (O0 : Old Z n0 h0) (hEL : EW Z ar EL0) (HW : Wd Z w_lam k_lam) :
    MetFree l x (head1 (Jvm.Cond.code x code maxLocals ret :: ws) room_1) (fun a U => a = #[(.int p0), (.int p1), (.int p2), (.int p3), (.int p4), (.int p5)] ∧ Z.Warmed39 U.vm ∧ U.heap = h0 ∧ CHv Z EL0 U.vm h0) (fun _ _ _ _ _ => True) (fun _ U o U' => ∃ v L, o = .returned v ∧ Q0 Z p0 p1 p2 p3 p4 p5 w_lam k_lam h0 n0 v U'.heap L ∧ CHr Z EL0 U.vm U.heap U'.vm U'.heap ∧ ReturnedEndW U o U' L 24 1152) := by
 refine MetFree.of_bodySF (plainFor_of_name pn_4) hisR ?_
 intro p e s m args below meth c s₁ Bd hml0 hP hK
 obtain ⟨rfl, hZ, hh, hCH⟩ := hP
 have hx := Bd.exec
 have hby := Bd.bytes
 have hml : c.maxLocals = 13 := hml0
 have hown : s.vm.findClass "com/example/filters_under_siege/filtersundersiege/KeeperPairsFingerprintPinLaw" = some m.cls := findClass_of_methodNamed Bd.named
 have hnm := (name_of_methodNamed Bd.named Bd.method).1
 have hlk : meth.locks = false := by first | assumption | exact BodyLoose.notSynchronized (by assumption) | exact Body.notSynchronized (by assumption)
 have X0 : Stand p l e room_1 (s.setVm s.vm) m #[(.int p0), (.int p1), (.int p2), (.int p3), (.int p4), (.int p5)] below meth c s₁ [] 0 0 := Stand.of_body Bd
 have e0 : s₁.heap = h0 := by rw [← hh, Bd.state]; rfl
 have N0 := Fr.nil n0
 have Z0 : n0 ≤ h0.size := Nat.le_trans (Nat.le_of_eq O0.1.symm) O0.2.1
 obtain ⟨S0, hS0⟩ : ∃ z, z = s₁.setTop (entryFrame m #[(.int p0), (.int p1), (.int p2), (.int p3), (.int p4), (.int p5)] maxLocals) := ⟨_, rfl⟩
 have pre0 : ∀ tg, AT p e below s₁ m 0 #[iv p0, iv p1, iv p2, iv p3, iv p4, iv p5, un, un, un, un, un, un, un] [] tg → Steps p.tables e below S0 tg := fun tg kg => by rw [hS0]; exact castTop (ef_0 m p0 p1 p2 p3 p4 p5) kg
 have hS : s.Since s.vm 0 := (State.WarmedH.refl s).since 0
 have hk : 0 ≤ h0.size := Nat.zero_le _
 have CR0 : CHr Z EL0 s.vm h0 s.vm h0 := CHr.refl hCH
 obtain ⟨HLm, hTr⟩ := id HW
 obtain ⟨T1, h1, k1, X1, e1, E1, A1, B1, st1⟩ := newPE X0 hx hZ (ow hw 0 rfl) e0 (g := (mkF m 1 #[iv p0, iv p1, iv p2, iv p3, iv p4, iv p5, un, un, un, un, un, un, un] [(.int (2 : Int32))])) rfl (hb hby at_1) rfl (by decide) (cap := 2) (by decide) (by decide) (by decide) (by decide) (ad := "[I") (by decide)
 obtain ⟨b1, g1⟩ : ∃ z, z = h0.size := ⟨_, rfl⟩
 rw [← g1] at A1 B1 st1
 have gn1 : n0 ≤ b1 := Nat.le_trans (Nat.le_trans (Nat.le_of_eq O0.1.symm) O0.2.1) (Nat.le_of_eq g1.symm)
 have sz1 : h0.size ≤ b1 := Nat.le_trans (Keep.refl h0 []).1 (Nat.le_of_eq g1.symm)
 have K1 := (Keep.refl h0 []).ext E1
 have O1 := O0.ext E1
 have CR1 : CHr Z EL0 s.vm h0 s.vm h1 := CR0.trans (CHr.ext E1 CR0.1)
 have hk := Nat.le_trans hk E1.1
 have V1_2 : Arv Z h1 b1 k1 .int (2 : Int32) [(.int (0 : Int32)), (.int (0 : Int32))] (.int (0 : Int32)) := (Arv.new A1 (by decide)).pad (pad_rep [] (.int (0 : Int32)) 2)
 have pre3 : ∀ tg, AT p e below T1 m 15 #[iv p0, iv p1, iv p2, iv p3, iv p4, iv p5, rv b1, un, un, un, un, un, un] [(.int ((p2 &&& (255 : Int32)) % (3 : Int32))), (.int (0 : Int32)), (.ref b1)] tg → Steps p.tables e below S0 tg := fun tg kg => pre0 tg (by
  refine XS.iconst X0.here hx rfl (hb hby at_0) ?_
  refine st1 _ ?_
  refine XS.astore X1.here hx rfl (hb hby at_3) rfl rfl (l' := #[iv p0, iv p1, iv p2, iv p3, iv p4, iv p5, rv b1, un, un, un, un, un, un]) rfl ?_
  refine XS.aload X1.here hx rfl (hb hby at_5) rfl rfl ?_
  refine XS.iconst X1.here hx rfl (hb hby at_7) ?_
  refine XS.iloadN X1.here hx rfl (hb hby at_8) rfl ?_
  refine XS.sipush X1.here hx rfl (hb hby at_9) ?_
  refine XS.iand X1.here hx rfl (hb hby at_12) rfl ?_
  refine XS.iconst X1.here hx rfl (hb hby at_13) ?_
  refine iremM X1 hx rfl (hb hby at_14) rfl (by decide) ?_
  exact kg)
 obtain ⟨c0, hc0⟩ : ∃ z, z = ((p2 &&& (255 : Int32)) % (3 : Int32)) := ⟨_, rfl⟩
 have pre4 : ∀ tg, AT p e below T1 m 15 #[iv p0, iv p1, iv p2, iv p3, iv p4, iv p5, rv b1, un, un, un, un, un, un] [(.int c0), (.int (0 : Int32)), (.ref b1)] tg → Steps p.tables e below S0 tg := by rw [hc0]; exact pre3
 have hsc0 : c0 = (0 : Int32) ∨ c0 = (1 : Int32) ∨ c0 = (2 : Int32) := by rw [hc0]; exact own_m3 _
 obtain ⟨cl5, Ar5, q5, S5, M5, H5, G5⟩ := id V1_2
 have hin5 := own_in (0 : Int32) S5 ⟨by decide, by decide⟩
 obtain ⟨T5, h5, X5, e5, W5, st5⟩ := stI X1 hx hZ e1 Ar5 (j := (0 : Int32)) hin5 (g := (mkF m 15 #[iv p0, iv p1, iv p2, iv p3, iv p4, iv p5, rv b1, un, un, un, un, un, un] [(.int c0), (.int (0 : Int32)), (.ref b1)])) rfl rfl (hb hby at_15)
 have V5_6 : Arv Z h5 b1 k1 .int (2 : Int32) [(.int c0), (.int (0 : Int32))] (.int (0 : Int32)) := Arv.set Ar5 q5 S5 M5 H5 G5 rfl W5 0 rfl (Nat.le_of_ble_eq_true rfl)
 have E5_7 := B1.wr W5
 have K5 := K1.wr W5 (Or.inr sz1)
 have O5 := O1.wr W5 gn1
 have CR5 : CHr Z EL0 s.vm h0 s.vm h5 := CR1.trans (CHr.wr W5 own_sf0 CR1.1)
 have hk := Nat.le_trans hk (Keep.of_wr W5).1
 have N5 := Fr.snoc X5 N0 gn1
 have pre8 : ∀ tg, AT p e below T5 m 29 #[iv p0, iv p1, iv p2, iv p3, iv p4, iv p5, rv b1, un, un, un, un, un, un] [(.int ((((p2.toUInt32 >>> ((8 : Int32) &&& 31).toUInt32).toInt32) &&& (255 : Int32)) % (3 : Int32))), (.int (1 : Int32)), (.ref b1)] tg → Steps p.tables e below S0 tg := fun tg kg => pre4 tg (by
  refine st5 _ ?_
  refine XS.aload X5.here hx rfl (hb hby at_16) rfl rfl ?_
  refine XS.iconst X5.here hx rfl (hb hby at_18) ?_
  refine XS.iloadN X5.here hx rfl (hb hby at_19) rfl ?_
  refine XS.bipush X5.here hx rfl (hb hby at_20) ?_
  refine XS.iushr X5.here hx rfl (hb hby at_22) rfl ?_
  refine XS.sipush X5.here hx rfl (hb hby at_23) ?_
  refine XS.iand X5.here hx rfl (hb hby at_26) rfl ?_
  refine XS.iconst X5.here hx rfl (hb hby at_27) ?_
  refine iremM X5 hx rfl (hb hby at_28) rfl (by decide) ?_
  exact kg)
 obtain ⟨c1, hc1⟩ : ∃ z, z = ((((p2.toUInt32 >>> ((8 : Int32) &&& 31).toUInt32).toInt32) &&& (255 : Int32)) % (3 : Int32)) := ⟨_, rfl⟩
 have pre9 : ∀ tg, AT p e below T5 m 29 #[iv p0, iv p1, iv p2, iv p3, iv p4, iv p5, rv b1, un, un, un, un, un, un] [(.int c1), (.int (1 : Int32)), (.ref b1)] tg → Steps p.tables e below S0 tg := by rw [hc1]; exact pre8
 have hsc1 : c1 = (0 : Int32) ∨ c1 = (1 : Int32) ∨ c1 = (2 : Int32) := by rw [hc1]; exact own_m3 _
 obtain ⟨cl10, Ar10, q10, S10, M10, H10, G10⟩ := id V5_6
 have hin10 := own_in (1 : Int32) S10 ⟨by decide, by decide⟩
 obtain ⟨T10, h10, X10, e10, W10, st10⟩ := stI X5 hx hZ e5 Ar10 (j := (1 : Int32)) hin10 (g := (mkF m 29 #[iv p0, iv p1, iv p2, iv p3, iv p4, iv p5, rv b1, un, un, un, un, un, un] [(.int c1), (.int (1 : Int32)), (.ref b1)])) rfl rfl (hb hby at_29)
 have V10_11 : Arv Z h10 b1 k1 .int (2 : Int32) [(.int c0), (.int c1)] (.int (0 : Int32)) := Arv.set Ar10 q10 S10 M10 H10 G10 rfl W10 1 rfl (Nat.le_of_ble_eq_true rfl)
 have E10_12 := E5_7.wr W10
 have K10 := K5.wr W10 (Or.inr sz1)
 have O10 := O5.wr W10 gn1
 have CR10 : CHr Z EL0 s.vm h0 s.vm h10 := CR5.trans (CHr.wr W10 own_sf0 CR5.1)
 have hk := Nat.le_trans hk (Keep.of_wr W10).1
 have N10 := Fr.snoc X10 N5 gn1
 obtain ⟨T13, h13, k13, X13, e13, E13, A13, B13, st13⟩ := newPE X10 hx hZ (ow hw 0 rfl) e10 (g := (mkF m 31 #[iv p0, iv p1, iv p2, iv p3, iv p4, iv p5, rv b1, un, un, un, un, un, un] [(.int (2 : Int32))])) rfl (hb hby at_31) rfl (by decide) (cap := 2) (by decide) (by decide) (by decide) (by decide) (ad := "[I") (by decide)
 obtain ⟨b13, g13⟩ : ∃ z, z = h10.size := ⟨_, rfl⟩
 rw [← g13] at A13 B13 st13
 have ne13_14 : b1 ≠ b13 := Nat.ne_of_lt (Nat.lt_of_lt_of_le (V10_11).lt (Nat.le_of_eq g13.symm))
 have gn13 : n0 ≤ b13 := Nat.le_trans (Nat.le_trans (Nat.le_of_eq O10.1.symm) O10.2.1) (Nat.le_of_eq g13.symm)
 have sz13 : h0.size ≤ b13 := Nat.le_trans K10.1 (Nat.le_of_eq g13.symm)
 have V13_15 := V10_11.ext E13
 have E13_16 := E10_12.ext E13
 have K13 := K10.ext E13
 have O13 := O10.ext E13
 have CR13 : CHr Z EL0 s.vm h0 s.vm h13 := CR10.trans (CHr.ext E13 CR10.1)
 have hk := Nat.le_trans hk E13.1
 have V13_17 : Arv Z h13 b13 k13 .int (2 : Int32) [(.int (0 : Int32)), (.int (0 : Int32))] (.int (0 : Int32)) := (Arv.new A13 (by decide)).pad (pad_rep [] (.int (0 : Int32)) 2)
 have pre18 : ∀ tg, AT p e below T13 m 45 #[iv p0, iv p1, iv p2, iv p3, iv p4, iv p5, rv b1, rv b13, un, un, un, un, un] [(.int ((p3 &&& (255 : Int32)) % (3 : Int32))), (.int (0 : Int32)), (.ref b13)] tg → Steps p.tables e below S0 tg := fun tg kg => pre9 tg (by
  refine st10 _ ?_
  refine XS.iconst X10.here hx rfl (hb hby at_30) ?_
  refine st13 _ ?_
  refine XS.astore X13.here hx rfl (hb hby at_33) rfl rfl (l' := #[iv p0, iv p1, iv p2, iv p3, iv p4, iv p5, rv b1, rv b13, un, un, un, un, un]) rfl ?_
  refine XS.aload X13.here hx rfl (hb hby at_35) rfl rfl ?_
  refine XS.iconst X13.here hx rfl (hb hby at_37) ?_
  refine XS.iloadN X13.here hx rfl (hb hby at_38) rfl ?_
  refine XS.sipush X13.here hx rfl (hb hby at_39) ?_
  refine XS.iand X13.here hx rfl (hb hby at_42) rfl ?_
  refine XS.iconst X13.here hx rfl (hb hby at_43) ?_
  refine iremM X13 hx rfl (hb hby at_44) rfl (by decide) ?_
  exact kg)
 obtain ⟨d0, hd0⟩ : ∃ z, z = ((p3 &&& (255 : Int32)) % (3 : Int32)) := ⟨_, rfl⟩
 have pre19 : ∀ tg, AT p e below T13 m 45 #[iv p0, iv p1, iv p2, iv p3, iv p4, iv p5, rv b1, rv b13, un, un, un, un, un] [(.int d0), (.int (0 : Int32)), (.ref b13)] tg → Steps p.tables e below S0 tg := by rw [hd0]; exact pre18
 have hsd0 : d0 = (0 : Int32) ∨ d0 = (1 : Int32) ∨ d0 = (2 : Int32) := by rw [hd0]; exact own_m3 _
 obtain ⟨cl20, Ar20, q20, S20, M20, H20, G20⟩ := id V13_17
 have hin20 := own_in (0 : Int32) S20 ⟨by decide, by decide⟩
 obtain ⟨T20, h20, X20, e20, W20, st20⟩ := stI X13 hx hZ e13 Ar20 (j := (0 : Int32)) hin20 (g := (mkF m 45 #[iv p0, iv p1, iv p2, iv p3, iv p4, iv p5, rv b1, rv b13, un, un, un, un, un] [(.int d0), (.int (0 : Int32)), (.ref b13)])) rfl rfl (hb hby at_45)
 have V20_21 : Arv Z h20 b13 k13 .int (2 : Int32) [(.int d0), (.int (0 : Int32))] (.int (0 : Int32)) := Arv.set Ar20 q20 S20 M20 H20 G20 rfl W20 0 rfl (Nat.le_of_ble_eq_true rfl)
 have V20_22 := V13_15.other W20 ne13_14
 have E20_23 := E13_16.wr W20
 have E20_24 := B13.wr W20
 have K20 := K13.wr W20 (Or.inr sz13)
 have O20 := O13.wr W20 gn13
 have CR20 : CHr Z EL0 s.vm h0 s.vm h20 := CR13.trans (CHr.wr W20 own_sf0 CR13.1)
 have hk := Nat.le_trans hk (Keep.of_wr W20).1
 have N20 := Fr.snoc X20 N10 gn13
 have pre25 : ∀ tg, AT p e below T20 m 59 #[iv p0, iv p1, iv p2, iv p3, iv p4, iv p5, rv b1, rv b13, un, un, un, un, un] [(.int ((((p3.toUInt32 >>> ((8 : Int32) &&& 31).toUInt32).toInt32) &&& (255 : Int32)) % (3 : Int32))), (.int (1 : Int32)), (.ref b13)] tg → Steps p.tables e below S0 tg := fun tg kg => pre19 tg (by
  refine st20 _ ?_
  refine XS.aload X20.here hx rfl (hb hby at_46) rfl rfl ?_
  refine XS.iconst X20.here hx rfl (hb hby at_48) ?_
  refine XS.iloadN X20.here hx rfl (hb hby at_49) rfl ?_
  refine XS.bipush X20.here hx rfl (hb hby at_50) ?_
  refine XS.iushr X20.here hx rfl (hb hby at_52) rfl ?_
  refine XS.sipush X20.here hx rfl (hb hby at_53) ?_
  refine XS.iand X20.here hx rfl (hb hby at_56) rfl ?_
  refine XS.iconst X20.here hx rfl (hb hby at_57) ?_
  refine iremM X20 hx rfl (hb hby at_58) rfl (by decide) ?_
  exact kg)
 obtain ⟨d1, hd1⟩ : ∃ z, z = ((((p3.toUInt32 >>> ((8 : Int32) &&& 31).toUInt32).toInt32) &&& (255 : Int32)) % (3 : Int32)) := ⟨_, rfl⟩
 have pre26 : ∀ tg, AT p e below T20 m 59 #[iv p0, iv p1, iv p2, iv p3, iv p4, iv p5, rv b1, rv b13, un, un, un, un, un] [(.int d1), (.int (1 : Int32)), (.ref b13)] tg → Steps p.tables e below S0 tg := by rw [hd1]; exact pre25
 have hsd1 : d1 = (0 : Int32) ∨ d1 = (1 : Int32) ∨ d1 = (2 : Int32) := by rw [hd1]; exact own_m3 _
 obtain ⟨cl27, Ar27, q27, S27, M27, H27, G27⟩ := id V20_21
 have hin27 := own_in (1 : Int32) S27 ⟨by decide, by decide⟩
 obtain ⟨T27, h27, X27, e27, W27, st27⟩ := stI X20 hx hZ e20 Ar27 (j := (1 : Int32)) hin27 (g := (mkF m 59 #[iv p0, iv p1, iv p2, iv p3, iv p4, iv p5, rv b1, rv b13, un, un, un, un, un] [(.int d1), (.int (1 : Int32)), (.ref b13)])) rfl rfl (hb hby at_59)
 have V27_28 : Arv Z h27 b13 k13 .int (2 : Int32) [(.int d0), (.int d1)] (.int (0 : Int32)) := Arv.set Ar27 q27 S27 M27 H27 G27 rfl W27 1 rfl (Nat.le_of_ble_eq_true rfl)
 have V27_29 := V20_22.other W27 ne13_14
 have E27_30 := E20_23.wr W27
 have E27_31 := E20_24.wr W27
 have K27 := K20.wr W27 (Or.inr sz13)
 have O27 := O20.wr W27 gn13
 have CR27 : CHr Z EL0 s.vm h0 s.vm h27 := CR20.trans (CHr.wr W27 own_sf0 CR20.1)
 have hk := Nat.le_trans hk (Keep.of_wr W27).1
 have N27 := Fr.snoc X27 N20 gn13
 have pre32 : ∀ tg, AT p e below T27 m 66 #[iv p0, iv p1, iv p2, iv p3, iv p4, iv p5, rv b1, rv b13, iv (p4 &&& (1 : Int32)), un, un, un, un] [] tg → Steps p.tables e below S0 tg := fun tg kg => pre26 tg (by
  refine st27 _ ?_
  refine XS.iload X27.here hx rfl (hb hby at_60) rfl ?_
  refine XS.iconst X27.here hx rfl (hb hby at_62) ?_
  refine XS.iand X27.here hx rfl (hb hby at_63) rfl ?_
  refine XS.istore X27.here hx rfl (hb hby at_64) rfl (l' := #[iv p0, iv p1, iv p2, iv p3, iv p4, iv p5, rv b1, rv b13, iv (p4 &&& (1 : Int32)), un, un, un, un]) rfl ?_
  exact kg)
 obtain ⟨rw_, hrw_⟩ : ∃ z, z = (p4 &&& (1 : Int32)) := ⟨_, rfl⟩
 have pre33 : ∀ tg, AT p e below T27 m 66 #[iv p0, iv p1, iv p2, iv p3, iv p4, iv p5, rv b1, rv b13, iv rw_, un, un, un, un] [] tg → Steps p.tables e below S0 tg := by rw [hrw_]; exact pre32
 have hsrw_ : rw_ = (0 : Int32) ∨ rw_ = (1 : Int32) := by rw [hrw_]; exact own_a1 p4
 rcases hsrw_ with rfl | rfl
 ·
  have pre34 : ∀ tg, AT p e below T27 m 76 #[iv p0, iv p1, iv p2, iv p3, iv p4, iv p5, rv b1, rv b13, iv (0 : Int32), iv ((p5 &&& (255 : Int32)) % (3 : Int32)), un, un, un] [] tg → Steps p.tables e below S0 tg := fun tg kg => pre33 tg (by
   refine XS.iload X27.here hx rfl (hb hby at_66) rfl ?_
   refine XS.sipush X27.here hx rfl (hb hby at_68) ?_
   refine XS.iand X27.here hx rfl (hb hby at_71) rfl ?_
   refine XS.iconst X27.here hx rfl (hb hby at_72) ?_
   refine iremM X27 hx rfl (hb hby at_73) rfl (by decide) ?_
   refine XS.istore X27.here hx rfl (hb hby at_74) rfl (l' := #[iv p0, iv p1, iv p2, iv p3, iv p4, iv p5, rv b1, rv b13, iv (0 : Int32), iv ((p5 &&& (255 : Int32)) % (3 : Int32)), un, un, un]) rfl ?_
   exact kg)
  obtain ⟨cl, hcl⟩ : ∃ z, z = ((p5 &&& (255 : Int32)) % (3 : Int32)) := ⟨_, rfl⟩
  have pre35 : ∀ tg, AT p e below T27 m 76 #[iv p0, iv p1, iv p2, iv p3, iv p4, iv p5, rv b1, rv b13, iv (0 : Int32), iv cl, un, un, un] [] tg → Steps p.tables e below S0 tg := by rw [hcl]; exact pre34
  have hscl : cl = (0 : Int32) ∨ cl = (1 : Int32) ∨ cl = (2 : Int32) := by rw [hcl]; exact own_m3 _
  obtain ⟨T36, h36, X36, e36, E36, A36, D36, -, st36⟩ := newO X27 hx hZ hown (ow hw 1 rfl) (ow hw 2 rfl) (ow hw 3 rfl) e27 (g := (mkF m 76 #[iv p0, iv p1, iv p2, iv p3, iv p4, iv p5, rv b1, rv b13, iv (0 : Int32), iv cl, un, un, un] [])) rfl (hb hby at_76) (by decide) (by decide)
  obtain ⟨b36, g36⟩ : ∃ z, z = h27.size := ⟨_, rfl⟩
  rw [← g36] at A36 D36 st36
  have ne36_37 : b1 ≠ b36 := Nat.ne_of_lt (Nat.lt_of_lt_of_le (V27_29).lt (Nat.le_of_eq g36.symm))
  have ne36_38 : b13 ≠ b36 := Nat.ne_of_lt (Nat.lt_of_lt_of_le (V27_28).lt (Nat.le_of_eq g36.symm))
  have gn36 : n0 ≤ b36 := Nat.le_trans (Nat.le_trans (Nat.le_of_eq O27.1.symm) O27.2.1) (Nat.le_of_eq g36.symm)
  have sz36 : h0.size ≤ b36 := Nat.le_trans K27.1 (Nat.le_of_eq g36.symm)
  have V36_39 := V27_29.ext E36
  have E36_40 := E27_30.ext E36
  have V36_41 := V27_28.ext E36
  have E36_42 := E27_31.ext E36
  have K36 := K27.ext E36
  have O36 := O27.ext E36
  have CR36 : CHr Z EL0 s.vm h0 s.vm h36 := CR27.trans (CHr.ext E36 CR27.1)
  have hk := Nat.le_trans hk E36.1
  have F36_43 : Fld Z h36 b36 "com/example/filters_under_siege/filtersundersiege/SketchShape" "rows" "I" (.int (0 : Int32)) := D36 (Or.inr (ow hw 17 rfl)) (ty := .int) (by decide)
  have F36_44 : Fld Z h36 b36 "com/example/filters_under_siege/filtersundersiege/SketchShape" "width" "I" (.int (0 : Int32)) := D36 (Or.inr (ow hw 19 rfl)) (ty := .int) (by decide)
  obtain ⟨_, _, ⟨T45, L45, k45, n45⟩, -, X45, ⟨Lc45, hQ45, l45, y45, z45⟩, st45⟩ := X36.specialBack hx (y := y1) rfl hown (mvT hZ (ow hw 4 rfl)) (mvT hZ (ow hw 5 rfl)) (mvT hZ (ow hw 6 rfl)) (by decide) (backOf (W := 1) (rm1_3 l Z ar hw [] b36 h36 n0 O36 A36 F36_43 F36_44 gn36) hZ (ow hw 6 rfl) (ow hw 3 rfl) (by decide) (by decide)) (g := (mkF m 82 #[iv p0, iv p1, iv p2, iv p3, iv p4, iv p5, rv b1, rv b13, iv (0 : Int32), iv cl, un, un, un] [(.int (3 : Int32)), (.int (2 : Int32)), (.ref b36), (.ref b36)])) rfl (by rw [hml]; rfl) (Steps.refl _) (a := b36) (argsL := [(.int (2 : Int32)), (.int (3 : Int32))]) (rest := [(.ref b36)]) (lenOf pd_4 rfl) rfl (by show 2 * 0 + _ ≤ _; exact Nat.le_of_eq rfl) (hb hby at_82) (fun _ _ => ⟨rfl, e36, (by decide : 3 + 0 ≤ _), (by decide : 6 + 0 ≤ _)⟩)
  dsimp only [Pt.U, Pt.locs, Pt.cells, Pt.slots] at X45 l45 y45 z45 st45 hQ45
  subst l45 y45 z45
  obtain ⟨rfl, N45q, Kq45, u45_0, u45_1, u45_2⟩ := hQ45
  have N45 := Fr.app N27 N45q
  have V45_46 := V36_39.keep Kq45 (ninS ne36_37 nin0)
  have E45_47 := E36_40.keep Kq45
  have V45_48 := V36_41.keep Kq45 (ninS ne36_38 nin0)
  have E45_49 := E36_42.keep Kq45
  have E45_50 := A36.keep Kq45
  have K45 := K36.trans Kq45 (allS (Or.inr sz36) all0)
  have O45 := O36.keep Kq45 (allS gn36 all0)
  have CR45 : CHr Z EL0 s.vm h0 s.vm T45.heap := CR36.trans (CHr.keep Kq45 (allS own_sf0 all0) CR36.1)
  have hk := Nat.le_trans hk Kq45.1
  obtain ⟨T51, h51, X51, e51, E51, A51, D51, -, st51⟩ := newO X45 hx hZ hown (ow hw 20 rfl) (ow hw 21 rfl) (ow hw 22 rfl) rfl (g := (mkF m 87 #[iv p0, iv p1, iv p2, iv p3, iv p4, iv p5, rv b1, rv b13, iv (0 : Int32), iv cl, rv b36, un, un] [])) rfl (hb hby at_87) (by decide) (by decide)
  obtain ⟨b51, g51⟩ : ∃ z, z = T45.heap.size := ⟨_, rfl⟩
  rw [← g51] at A51 D51 st51
  have ne51_52 : b1 ≠ b51 := Nat.ne_of_lt (Nat.lt_of_lt_of_le (V45_46).lt (Nat.le_of_eq g51.symm))
  have ne51_53 : b13 ≠ b51 := Nat.ne_of_lt (Nat.lt_of_lt_of_le (V45_48).lt (Nat.le_of_eq g51.symm))
  have ne51_54 : b36 ≠ b51 := Nat.ne_of_lt (Nat.lt_of_lt_of_le (E45_50).lt (Nat.le_of_eq g51.symm))
  have gn51 : n0 ≤ b51 := Nat.le_trans (Nat.le_trans (Nat.le_of_eq O45.1.symm) O45.2.1) (Nat.le_of_eq g51.symm)
  have sz51 : h0.size ≤ b51 := Nat.le_trans K45.1 (Nat.le_of_eq g51.symm)
  have V51_55 := V45_46.ext E51
  have E51_56 := E45_47.ext E51
  have V51_57 := V45_48.ext E51
  have E51_58 := E45_49.ext E51
  have E51_59 := E45_50.ext E51
  have F51_60 := u45_1.ext E51
  have F51_61 := u45_2.ext E51
  have K51 := K45.ext E51
  have O51 := O45.ext E51
  have CR51 : CHr Z EL0 s.vm h0 s.vm h51 := CR45.trans (CHr.ext E51 CR45.1)
  have hk := Nat.le_trans hk E51.1
  have F51_62 : Fld Z h51 b51 "com/example/filters_under_siege/filtersundersiege/KeeperPairs" "shape" "Lcom/example/filters_under_siege/filtersundersiege/SketchShape;" .null := D51 (Or.inr (ow hw 48 rfl)) (ty := (.object "com/example/filters_under_siege/filtersundersiege/SketchShape")) (by decide)
  have F51_63 : Fld Z h51 b51 "com/example/filters_under_siege/filtersundersiege/KeeperPairs" "knocksDown" "Ljava/util/function/LongPredicate;" .null := D51 (Or.inr (ow hw 50 rfl)) (ty := (.object "java/util/function/LongPredicate")) (by decide)
  have F51_64 : Fld Z h51 b51 "com/example/filters_under_siege/filtersundersiege/KeeperPairs" "fingerprints" "[I" .null := D51 (Or.inr (ow hw 57 rfl)) (ty := (.array .int)) (by decide)
  have F51_65 : Fld Z h51 b51 "com/example/filters_under_siege/filtersundersiege/KeeperPairs" "counts" "[J" .null := D51 (Or.inr (ow hw 60 rfl)) (ty := (.array .long)) (by decide)
  obtain ⟨_, _, ⟨T66, L66, k66, n66⟩, -, X66, hS66, hg66, ⟨Lc66, hQ66, l66, y66, z66, CRq66⟩, st66⟩ := X51.specialBackS hx (y := y4) rfl hown (mvT hZ (ow hw 23 rfl)) (mvT hZ (ow hw 24 rfl)) (mvT hZ (ow hw 25 rfl)) (by decide) (backOfSH (W := 1) (rm4_3 l Z ar hw [] b51 b36 w_lam k_lam h51 n0 O51 hEL HW A51 F51_62 F51_64 F51_65 F51_63 gn51 E51_59 F51_60 F51_61 (Ne.symm ne51_54)) hZ (ow hw 25 rfl) (ow hw 22 rfl) (by decide) (by decide) hEL CR51.1) (g := (mkF m 93 #[iv p0, iv p1, iv p2, iv p3, iv p4, iv p5, rv b1, rv b13, iv (0 : Int32), iv cl, rv b36, un, un] [(.ref b36), (.ref b51), (.ref b51)])) rfl (by rw [hml]; rfl) (Steps.refl _) (a := b51) (argsL := [(.ref b36)]) (rest := [(.ref b51)]) (lenOf pd_5 rfl) rfl (by show 2 * 0 + _ ≤ _; exact Nat.le_of_eq rfl) (hb hby at_93) (fun _ _ => ⟨rfl, e51, (by decide : 4 + 4 ≤ _), (by decide : 10 + 36 ≤ _)⟩)
  dsimp only [Pt.U, Pt.locs, Pt.cells, Pt.slots] at X66 l66 y66 z66 st66 hQ66 hS66 hg66 CRq66
  subst l66 y66 z66
  obtain ⟨X66, hS, hZ, hown⟩ := rebS hS (by rw [e51]; exact hk) X66 hS66 hg66 hZ hown
  have CR66 : CHr Z EL0 s.vm h0 T66.vm T66.heap := CR51.trans CRq66
  obtain ⟨fa_66, ca_66, kf_66, kc_66, rfl, N66q, Kq66, u66_0, u66_1, u66_2, u66_3, u66_4, u66_5, u66_6, u66_7, u66_8, u66_9, u66_10⟩ := hQ66
  have N66 := Fr.app N45 N66q
  have V66_67 := V51_55.keep Kq66 (ninS ne51_52 nin0)
  have E66_68 := E51_56.keep Kq66
  have V66_69 := V51_57.keep Kq66 (ninS ne51_53 nin0)
  have E66_70 := E51_58.keep Kq66
  have E66_71 := E51_59.keep Kq66
  have F66_72 := F51_60.keep Kq66 (ninS ne51_54 nin0)
  have F66_73 := F51_61.keep Kq66 (ninS ne51_54 nin0)
  have E66_74 := A51.keep Kq66
  have K66 := K51.trans Kq66 (allS (Or.inr sz51) all0)
  have O66 := O51.keep Kq66 (allS gn51 all0)
  have hk := Nat.le_trans hk Kq66.1
  have hk := Nat.le_refl (Array.size T66.heap)
  have sz75 : h0.size ≤ fa_66 := Nat.le_trans K51.1 u66_7
  have gn75 : n0 ≤ fa_66 := Nat.le_trans (Nat.le_trans (Nat.le_of_eq O51.1.symm) O51.2.1) u66_7
  have ne76 : b1 ≠ fa_66 := Nat.ne_of_lt (Nat.lt_of_lt_of_le (V51_55).lt u66_7)
  have ne77 : b13 ≠ fa_66 := Nat.ne_of_lt (Nat.lt_of_lt_of_le (V51_57).lt u66_7)
  have ne78 : b36 ≠ fa_66 := Nat.ne_of_lt (Nat.lt_of_lt_of_le (E51_59).lt u66_7)
  have ne79 : b51 ≠ fa_66 := Nat.ne_of_lt (Nat.lt_of_lt_of_le (A51).lt u66_7)
  have sz80 : h0.size ≤ ca_66 := Nat.le_trans K51.1 u66_8
  have gn80 : n0 ≤ ca_66 := Nat.le_trans (Nat.le_trans (Nat.le_of_eq O51.1.symm) O51.2.1) u66_8
  have ne81 : b1 ≠ ca_66 := Nat.ne_of_lt (Nat.lt_of_lt_of_le (V51_55).lt u66_8)
  have ne82 : b13 ≠ ca_66 := Nat.ne_of_lt (Nat.lt_of_lt_of_le (V51_57).lt u66_8)
  have ne83 : b36 ≠ ca_66 := Nat.ne_of_lt (Nat.lt_of_lt_of_le (E51_59).lt u66_8)
  have ne84 : b51 ≠ ca_66 := Nat.ne_of_lt (Nat.lt_of_lt_of_le (A51).lt u66_8)
  obtain ⟨cq85, kq85, q85a, q85b, q85c⟩ := isOf hZ rfl E66_74
  obtain ⟨_, _, ⟨T85, L85, k85, n85⟩, -, X85, ⟨Lc85, hQ85, l85, y85, z85⟩, st85⟩ := X66.virtualBack hx (y := y8) (z := y8) hown (mvT hZ (ow hw 61 rfl)) (mvT hZ (ow hw 62 rfl)) (notFace_of_selects (args := #[]) (mvT hZ (ow hw 64 rfl))) (mvT hZ (ow hw 64 rfl)) (mvT hZ (ow hw 63 rfl)) (by decide) (backOf (W := 0) (rm8_3 l Z ar hw [] b51 b1 p0 w_lam k_lam b36 k1 c0 c1 fa_66 ca_66 kf_66 kc_66 (0 : Int32) (0 : Int32) (0 : Int32) (0 : Int32) (0 : Int32) (0 : Int32) (0 : Int64) (0 : Int64) (0 : Int64) (0 : Int64) (0 : Int64) (0 : Int64) T66.heap n0 O66 HW E66_74 u66_1 E66_71 F66_73 u66_3 u66_4 u66_2 E66_68 V66_67 u66_9 u66_10 u66_5 u66_6 gn75 gn80 ne76 hsc0 hsc1) hZ (ow hw 65 rfl) (ow hw 22 rfl) (by decide) (by decide)) q85a q85c (g := (mkF m 103 #[iv p0, iv p1, iv p2, iv p3, iv p4, iv p5, rv b1, rv b13, iv (0 : Int32), iv cl, rv b36, rv b51, un] [(.int p0), (.ref b1), (.ref b51)])) rfl (by rw [hml]; rfl) (Steps.refl _) (argsL := [(.ref b1), (.int p0)]) (rest := []) (lenOf pd_6 rfl) rfl (by show 2 * 0 + _ ≤ _; exact Nat.le_of_eq rfl) (hb hby at_103) (fun _ _ => ⟨rfl, rfl, (by decide : 8 + 0 ≤ _), (by decide : 46 + 0 ≤ _)⟩)
  dsimp only [Pt.U, Pt.locs, Pt.cells, Pt.slots] at X85 l85 y85 z85 st85 hQ85
  subst l85 y85 z85
  obtain ⟨rfl, N85q, Kq85, u85_0, u85_1⟩ := hQ85
  have N85 := Fr.app N66 N85q
  have V85_86 := V66_67.keep Kq85 (ninS ne76 (ninS ne81 nin0))
  have E85_87 := E66_68.keep Kq85
  have V85_88 := V66_69.keep Kq85 (ninS ne77 (ninS ne82 nin0))
  have E85_89 := E66_70.keep Kq85
  have E85_90 := E66_71.keep Kq85
  have F85_91 := F66_72.keep Kq85 (ninS ne78 (ninS ne83 nin0))
  have F85_92 := F66_73.keep Kq85 (ninS ne78 (ninS ne83 nin0))
  have E85_93 := E66_74.keep Kq85
  have F85_94 := u66_1.keep Kq85 (ninS ne79 (ninS ne84 nin0))
  have F85_95 := u66_2.keep Kq85 (ninS ne79 (ninS ne84 nin0))
  have F85_96 := u66_3.keep Kq85 (ninS ne79 (ninS ne84 nin0))
  have F85_97 := u66_4.keep Kq85 (ninS ne79 (ninS ne84 nin0))
  have E85_98 := u66_9.keep Kq85
  have E85_99 := u66_10.keep Kq85
  have K85 := K66.trans Kq85 (allS (Or.inr sz75) (allS (Or.inr sz80) all0))
  have O85 := O66.keep Kq85 (allS gn75 (allS gn80 all0))
  have CR85 : CHr Z EL0 s.vm h0 T66.vm T85.heap := CR66.trans (CHr.keep Kq85 (allS own_sf0 (allS own_sf0 all0)) CR66.1)
  have hk := Nat.le_trans hk Kq85.1
  have Vz100 : Arv Z T85.heap fa_66 kf_66 .int (6 : Int32) [(.int (pI c0 (0 : Int32) p0 (0 : Int32))), (.int (pI c0 (1 : Int32) p0 (0 : Int32))), (.int (pI c0 (2 : Int32) p0 (0 : Int32))), (.int (pI c1 (0 : Int32) p0 (0 : Int32))), (.int (pI c1 (1 : Int32) p0 (0 : Int32))), (.int (pI c1 (2 : Int32) p0 (0 : Int32)))] (.int (0 : Int32)) := by have q := u85_0; simp only [own_nc0, own_nf0] at q; exact q
  have Vz101 : Arv Z T85.heap ca_66 kc_66 .long (6 : Int32) [(.long (pJ c0 (0 : Int32) (1 : Int64) (0 : Int64))), (.long (pJ c0 (1 : Int32) (1 : Int64) (0 : Int64))), (.long (pJ c0 (2 : Int32) (1 : Int64) (0 : Int64))), (.long (pJ c1 (0 : Int32) (1 : Int64) (0 : Int64))), (.long (pJ c1 (1 : Int32) (1 : Int64) (0 : Int64))), (.long (pJ c1 (2 : Int32) (1 : Int64) (0 : Int64)))] (.long (0 : Int64)) := by have q := u85_1; simp only [own_nc0, own_nf0] at q; exact q
  obtain ⟨cq102, kq102, q102a, q102b, q102c⟩ := isOf hZ rfl E85_93
  obtain ⟨_, _, ⟨T102, L102, k102, n102⟩, -, X102, ⟨Lc102, hQ102, l102, y102, z102⟩, st102⟩ := X85.virtualBack hx (y := y8) (z := y8) hown (mvT hZ (ow hw 61 rfl)) (mvT hZ (ow hw 62 rfl)) (notFace_of_selects (args := #[]) (mvT hZ (ow hw 64 rfl))) (mvT hZ (ow hw 64 rfl)) (mvT hZ (ow hw 63 rfl)) (by decide) (backOf (W := 0) (rm8_3 l Z ar hw [] b51 b13 p1 w_lam k_lam b36 k13 d0 d1 fa_66 ca_66 kf_66 kc_66 (pI c0 (0 : Int32) p0 (0 : Int32)) (pI c0 (1 : Int32) p0 (0 : Int32)) (pI c0 (2 : Int32) p0 (0 : Int32)) (pI c1 (0 : Int32) p0 (0 : Int32)) (pI c1 (1 : Int32) p0 (0 : Int32)) (pI c1 (2 : Int32) p0 (0 : Int32)) (pJ c0 (0 : Int32) (1 : Int64) (0 : Int64)) (pJ c0 (1 : Int32) (1 : Int64) (0 : Int64)) (pJ c0 (2 : Int32) (1 : Int64) (0 : Int64)) (pJ c1 (0 : Int32) (1 : Int64) (0 : Int64)) (pJ c1 (1 : Int32) (1 : Int64) (0 : Int64)) (pJ c1 (2 : Int32) (1 : Int64) (0 : Int64)) T85.heap n0 O85 HW E85_93 F85_94 E85_90 F85_92 F85_96 F85_97 F85_95 E85_89 V85_88 E85_98 E85_99 Vz100 Vz101 gn75 gn80 ne77 hsd0 hsd1) hZ (ow hw 65 rfl) (ow hw 22 rfl) (by decide) (by decide)) q102a q102c (g := (mkF m 111 #[iv p0, iv p1, iv p2, iv p3, iv p4, iv p5, rv b1, rv b13, iv (0 : Int32), iv cl, rv b36, rv b51, un] [(.int p1), (.ref b13), (.ref b51)])) rfl (by rw [hml]; rfl) (Steps.refl _) (argsL := [(.ref b13), (.int p1)]) (rest := []) (lenOf pd_6 rfl) rfl (by show 2 * 0 + _ ≤ _; exact Nat.le_of_eq rfl) (hb hby at_111) (fun _ _ => ⟨rfl, rfl, (by decide : 8 + 0 ≤ _), (by decide : 46 + 0 ≤ _)⟩)
  dsimp only [Pt.U, Pt.locs, Pt.cells, Pt.slots] at X102 l102 y102 z102 st102 hQ102
  subst l102 y102 z102
  obtain ⟨rfl, N102q, Kq102, u102_0, u102_1⟩ := hQ102
  have N102 := Fr.app N85 N102q
  have V102_103 := V85_86.keep Kq102 (ninS ne76 (ninS ne81 nin0))
  have E102_104 := E85_87.keep Kq102
  have V102_105 := V85_88.keep Kq102 (ninS ne77 (ninS ne82 nin0))
  have E102_106 := E85_89.keep Kq102
  have E102_107 := E85_90.keep Kq102
  have F102_108 := F85_91.keep Kq102 (ninS ne78 (ninS ne83 nin0))
  have F102_109 := F85_92.keep Kq102 (ninS ne78 (ninS ne83 nin0))
  have E102_110 := E85_93.keep Kq102
  have F102_111 := F85_94.keep Kq102 (ninS ne79 (ninS ne84 nin0))
  have F102_112 := F85_95.keep Kq102 (ninS ne79 (ninS ne84 nin0))
  have F102_113 := F85_96.keep Kq102 (ninS ne79 (ninS ne84 nin0))
  have F102_114 := F85_97.keep Kq102 (ninS ne79 (ninS ne84 nin0))
  have E102_115 := E85_98.keep Kq102
  have E102_116 := E85_99.keep Kq102
  have K102 := K85.trans Kq102 (allS (Or.inr sz75) (allS (Or.inr sz80) all0))
  have O102 := O85.keep Kq102 (allS gn75 (allS gn80 all0))
  have CR102 : CHr Z EL0 s.vm h0 T66.vm T102.heap := CR85.trans (CHr.keep Kq102 (allS own_sf0 (allS own_sf0 all0)) CR85.1)
  have hk := Nat.le_trans hk Kq102.1
  obtain ⟨cq117, kq117, q117a, q117b, q117c⟩ := isOf hZ rfl E102_110
  obtain ⟨_, _, ⟨T117, L117, k117, n117⟩, -, X117, ⟨Lc117, hQ117, l117, y117, z117⟩, st117⟩ := X102.virtualBack hx (y := y11) (z := y11) hown (mvT hZ (ow hw 76 rfl)) (mvT hZ (ow hw 77 rfl)) (notFace_of_selects (args := #[]) (mvT hZ (ow hw 79 rfl))) (mvT hZ (ow hw 79 rfl)) (mvT hZ (ow hw 78 rfl)) (by decide) (backOf (W := 0) (rm11_3_0 l Z ar hw [] b51 cl b36 fa_66 kf_66 (pI d0 (0 : Int32) (nf (sJ3 d0 (pJ c0 (0 : Int32) (1 : Int64) (0 : Int64)) (pJ c0 (1 : Int32) (1 : Int64) (0 : Int64)) (pJ c0 (2 : Int32) (1 : Int64) (0 : Int64))) (sI3 d0 (pI c0 (0 : Int32) p0 (0 : Int32)) (pI c0 (1 : Int32) p0 (0 : Int32)) (pI c0 (2 : Int32) p0 (0 : Int32))) p1) (pI c0 (0 : Int32) p0 (0 : Int32))) (pI d0 (1 : Int32) (nf (sJ3 d0 (pJ c0 (0 : Int32) (1 : Int64) (0 : Int64)) (pJ c0 (1 : Int32) (1 : Int64) (0 : Int64)) (pJ c0 (2 : Int32) (1 : Int64) (0 : Int64))) (sI3 d0 (pI c0 (0 : Int32) p0 (0 : Int32)) (pI c0 (1 : Int32) p0 (0 : Int32)) (pI c0 (2 : Int32) p0 (0 : Int32))) p1) (pI c0 (1 : Int32) p0 (0 : Int32))) (pI d0 (2 : Int32) (nf (sJ3 d0 (pJ c0 (0 : Int32) (1 : Int64) (0 : Int64)) (pJ c0 (1 : Int32) (1 : Int64) (0 : Int64)) (pJ c0 (2 : Int32) (1 : Int64) (0 : Int64))) (sI3 d0 (pI c0 (0 : Int32) p0 (0 : Int32)) (pI c0 (1 : Int32) p0 (0 : Int32)) (pI c0 (2 : Int32) p0 (0 : Int32))) p1) (pI c0 (2 : Int32) p0 (0 : Int32))) (pI d1 (0 : Int32) (nf (sJ3 d1 (pJ c1 (0 : Int32) (1 : Int64) (0 : Int64)) (pJ c1 (1 : Int32) (1 : Int64) (0 : Int64)) (pJ c1 (2 : Int32) (1 : Int64) (0 : Int64))) (sI3 d1 (pI c1 (0 : Int32) p0 (0 : Int32)) (pI c1 (1 : Int32) p0 (0 : Int32)) (pI c1 (2 : Int32) p0 (0 : Int32))) p1) (pI c1 (0 : Int32) p0 (0 : Int32))) (pI d1 (1 : Int32) (nf (sJ3 d1 (pJ c1 (0 : Int32) (1 : Int64) (0 : Int64)) (pJ c1 (1 : Int32) (1 : Int64) (0 : Int64)) (pJ c1 (2 : Int32) (1 : Int64) (0 : Int64))) (sI3 d1 (pI c1 (0 : Int32) p0 (0 : Int32)) (pI c1 (1 : Int32) p0 (0 : Int32)) (pI c1 (2 : Int32) p0 (0 : Int32))) p1) (pI c1 (1 : Int32) p0 (0 : Int32))) (pI d1 (2 : Int32) (nf (sJ3 d1 (pJ c1 (0 : Int32) (1 : Int64) (0 : Int64)) (pJ c1 (1 : Int32) (1 : Int64) (0 : Int64)) (pJ c1 (2 : Int32) (1 : Int64) (0 : Int64))) (sI3 d1 (pI c1 (0 : Int32) p0 (0 : Int32)) (pI c1 (1 : Int32) p0 (0 : Int32)) (pI c1 (2 : Int32) p0 (0 : Int32))) p1) (pI c1 (2 : Int32) p0 (0 : Int32))) T102.heap n0 O102 E102_110 F102_111 E102_107 F102_109 F102_113 u102_0 hscl) hZ (ow hw 80 rfl) (ow hw 22 rfl) (by decide) (by decide)) q117a q117c (g := (mkF m 120 #[iv p0, iv p1, iv p2, iv p3, iv p4, iv p5, rv b1, rv b13, iv (0 : Int32), iv cl, rv b36, rv b51, un] [(.int cl), (.int (0 : Int32)), (.ref b51)])) rfl (by rw [hml]; rfl) (Steps.refl _) (argsL := [(.int (0 : Int32)), (.int cl)]) (rest := []) (lenOf pd_7 rfl) rfl (by show 2 * 0 + _ ≤ _; exact Nat.le_of_eq rfl) (hb hby at_120) (fun _ _ => ⟨rfl, rfl, (by decide : 8 + 0 ≤ _), (by decide : 46 + 0 ≤ _)⟩)
  dsimp only [Pt.U, Pt.locs, Pt.cells, Pt.slots] at X117 l117 y117 z117 st117 hQ117
  subst l117 y117 z117
  obtain ⟨rfl, N117q, e117⟩ := hQ117
  have N117 := Fr.app N102 N117q
  have pre118 : ∀ tg, AT p e below T117 m 125 #[iv p0, iv p1, iv p2, iv p3, iv p4, iv p5, rv b1, rv b13, iv (0 : Int32), iv cl, rv b36, rv b51, iv (sI3 cl (pI d0 (0 : Int32) (nf (sJ3 d0 (pJ c0 (0 : Int32) (1 : Int64) (0 : Int64)) (pJ c0 (1 : Int32) (1 : Int64) (0 : Int64)) (pJ c0 (2 : Int32) (1 : Int64) (0 : Int64))) (sI3 d0 (pI c0 (0 : Int32) p0 (0 : Int32)) (pI c0 (1 : Int32) p0 (0 : Int32)) (pI c0 (2 : Int32) p0 (0 : Int32))) p1) (pI c0 (0 : Int32) p0 (0 : Int32))) (pI d0 (1 : Int32) (nf (sJ3 d0 (pJ c0 (0 : Int32) (1 : Int64) (0 : Int64)) (pJ c0 (1 : Int32) (1 : Int64) (0 : Int64)) (pJ c0 (2 : Int32) (1 : Int64) (0 : Int64))) (sI3 d0 (pI c0 (0 : Int32) p0 (0 : Int32)) (pI c0 (1 : Int32) p0 (0 : Int32)) (pI c0 (2 : Int32) p0 (0 : Int32))) p1) (pI c0 (1 : Int32) p0 (0 : Int32))) (pI d0 (2 : Int32) (nf (sJ3 d0 (pJ c0 (0 : Int32) (1 : Int64) (0 : Int64)) (pJ c0 (1 : Int32) (1 : Int64) (0 : Int64)) (pJ c0 (2 : Int32) (1 : Int64) (0 : Int64))) (sI3 d0 (pI c0 (0 : Int32) p0 (0 : Int32)) (pI c0 (1 : Int32) p0 (0 : Int32)) (pI c0 (2 : Int32) p0 (0 : Int32))) p1) (pI c0 (2 : Int32) p0 (0 : Int32))))] [] tg → Steps p.tables e below S0 tg := fun tg kg => pre35 tg (by
   refine st36 _ ?_
   refine XS.dup X36.here hx rfl (hb hby at_79) rfl rfl ?_
   refine XS.iconst X36.here hx rfl (hb hby at_80) ?_
   refine XS.iconst X36.here hx rfl (hb hby at_81) ?_
   refine st45.trans ?_
   refine XS.astore X45.here hx rfl (hb hby at_85) rfl rfl (l' := #[iv p0, iv p1, iv p2, iv p3, iv p4, iv p5, rv b1, rv b13, iv (0 : Int32), iv cl, rv b36, un, un]) rfl ?_
   refine st51 _ ?_
   refine XS.dup X51.here hx rfl (hb hby at_90) rfl rfl ?_
   refine XS.aload X51.here hx rfl (hb hby at_91) rfl rfl ?_
   refine st66.trans ?_
   refine XS.astore X66.here hx rfl (hb hby at_96) rfl rfl (l' := #[iv p0, iv p1, iv p2, iv p3, iv p4, iv p5, rv b1, rv b13, iv (0 : Int32), iv cl, rv b36, rv b51, un]) rfl ?_
   refine XS.aload X66.here hx rfl (hb hby at_98) rfl rfl ?_
   show AT p e below T66 m 100 #[iv p0, iv p1, iv p2, iv p3, iv p4, iv p5, rv b1, rv b13, iv (0 : Int32), iv cl, rv b36, rv b51, un] [(.ref b51)] _
   refine XS.aload X66.here hx rfl (hb hby at_100) rfl rfl ?_
   refine XS.iloadN X66.here hx rfl (hb hby at_102) rfl ?_
   refine st85.trans ?_
   refine XS.aload X85.here hx rfl (hb hby at_106) rfl rfl ?_
   refine XS.aload X85.here hx rfl (hb hby at_108) rfl rfl ?_
   refine XS.iloadN X85.here hx rfl (hb hby at_110) rfl ?_
   refine st102.trans ?_
   refine XS.aload X102.here hx rfl (hb hby at_114) rfl rfl ?_
   refine XS.iload X102.here hx rfl (hb hby at_116) rfl ?_
   refine XS.iload X102.here hx rfl (hb hby at_118) rfl ?_
   refine st117.trans ?_
   refine XS.istore X117.here hx rfl (hb hby at_123) rfl (l' := #[iv p0, iv p1, iv p2, iv p3, iv p4, iv p5, rv b1, rv b13, iv (0 : Int32), iv cl, rv b36, rv b51, iv (sI3 cl (pI d0 (0 : Int32) (nf (sJ3 d0 (pJ c0 (0 : Int32) (1 : Int64) (0 : Int64)) (pJ c0 (1 : Int32) (1 : Int64) (0 : Int64)) (pJ c0 (2 : Int32) (1 : Int64) (0 : Int64))) (sI3 d0 (pI c0 (0 : Int32) p0 (0 : Int32)) (pI c0 (1 : Int32) p0 (0 : Int32)) (pI c0 (2 : Int32) p0 (0 : Int32))) p1) (pI c0 (0 : Int32) p0 (0 : Int32))) (pI d0 (1 : Int32) (nf (sJ3 d0 (pJ c0 (0 : Int32) (1 : Int64) (0 : Int64)) (pJ c0 (1 : Int32) (1 : Int64) (0 : Int64)) (pJ c0 (2 : Int32) (1 : Int64) (0 : Int64))) (sI3 d0 (pI c0 (0 : Int32) p0 (0 : Int32)) (pI c0 (1 : Int32) p0 (0 : Int32)) (pI c0 (2 : Int32) p0 (0 : Int32))) p1) (pI c0 (1 : Int32) p0 (0 : Int32))) (pI d0 (2 : Int32) (nf (sJ3 d0 (pJ c0 (0 : Int32) (1 : Int64) (0 : Int64)) (pJ c0 (1 : Int32) (1 : Int64) (0 : Int64)) (pJ c0 (2 : Int32) (1 : Int64) (0 : Int64))) (sI3 d0 (pI c0 (0 : Int32) p0 (0 : Int32)) (pI c0 (1 : Int32) p0 (0 : Int32)) (pI c0 (2 : Int32) p0 (0 : Int32))) p1) (pI c0 (2 : Int32) p0 (0 : Int32))))]) rfl ?_
   exact kg)
  obtain ⟨gt, hgt⟩ : ∃ z, z = (sI3 cl (pI d0 (0 : Int32) (nf (sJ3 d0 (pJ c0 (0 : Int32) (1 : Int64) (0 : Int64)) (pJ c0 (1 : Int32) (1 : Int64) (0 : Int64)) (pJ c0 (2 : Int32) (1 : Int64) (0 : Int64))) (sI3 d0 (pI c0 (0 : Int32) p0 (0 : Int32)) (pI c0 (1 : Int32) p0 (0 : Int32)) (pI c0 (2 : Int32) p0 (0 : Int32))) p1) (pI c0 (0 : Int32) p0 (0 : Int32))) (pI d0 (1 : Int32) (nf (sJ3 d0 (pJ c0 (0 : Int32) (1 : Int64) (0 : Int64)) (pJ c0 (1 : Int32) (1 : Int64) (0 : Int64)) (pJ c0 (2 : Int32) (1 : Int64) (0 : Int64))) (sI3 d0 (pI c0 (0 : Int32) p0 (0 : Int32)) (pI c0 (1 : Int32) p0 (0 : Int32)) (pI c0 (2 : Int32) p0 (0 : Int32))) p1) (pI c0 (1 : Int32) p0 (0 : Int32))) (pI d0 (2 : Int32) (nf (sJ3 d0 (pJ c0 (0 : Int32) (1 : Int64) (0 : Int64)) (pJ c0 (1 : Int32) (1 : Int64) (0 : Int64)) (pJ c0 (2 : Int32) (1 : Int64) (0 : Int64))) (sI3 d0 (pI c0 (0 : Int32) p0 (0 : Int32)) (pI c0 (1 : Int32) p0 (0 : Int32)) (pI c0 (2 : Int32) p0 (0 : Int32))) p1) (pI c0 (2 : Int32) p0 (0 : Int32)))) := ⟨_, rfl⟩
  have pre119 : ∀ tg, AT p e below T117 m 125 #[iv p0, iv p1, iv p2, iv p3, iv p4, iv p5, rv b1, rv b13, iv (0 : Int32), iv cl, rv b36, rv b51, iv gt] [] tg → Steps p.tables e below S0 tg := by rw [hgt]; exact pre118
  obtain ⟨cl120, Ar120, q120, S120, N120, H120, G120⟩ := id V102_105
  have hin120 := own_in (0 : Int32) S120 ⟨by decide, by decide⟩
  have hat120 : cl120.slots[((0 : Int32)).toNatClampNeg]? = some (.int d0) := Has.at H120 hin120 rfl
  have pre121 : ∀ tg, AT p e below T117 m 132 #[iv p0, iv p1, iv p2, iv p3, iv p4, iv p5, rv b1, rv b13, iv (0 : Int32), iv cl, rv b36, rv b51, iv gt] [(.int cl), (.int d0)] tg → Steps p.tables e below S0 tg := fun tg kg => pre119 tg (by
   refine XS.aload X117.here hx rfl (hb hby at_125) rfl rfl ?_
   refine XS.iload X117.here hx rfl (hb hby at_127) rfl ?_
   refine X117.iaload hx (j := (0 : Int32)) (v := (.int d0)) (by rw [e117]; exact Ar120.1) (State.isArrayOf_alike hZ.alike Ar120.2.1) Ar120.2.2 hin120 hat120 (g := (mkF m 129 #[iv p0, iv p1, iv p2, iv p3, iv p4, iv p5, rv b1, rv b13, iv (0 : Int32), iv cl, rv b36, rv b51, iv gt] [(.int (0 : Int32)), (.ref b13)])) rfl rfl (hb hby at_129) _ ?_
   refine XS.iload X117.here hx rfl (hb hby at_130) rfl ?_
   exact kg)
  rcases Decidable.em (d0 = cl) with hc122 | hc122
  ·
   have hf123 : gt = p1 := by rw [hgt]; exact (own_fin hsc0 hsd0 hscl).1 hc122
   obtain ⟨fs, hr, hrun, hended, hRE⟩ := X117.leaveW hS (by rw [e117]; exact hk) (v := some (.int (1 : Int32))) (fun h => by rw [Bd.returns] at h; cases h)
   have CRf : CHr Z EL0 s.vm s.heap (T117.setFrames fs).vm (T117.setFrames fs).heap := by
     show CHr Z EL0 s.vm s.heap T117.vm T117.heap
     rw [hh, e117]
     exact CR102.trans (CHv.at X117 hZ hEL CR102.1)
   subst hS0
   refine ⟨_, _, pre121 _ ?_, hrun, hended, _, _, rfl, ?_, CRf, hRE.1, hRE.2.1, hRE.2.2.1, hRE.2.2.2.mono (by decide) (by decide)⟩
   ·
    refine XS.icmpNo X117.here hx rfl (hb hby at_132) rfl (XT.ii_ne_f hc122) ?_
    refine XS.iload X117.here hx rfl (hb hby at_135) rfl ?_
    refine XS.iloadN X117.here hx rfl (hb hby at_137) rfl ?_
    show AT p e below T117 m 138 #[iv p0, iv p1, iv p2, iv p3, iv p4, iv p5, rv b1, rv b13, iv (0 : Int32), iv cl, rv b36, rv b51, iv gt] [(.int p1), (.int gt)] _
    refine XS.icmpNo X117.here hx rfl (hb hby at_138) rfl (XT.ii_ne_f (hf123 : gt = p1)) ?_
    refine XS.iconst X117.here hx rfl (hb hby at_141) ?_
    refine XS.goto X117.here hx rfl (pc0 := 142) (pc' := 146) rfl (hb hby at_142) (by decide) (by decide) ?_
    exact retN X117 hx (t := .boolean) Bd.returns (by simp) (hb hby at_146) hr
   ·
    show Q0 Z p0 p1 p2 p3 p4 p5 w_lam k_lam h0 n0 _ T117.heap _
    rw [e117]
    exact ⟨rfl, N117⟩
  ·
   obtain ⟨cl124, Ar124, q124, S124, N124, H124, G124⟩ := id V102_103
   have hin124 := own_in (0 : Int32) S124 ⟨by decide, by decide⟩
   have hat124 : cl124.slots[((0 : Int32)).toNatClampNeg]? = some (.int c0) := Has.at H124 hin124 rfl
   have pre125 : ∀ tg, AT p e below T117 m 154 #[iv p0, iv p1, iv p2, iv p3, iv p4, iv p5, rv b1, rv b13, iv (0 : Int32), iv cl, rv b36, rv b51, iv gt] [(.int cl), (.int c0)] tg → Steps p.tables e below S0 tg := fun tg kg => pre121 tg (by
    refine XS.icmpYes X117.here hx rfl (pc0 := 132) (pc' := 147) rfl (hb hby at_132) rfl (XT.ii_ne_t hc122) (by decide) (by decide) ?_
    refine XS.aload X117.here hx rfl (hb hby at_147) rfl rfl ?_
    refine XS.iload X117.here hx rfl (hb hby at_149) rfl ?_
    refine X117.iaload hx (j := (0 : Int32)) (v := (.int c0)) (by rw [e117]; exact Ar124.1) (State.isArrayOf_alike hZ.alike Ar124.2.1) Ar124.2.2 hin124 hat124 (g := (mkF m 151 #[iv p0, iv p1, iv p2, iv p3, iv p4, iv p5, rv b1, rv b13, iv (0 : Int32), iv cl, rv b36, rv b51, iv gt] [(.int (0 : Int32)), (.ref b1)])) rfl rfl (hb hby at_151) _ ?_
    refine XS.iload X117.here hx rfl (hb hby at_152) rfl ?_
    exact kg)
   rcases Decidable.em (c0 = cl) with hc126 | hc126
   ·
    have hf127 : gt = p0 := by rw [hgt]; exact (own_fin hsc0 hsd0 hscl).2.1 hc122 hc126
    obtain ⟨fs, hr, hrun, hended, hRE⟩ := X117.leaveW hS (by rw [e117]; exact hk) (v := some (.int (1 : Int32))) (fun h => by rw [Bd.returns] at h; cases h)
    have CRf : CHr Z EL0 s.vm s.heap (T117.setFrames fs).vm (T117.setFrames fs).heap := by
      show CHr Z EL0 s.vm s.heap T117.vm T117.heap
      rw [hh, e117]
      exact CR102.trans (CHv.at X117 hZ hEL CR102.1)
    subst hS0
    refine ⟨_, _, pre125 _ ?_, hrun, hended, _, _, rfl, ?_, CRf, hRE.1, hRE.2.1, hRE.2.2.1, hRE.2.2.2.mono (by decide) (by decide)⟩
    ·
     refine XS.icmpNo X117.here hx rfl (hb hby at_154) rfl (XT.ii_ne_f hc126) ?_
     refine XS.iload X117.here hx rfl (hb hby at_157) rfl ?_
     refine XS.iloadN X117.here hx rfl (hb hby at_159) rfl ?_
     show AT p e below T117 m 160 #[iv p0, iv p1, iv p2, iv p3, iv p4, iv p5, rv b1, rv b13, iv (0 : Int32), iv cl, rv b36, rv b51, iv gt] [(.int p0), (.int gt)] _
     refine XS.icmpNo X117.here hx rfl (hb hby at_160) rfl (XT.ii_ne_f (hf127 : gt = p0)) ?_
     refine XS.iconst X117.here hx rfl (hb hby at_163) ?_
     refine XS.goto X117.here hx rfl (pc0 := 164) (pc' := 168) rfl (hb hby at_164) (by decide) (by decide) ?_
     show AT p e below T117 m 168 #[iv p0, iv p1, iv p2, iv p3, iv p4, iv p5, rv b1, rv b13, iv (0 : Int32), iv cl, rv b36, rv b51, iv gt] [(.int (1 : Int32))] _
     exact retN X117 hx (t := .boolean) Bd.returns (by simp) (hb hby at_168) hr
    ·
     show Q0 Z p0 p1 p2 p3 p4 p5 w_lam k_lam h0 n0 _ T117.heap _
     rw [e117]
     exact ⟨rfl, N117⟩
   ·
    obtain ⟨cq128, kq128, q128a, q128b, q128c⟩ := isOf hZ e117 E102_110
    obtain ⟨_, _, ⟨T128, L128, k128, n128⟩, -, X128, ⟨Lc128, hQ128, l128, y128, z128⟩, st128⟩ := X117.virtualBack hx (y := y12) (z := y12) hown (mvT hZ (ow hw 81 rfl)) (mvT hZ (ow hw 82 rfl)) (notFace_of_selects (args := #[]) (mvT hZ (ow hw 84 rfl))) (mvT hZ (ow hw 84 rfl)) (mvT hZ (ow hw 83 rfl)) (by decide) (backOf (W := 0) (rm12_3_0 l Z ar hw [] b51 cl b36 ca_66 kc_66 (pJ d0 (0 : Int32) (nc (sJ3 d0 (pJ c0 (0 : Int32) (1 : Int64) (0 : Int64)) (pJ c0 (1 : Int32) (1 : Int64) (0 : Int64)) (pJ c0 (2 : Int32) (1 : Int64) (0 : Int64))) (sI3 d0 (pI c0 (0 : Int32) p0 (0 : Int32)) (pI c0 (1 : Int32) p0 (0 : Int32)) (pI c0 (2 : Int32) p0 (0 : Int32))) p1) (pJ c0 (0 : Int32) (1 : Int64) (0 : Int64))) (pJ d0 (1 : Int32) (nc (sJ3 d0 (pJ c0 (0 : Int32) (1 : Int64) (0 : Int64)) (pJ c0 (1 : Int32) (1 : Int64) (0 : Int64)) (pJ c0 (2 : Int32) (1 : Int64) (0 : Int64))) (sI3 d0 (pI c0 (0 : Int32) p0 (0 : Int32)) (pI c0 (1 : Int32) p0 (0 : Int32)) (pI c0 (2 : Int32) p0 (0 : Int32))) p1) (pJ c0 (1 : Int32) (1 : Int64) (0 : Int64))) (pJ d0 (2 : Int32) (nc (sJ3 d0 (pJ c0 (0 : Int32) (1 : Int64) (0 : Int64)) (pJ c0 (1 : Int32) (1 : Int64) (0 : Int64)) (pJ c0 (2 : Int32) (1 : Int64) (0 : Int64))) (sI3 d0 (pI c0 (0 : Int32) p0 (0 : Int32)) (pI c0 (1 : Int32) p0 (0 : Int32)) (pI c0 (2 : Int32) p0 (0 : Int32))) p1) (pJ c0 (2 : Int32) (1 : Int64) (0 : Int64))) (pJ d1 (0 : Int32) (nc (sJ3 d1 (pJ c1 (0 : Int32) (1 : Int64) (0 : Int64)) (pJ c1 (1 : Int32) (1 : Int64) (0 : Int64)) (pJ c1 (2 : Int32) (1 : Int64) (0 : Int64))) (sI3 d1 (pI c1 (0 : Int32) p0 (0 : Int32)) (pI c1 (1 : Int32) p0 (0 : Int32)) (pI c1 (2 : Int32) p0 (0 : Int32))) p1) (pJ c1 (0 : Int32) (1 : Int64) (0 : Int64))) (pJ d1 (1 : Int32) (nc (sJ3 d1 (pJ c1 (0 : Int32) (1 : Int64) (0 : Int64)) (pJ c1 (1 : Int32) (1 : Int64) (0 : Int64)) (pJ c1 (2 : Int32) (1 : Int64) (0 : Int64))) (sI3 d1 (pI c1 (0 : Int32) p0 (0 : Int32)) (pI c1 (1 : Int32) p0 (0 : Int32)) (pI c1 (2 : Int32) p0 (0 : Int32))) p1) (pJ c1 (1 : Int32) (1 : Int64) (0 : Int64))) (pJ d1 (2 : Int32) (nc (sJ3 d1 (pJ c1 (0 : Int32) (1 : Int64) (0 : Int64)) (pJ c1 (1 : Int32) (1 : Int64) (0 : Int64)) (pJ c1 (2 : Int32) (1 : Int64) (0 : Int64))) (sI3 d1 (pI c1 (0 : Int32) p0 (0 : Int32)) (pI c1 (1 : Int32) p0 (0 : Int32)) (pI c1 (2 : Int32) p0 (0 : Int32))) p1) (pJ c1 (2 : Int32) (1 : Int64) (0 : Int64))) T102.heap n0 O102 E102_110 F102_111 E102_107 F102_109 F102_114 u102_1 hscl) hZ (ow hw 85 rfl) (ow hw 22 rfl) (by decide) (by decide)) q128a q128c (g := (mkF m 175 #[iv p0, iv p1, iv p2, iv p3, iv p4, iv p5, rv b1, rv b13, iv (0 : Int32), iv cl, rv b36, rv b51, iv gt] [(.int cl), (.int (0 : Int32)), (.ref b51)])) rfl (by rw [hml]; rfl) (Steps.refl _) (argsL := [(.int (0 : Int32)), (.int cl)]) (rest := []) (lenOf pd_8 rfl) rfl (by show 2 * 0 + _ ≤ _; exact Nat.le_of_eq rfl) (hb hby at_175) (fun _ _ => ⟨rfl, e117, (by decide : 8 + 0 ≤ _), (by decide : 46 + 0 ≤ _)⟩)
    dsimp only [Pt.U, Pt.locs, Pt.cells, Pt.slots] at X128 l128 y128 z128 st128 hQ128
    subst l128 y128 z128
    obtain ⟨rfl, N128q, e128⟩ := hQ128
    have N128 := Fr.app N117 N128q
    have hf129 : (sJ3 cl (pJ d0 (0 : Int32) (nc (sJ3 d0 (pJ c0 (0 : Int32) (1 : Int64) (0 : Int64)) (pJ c0 (1 : Int32) (1 : Int64) (0 : Int64)) (pJ c0 (2 : Int32) (1 : Int64) (0 : Int64))) (sI3 d0 (pI c0 (0 : Int32) p0 (0 : Int32)) (pI c0 (1 : Int32) p0 (0 : Int32)) (pI c0 (2 : Int32) p0 (0 : Int32))) p1) (pJ c0 (0 : Int32) (1 : Int64) (0 : Int64))) (pJ d0 (1 : Int32) (nc (sJ3 d0 (pJ c0 (0 : Int32) (1 : Int64) (0 : Int64)) (pJ c0 (1 : Int32) (1 : Int64) (0 : Int64)) (pJ c0 (2 : Int32) (1 : Int64) (0 : Int64))) (sI3 d0 (pI c0 (0 : Int32) p0 (0 : Int32)) (pI c0 (1 : Int32) p0 (0 : Int32)) (pI c0 (2 : Int32) p0 (0 : Int32))) p1) (pJ c0 (1 : Int32) (1 : Int64) (0 : Int64))) (pJ d0 (2 : Int32) (nc (sJ3 d0 (pJ c0 (0 : Int32) (1 : Int64) (0 : Int64)) (pJ c0 (1 : Int32) (1 : Int64) (0 : Int64)) (pJ c0 (2 : Int32) (1 : Int64) (0 : Int64))) (sI3 d0 (pI c0 (0 : Int32) p0 (0 : Int32)) (pI c0 (1 : Int32) p0 (0 : Int32)) (pI c0 (2 : Int32) p0 (0 : Int32))) p1) (pJ c0 (2 : Int32) (1 : Int64) (0 : Int64)))) = (0 : Int64) := (own_fin hsc0 hsd0 hscl).2.2 hc122 hc126
    obtain ⟨fs, hr, hrun, hended, hRE⟩ := X128.leaveW hS (by rw [e128]; exact hk) (v := some (.int (1 : Int32))) (fun h => by rw [Bd.returns] at h; cases h)
    have CRf : CHr Z EL0 s.vm s.heap (T128.setFrames fs).vm (T128.setFrames fs).heap := by
      show CHr Z EL0 s.vm s.heap T128.vm T128.heap
      rw [hh, e128]
      exact CR102.trans (CHv.at X128 hZ hEL CR102.1)
    subst hS0
    refine ⟨_, _, pre125 _ ?_, hrun, hended, _, _, rfl, ?_, CRf, hRE.1, hRE.2.1, hRE.2.2.1, hRE.2.2.2.mono (by decide) (by decide)⟩
    ·
     refine XS.icmpYes X117.here hx rfl (pc0 := 154) (pc' := 169) rfl (hb hby at_154) rfl (XT.ii_ne_t hc126) (by decide) (by decide) ?_
     refine XS.aload X117.here hx rfl (hb hby at_169) rfl rfl ?_
     refine XS.iload X117.here hx rfl (hb hby at_171) rfl ?_
     refine XS.iload X117.here hx rfl (hb hby at_173) rfl ?_
     refine st128.trans ?_
     show AT p e below T128 m 178 #[iv p0, iv p1, iv p2, iv p3, iv p4, iv p5, rv b1, rv b13, iv (0 : Int32), iv cl, rv b36, rv b51, iv gt] [(.long (sJ3 cl (pJ d0 (0 : Int32) (nc (sJ3 d0 (pJ c0 (0 : Int32) (1 : Int64) (0 : Int64)) (pJ c0 (1 : Int32) (1 : Int64) (0 : Int64)) (pJ c0 (2 : Int32) (1 : Int64) (0 : Int64))) (sI3 d0 (pI c0 (0 : Int32) p0 (0 : Int32)) (pI c0 (1 : Int32) p0 (0 : Int32)) (pI c0 (2 : Int32) p0 (0 : Int32))) p1) (pJ c0 (0 : Int32) (1 : Int64) (0 : Int64))) (pJ d0 (1 : Int32) (nc (sJ3 d0 (pJ c0 (0 : Int32) (1 : Int64) (0 : Int64)) (pJ c0 (1 : Int32) (1 : Int64) (0 : Int64)) (pJ c0 (2 : Int32) (1 : Int64) (0 : Int64))) (sI3 d0 (pI c0 (0 : Int32) p0 (0 : Int32)) (pI c0 (1 : Int32) p0 (0 : Int32)) (pI c0 (2 : Int32) p0 (0 : Int32))) p1) (pJ c0 (1 : Int32) (1 : Int64) (0 : Int64))) (pJ d0 (2 : Int32) (nc (sJ3 d0 (pJ c0 (0 : Int32) (1 : Int64) (0 : Int64)) (pJ c0 (1 : Int32) (1 : Int64) (0 : Int64)) (pJ c0 (2 : Int32) (1 : Int64) (0 : Int64))) (sI3 d0 (pI c0 (0 : Int32) p0 (0 : Int32)) (pI c0 (1 : Int32) p0 (0 : Int32)) (pI c0 (2 : Int32) p0 (0 : Int32))) p1) (pJ c0 (2 : Int32) (1 : Int64) (0 : Int64)))))] _
     refine XS.lconst X128.here hx rfl (hb hby at_178) ?_
     refine XS.lcmp X128.here hx rfl (hb hby at_179) rfl ?_
     show AT p e below T128 m 180 #[iv p0, iv p1, iv p2, iv p3, iv p4, iv p5, rv b1, rv b13, iv (0 : Int32), iv cl, rv b36, rv b51, iv gt] [(.int (XT.cmpL (sJ3 cl (pJ d0 (0 : Int32) (nc (sJ3 d0 (pJ c0 (0 : Int32) (1 : Int64) (0 : Int64)) (pJ c0 (1 : Int32) (1 : Int64) (0 : Int64)) (pJ c0 (2 : Int32) (1 : Int64) (0 : Int64))) (sI3 d0 (pI c0 (0 : Int32) p0 (0 : Int32)) (pI c0 (1 : Int32) p0 (0 : Int32)) (pI c0 (2 : Int32) p0 (0 : Int32))) p1) (pJ c0 (0 : Int32) (1 : Int64) (0 : Int64))) (pJ d0 (1 : Int32) (nc (sJ3 d0 (pJ c0 (0 : Int32) (1 : Int64) (0 : Int64)) (pJ c0 (1 : Int32) (1 : Int64) (0 : Int64)) (pJ c0 (2 : Int32) (1 : Int64) (0 : Int64))) (sI3 d0 (pI c0 (0 : Int32) p0 (0 : Int32)) (pI c0 (1 : Int32) p0 (0 : Int32)) (pI c0 (2 : Int32) p0 (0 : Int32))) p1) (pJ c0 (1 : Int32) (1 : Int64) (0 : Int64))) (pJ d0 (2 : Int32) (nc (sJ3 d0 (pJ c0 (0 : Int32) (1 : Int64) (0 : Int64)) (pJ c0 (1 : Int32) (1 : Int64) (0 : Int64)) (pJ c0 (2 : Int32) (1 : Int64) (0 : Int64))) (sI3 d0 (pI c0 (0 : Int32) p0 (0 : Int32)) (pI c0 (1 : Int32) p0 (0 : Int32)) (pI c0 (2 : Int32) p0 (0 : Int32))) p1) (pJ c0 (2 : Int32) (1 : Int64) (0 : Int64)))) (0 : Int64)))] _
     refine XS.ifNo X128.here hx rfl (hb hby at_180) rfl (XT.ll_ne_f (hf129 : (sJ3 cl (pJ d0 (0 : Int32) (nc (sJ3 d0 (pJ c0 (0 : Int32) (1 : Int64) (0 : Int64)) (pJ c0 (1 : Int32) (1 : Int64) (0 : Int64)) (pJ c0 (2 : Int32) (1 : Int64) (0 : Int64))) (sI3 d0 (pI c0 (0 : Int32) p0 (0 : Int32)) (pI c0 (1 : Int32) p0 (0 : Int32)) (pI c0 (2 : Int32) p0 (0 : Int32))) p1) (pJ c0 (0 : Int32) (1 : Int64) (0 : Int64))) (pJ d0 (1 : Int32) (nc (sJ3 d0 (pJ c0 (0 : Int32) (1 : Int64) (0 : Int64)) (pJ c0 (1 : Int32) (1 : Int64) (0 : Int64)) (pJ c0 (2 : Int32) (1 : Int64) (0 : Int64))) (sI3 d0 (pI c0 (0 : Int32) p0 (0 : Int32)) (pI c0 (1 : Int32) p0 (0 : Int32)) (pI c0 (2 : Int32) p0 (0 : Int32))) p1) (pJ c0 (1 : Int32) (1 : Int64) (0 : Int64))) (pJ d0 (2 : Int32) (nc (sJ3 d0 (pJ c0 (0 : Int32) (1 : Int64) (0 : Int64)) (pJ c0 (1 : Int32) (1 : Int64) (0 : Int64)) (pJ c0 (2 : Int32) (1 : Int64) (0 : Int64))) (sI3 d0 (pI c0 (0 : Int32) p0 (0 : Int32)) (pI c0 (1 : Int32) p0 (0 : Int32)) (pI c0 (2 : Int32) p0 (0 : Int32))) p1) (pJ c0 (2 : Int32) (1 : Int64) (0 : Int64)))) = (0 : Int64))) ?_
     refine XS.iconst X128.here hx rfl (hb hby at_183) ?_
     refine XS.goto X128.here hx rfl (pc0 := 184) (pc' := 188) rfl (hb hby at_184) (by decide) (by decide) ?_
     exact retN X128 hx (t := .boolean) Bd.returns (by simp) (hb hby at_188) hr
    ·
     show Q0 Z p0 p1 p2 p3 p4 p5 w_lam k_lam h0 n0 _ T128.heap _
     rw [e128]
     exact ⟨rfl, N128⟩
 ·
  have pre130 : ∀ tg, AT p e below T27 m 76 #[iv p0, iv p1, iv p2, iv p3, iv p4, iv p5, rv b1, rv b13, iv (1 : Int32), iv ((p5 &&& (255 : Int32)) % (3 : Int32)), un, un, un] [] tg → Steps p.tables e below S0 tg := fun tg kg => pre33 tg (by
   refine XS.iload X27.here hx rfl (hb hby at_66) rfl ?_
   refine XS.sipush X27.here hx rfl (hb hby at_68) ?_
   refine XS.iand X27.here hx rfl (hb hby at_71) rfl ?_
   refine XS.iconst X27.here hx rfl (hb hby at_72) ?_
   refine iremM X27 hx rfl (hb hby at_73) rfl (by decide) ?_
   refine XS.istore X27.here hx rfl (hb hby at_74) rfl (l' := #[iv p0, iv p1, iv p2, iv p3, iv p4, iv p5, rv b1, rv b13, iv (1 : Int32), iv ((p5 &&& (255 : Int32)) % (3 : Int32)), un, un, un]) rfl ?_
   exact kg)
  obtain ⟨cl, hcl⟩ : ∃ z, z = ((p5 &&& (255 : Int32)) % (3 : Int32)) := ⟨_, rfl⟩
  have pre131 : ∀ tg, AT p e below T27 m 76 #[iv p0, iv p1, iv p2, iv p3, iv p4, iv p5, rv b1, rv b13, iv (1 : Int32), iv cl, un, un, un] [] tg → Steps p.tables e below S0 tg := by rw [hcl]; exact pre130
  have hscl : cl = (0 : Int32) ∨ cl = (1 : Int32) ∨ cl = (2 : Int32) := by rw [hcl]; exact own_m3 _
  obtain ⟨T132, h132, X132, e132, E132, A132, D132, -, st132⟩ := newO X27 hx hZ hown (ow hw 1 rfl) (ow hw 2 rfl) (ow hw 3 rfl) e27 (g := (mkF m 76 #[iv p0, iv p1, iv p2, iv p3, iv p4, iv p5, rv b1, rv b13, iv (1 : Int32), iv cl, un, un, un] [])) rfl (hb hby at_76) (by decide) (by decide)
  obtain ⟨b132, g132⟩ : ∃ z, z = h27.size := ⟨_, rfl⟩
  rw [← g132] at A132 D132 st132
  have ne132_133 : b1 ≠ b132 := Nat.ne_of_lt (Nat.lt_of_lt_of_le (V27_29).lt (Nat.le_of_eq g132.symm))
  have ne132_134 : b13 ≠ b132 := Nat.ne_of_lt (Nat.lt_of_lt_of_le (V27_28).lt (Nat.le_of_eq g132.symm))
  have gn132 : n0 ≤ b132 := Nat.le_trans (Nat.le_trans (Nat.le_of_eq O27.1.symm) O27.2.1) (Nat.le_of_eq g132.symm)
  have sz132 : h0.size ≤ b132 := Nat.le_trans K27.1 (Nat.le_of_eq g132.symm)
  have V132_135 := V27_29.ext E132
  have E132_136 := E27_30.ext E132
  have V132_137 := V27_28.ext E132
  have E132_138 := E27_31.ext E132
  have K132 := K27.ext E132
  have O132 := O27.ext E132
  have CR132 : CHr Z EL0 s.vm h0 s.vm h132 := CR27.trans (CHr.ext E132 CR27.1)
  have hk := Nat.le_trans hk E132.1
  have F132_139 : Fld Z h132 b132 "com/example/filters_under_siege/filtersundersiege/SketchShape" "rows" "I" (.int (0 : Int32)) := D132 (Or.inr (ow hw 17 rfl)) (ty := .int) (by decide)
  have F132_140 : Fld Z h132 b132 "com/example/filters_under_siege/filtersundersiege/SketchShape" "width" "I" (.int (0 : Int32)) := D132 (Or.inr (ow hw 19 rfl)) (ty := .int) (by decide)
  obtain ⟨_, _, ⟨T141, L141, k141, n141⟩, -, X141, ⟨Lc141, hQ141, l141, y141, z141⟩, st141⟩ := X132.specialBack hx (y := y1) rfl hown (mvT hZ (ow hw 4 rfl)) (mvT hZ (ow hw 5 rfl)) (mvT hZ (ow hw 6 rfl)) (by decide) (backOf (W := 1) (rm1_3 l Z ar hw [] b132 h132 n0 O132 A132 F132_139 F132_140 gn132) hZ (ow hw 6 rfl) (ow hw 3 rfl) (by decide) (by decide)) (g := (mkF m 82 #[iv p0, iv p1, iv p2, iv p3, iv p4, iv p5, rv b1, rv b13, iv (1 : Int32), iv cl, un, un, un] [(.int (3 : Int32)), (.int (2 : Int32)), (.ref b132), (.ref b132)])) rfl (by rw [hml]; rfl) (Steps.refl _) (a := b132) (argsL := [(.int (2 : Int32)), (.int (3 : Int32))]) (rest := [(.ref b132)]) (lenOf pd_4 rfl) rfl (by show 2 * 0 + _ ≤ _; exact Nat.le_of_eq rfl) (hb hby at_82) (fun _ _ => ⟨rfl, e132, (by decide : 3 + 0 ≤ _), (by decide : 6 + 0 ≤ _)⟩)
  dsimp only [Pt.U, Pt.locs, Pt.cells, Pt.slots] at X141 l141 y141 z141 st141 hQ141
  subst l141 y141 z141
  obtain ⟨rfl, N141q, Kq141, u141_0, u141_1, u141_2⟩ := hQ141
  have N141 := Fr.app N27 N141q
  have V141_142 := V132_135.keep Kq141 (ninS ne132_133 nin0)
  have E141_143 := E132_136.keep Kq141
  have V141_144 := V132_137.keep Kq141 (ninS ne132_134 nin0)
  have E141_145 := E132_138.keep Kq141
  have E141_146 := A132.keep Kq141
  have K141 := K132.trans Kq141 (allS (Or.inr sz132) all0)
  have O141 := O132.keep Kq141 (allS gn132 all0)
  have CR141 : CHr Z EL0 s.vm h0 s.vm T141.heap := CR132.trans (CHr.keep Kq141 (allS own_sf0 all0) CR132.1)
  have hk := Nat.le_trans hk Kq141.1
  obtain ⟨T147, h147, X147, e147, E147, A147, D147, -, st147⟩ := newO X141 hx hZ hown (ow hw 20 rfl) (ow hw 21 rfl) (ow hw 22 rfl) rfl (g := (mkF m 87 #[iv p0, iv p1, iv p2, iv p3, iv p4, iv p5, rv b1, rv b13, iv (1 : Int32), iv cl, rv b132, un, un] [])) rfl (hb hby at_87) (by decide) (by decide)
  obtain ⟨b147, g147⟩ : ∃ z, z = T141.heap.size := ⟨_, rfl⟩
  rw [← g147] at A147 D147 st147
  have ne147_148 : b1 ≠ b147 := Nat.ne_of_lt (Nat.lt_of_lt_of_le (V141_142).lt (Nat.le_of_eq g147.symm))
  have ne147_149 : b13 ≠ b147 := Nat.ne_of_lt (Nat.lt_of_lt_of_le (V141_144).lt (Nat.le_of_eq g147.symm))
  have ne147_150 : b132 ≠ b147 := Nat.ne_of_lt (Nat.lt_of_lt_of_le (E141_146).lt (Nat.le_of_eq g147.symm))
  have gn147 : n0 ≤ b147 := Nat.le_trans (Nat.le_trans (Nat.le_of_eq O141.1.symm) O141.2.1) (Nat.le_of_eq g147.symm)
  have sz147 : h0.size ≤ b147 := Nat.le_trans K141.1 (Nat.le_of_eq g147.symm)
  have V147_151 := V141_142.ext E147
  have E147_152 := E141_143.ext E147
  have V147_153 := V141_144.ext E147
  have E147_154 := E141_145.ext E147
  have E147_155 := E141_146.ext E147
  have F147_156 := u141_1.ext E147
  have F147_157 := u141_2.ext E147
  have K147 := K141.ext E147
  have O147 := O141.ext E147
  have CR147 : CHr Z EL0 s.vm h0 s.vm h147 := CR141.trans (CHr.ext E147 CR141.1)
  have hk := Nat.le_trans hk E147.1
  have F147_158 : Fld Z h147 b147 "com/example/filters_under_siege/filtersundersiege/KeeperPairs" "shape" "Lcom/example/filters_under_siege/filtersundersiege/SketchShape;" .null := D147 (Or.inr (ow hw 48 rfl)) (ty := (.object "com/example/filters_under_siege/filtersundersiege/SketchShape")) (by decide)
  have F147_159 : Fld Z h147 b147 "com/example/filters_under_siege/filtersundersiege/KeeperPairs" "knocksDown" "Ljava/util/function/LongPredicate;" .null := D147 (Or.inr (ow hw 50 rfl)) (ty := (.object "java/util/function/LongPredicate")) (by decide)
  have F147_160 : Fld Z h147 b147 "com/example/filters_under_siege/filtersundersiege/KeeperPairs" "fingerprints" "[I" .null := D147 (Or.inr (ow hw 57 rfl)) (ty := (.array .int)) (by decide)
  have F147_161 : Fld Z h147 b147 "com/example/filters_under_siege/filtersundersiege/KeeperPairs" "counts" "[J" .null := D147 (Or.inr (ow hw 60 rfl)) (ty := (.array .long)) (by decide)
  obtain ⟨_, _, ⟨T162, L162, k162, n162⟩, -, X162, hS162, hg162, ⟨Lc162, hQ162, l162, y162, z162, CRq162⟩, st162⟩ := X147.specialBackS hx (y := y4) rfl hown (mvT hZ (ow hw 23 rfl)) (mvT hZ (ow hw 24 rfl)) (mvT hZ (ow hw 25 rfl)) (by decide) (backOfSH (W := 1) (rm4_3 l Z ar hw [] b147 b132 w_lam k_lam h147 n0 O147 hEL HW A147 F147_158 F147_160 F147_161 F147_159 gn147 E147_155 F147_156 F147_157 (Ne.symm ne147_150)) hZ (ow hw 25 rfl) (ow hw 22 rfl) (by decide) (by decide) hEL CR147.1) (g := (mkF m 93 #[iv p0, iv p1, iv p2, iv p3, iv p4, iv p5, rv b1, rv b13, iv (1 : Int32), iv cl, rv b132, un, un] [(.ref b132), (.ref b147), (.ref b147)])) rfl (by rw [hml]; rfl) (Steps.refl _) (a := b147) (argsL := [(.ref b132)]) (rest := [(.ref b147)]) (lenOf pd_5 rfl) rfl (by show 2 * 0 + _ ≤ _; exact Nat.le_of_eq rfl) (hb hby at_93) (fun _ _ => ⟨rfl, e147, (by decide : 4 + 4 ≤ _), (by decide : 10 + 36 ≤ _)⟩)
  dsimp only [Pt.U, Pt.locs, Pt.cells, Pt.slots] at X162 l162 y162 z162 st162 hQ162 hS162 hg162 CRq162
  subst l162 y162 z162
  obtain ⟨X162, hS, hZ, hown⟩ := rebS hS (by rw [e147]; exact hk) X162 hS162 hg162 hZ hown
  have CR162 : CHr Z EL0 s.vm h0 T162.vm T162.heap := CR147.trans CRq162
  obtain ⟨fa_162, ca_162, kf_162, kc_162, rfl, N162q, Kq162, u162_0, u162_1, u162_2, u162_3, u162_4, u162_5, u162_6, u162_7, u162_8, u162_9, u162_10⟩ := hQ162
  have N162 := Fr.app N141 N162q
  have V162_163 := V147_151.keep Kq162 (ninS ne147_148 nin0)
  have E162_164 := E147_152.keep Kq162
  have V162_165 := V147_153.keep Kq162 (ninS ne147_149 nin0)
  have E162_166 := E147_154.keep Kq162
  have E162_167 := E147_155.keep Kq162
  have F162_168 := F147_156.keep Kq162 (ninS ne147_150 nin0)
  have F162_169 := F147_157.keep Kq162 (ninS ne147_150 nin0)
  have E162_170 := A147.keep Kq162
  have K162 := K147.trans Kq162 (allS (Or.inr sz147) all0)
  have O162 := O147.keep Kq162 (allS gn147 all0)
  have hk := Nat.le_trans hk Kq162.1
  have hk := Nat.le_refl (Array.size T162.heap)
  have sz171 : h0.size ≤ fa_162 := Nat.le_trans K147.1 u162_7
  have gn171 : n0 ≤ fa_162 := Nat.le_trans (Nat.le_trans (Nat.le_of_eq O147.1.symm) O147.2.1) u162_7
  have ne172 : b1 ≠ fa_162 := Nat.ne_of_lt (Nat.lt_of_lt_of_le (V147_151).lt u162_7)
  have ne173 : b13 ≠ fa_162 := Nat.ne_of_lt (Nat.lt_of_lt_of_le (V147_153).lt u162_7)
  have ne174 : b132 ≠ fa_162 := Nat.ne_of_lt (Nat.lt_of_lt_of_le (E147_155).lt u162_7)
  have ne175 : b147 ≠ fa_162 := Nat.ne_of_lt (Nat.lt_of_lt_of_le (A147).lt u162_7)
  have sz176 : h0.size ≤ ca_162 := Nat.le_trans K147.1 u162_8
  have gn176 : n0 ≤ ca_162 := Nat.le_trans (Nat.le_trans (Nat.le_of_eq O147.1.symm) O147.2.1) u162_8
  have ne177 : b1 ≠ ca_162 := Nat.ne_of_lt (Nat.lt_of_lt_of_le (V147_151).lt u162_8)
  have ne178 : b13 ≠ ca_162 := Nat.ne_of_lt (Nat.lt_of_lt_of_le (V147_153).lt u162_8)
  have ne179 : b132 ≠ ca_162 := Nat.ne_of_lt (Nat.lt_of_lt_of_le (E147_155).lt u162_8)
  have ne180 : b147 ≠ ca_162 := Nat.ne_of_lt (Nat.lt_of_lt_of_le (A147).lt u162_8)
  obtain ⟨cq181, kq181, q181a, q181b, q181c⟩ := isOf hZ rfl E162_170
  obtain ⟨_, _, ⟨T181, L181, k181, n181⟩, -, X181, ⟨Lc181, hQ181, l181, y181, z181⟩, st181⟩ := X162.virtualBack hx (y := y8) (z := y8) hown (mvT hZ (ow hw 61 rfl)) (mvT hZ (ow hw 62 rfl)) (notFace_of_selects (args := #[]) (mvT hZ (ow hw 64 rfl))) (mvT hZ (ow hw 64 rfl)) (mvT hZ (ow hw 63 rfl)) (by decide) (backOf (W := 0) (rm8_3 l Z ar hw [] b147 b1 p0 w_lam k_lam b132 k1 c0 c1 fa_162 ca_162 kf_162 kc_162 (0 : Int32) (0 : Int32) (0 : Int32) (0 : Int32) (0 : Int32) (0 : Int32) (0 : Int64) (0 : Int64) (0 : Int64) (0 : Int64) (0 : Int64) (0 : Int64) T162.heap n0 O162 HW E162_170 u162_1 E162_167 F162_169 u162_3 u162_4 u162_2 E162_164 V162_163 u162_9 u162_10 u162_5 u162_6 gn171 gn176 ne172 hsc0 hsc1) hZ (ow hw 65 rfl) (ow hw 22 rfl) (by decide) (by decide)) q181a q181c (g := (mkF m 103 #[iv p0, iv p1, iv p2, iv p3, iv p4, iv p5, rv b1, rv b13, iv (1 : Int32), iv cl, rv b132, rv b147, un] [(.int p0), (.ref b1), (.ref b147)])) rfl (by rw [hml]; rfl) (Steps.refl _) (argsL := [(.ref b1), (.int p0)]) (rest := []) (lenOf pd_6 rfl) rfl (by show 2 * 0 + _ ≤ _; exact Nat.le_of_eq rfl) (hb hby at_103) (fun _ _ => ⟨rfl, rfl, (by decide : 8 + 0 ≤ _), (by decide : 46 + 0 ≤ _)⟩)
  dsimp only [Pt.U, Pt.locs, Pt.cells, Pt.slots] at X181 l181 y181 z181 st181 hQ181
  subst l181 y181 z181
  obtain ⟨rfl, N181q, Kq181, u181_0, u181_1⟩ := hQ181
  have N181 := Fr.app N162 N181q
  have V181_182 := V162_163.keep Kq181 (ninS ne172 (ninS ne177 nin0))
  have E181_183 := E162_164.keep Kq181
  have V181_184 := V162_165.keep Kq181 (ninS ne173 (ninS ne178 nin0))
  have E181_185 := E162_166.keep Kq181
  have E181_186 := E162_167.keep Kq181
  have F181_187 := F162_168.keep Kq181 (ninS ne174 (ninS ne179 nin0))
  have F181_188 := F162_169.keep Kq181 (ninS ne174 (ninS ne179 nin0))
  have E181_189 := E162_170.keep Kq181
  have F181_190 := u162_1.keep Kq181 (ninS ne175 (ninS ne180 nin0))
  have F181_191 := u162_2.keep Kq181 (ninS ne175 (ninS ne180 nin0))
  have F181_192 := u162_3.keep Kq181 (ninS ne175 (ninS ne180 nin0))
  have F181_193 := u162_4.keep Kq181 (ninS ne175 (ninS ne180 nin0))
  have E181_194 := u162_9.keep Kq181
  have E181_195 := u162_10.keep Kq181
  have K181 := K162.trans Kq181 (allS (Or.inr sz171) (allS (Or.inr sz176) all0))
  have O181 := O162.keep Kq181 (allS gn171 (allS gn176 all0))
  have CR181 : CHr Z EL0 s.vm h0 T162.vm T181.heap := CR162.trans (CHr.keep Kq181 (allS own_sf0 (allS own_sf0 all0)) CR162.1)
  have hk := Nat.le_trans hk Kq181.1
  have Vz196 : Arv Z T181.heap fa_162 kf_162 .int (6 : Int32) [(.int (pI c0 (0 : Int32) p0 (0 : Int32))), (.int (pI c0 (1 : Int32) p0 (0 : Int32))), (.int (pI c0 (2 : Int32) p0 (0 : Int32))), (.int (pI c1 (0 : Int32) p0 (0 : Int32))), (.int (pI c1 (1 : Int32) p0 (0 : Int32))), (.int (pI c1 (2 : Int32) p0 (0 : Int32)))] (.int (0 : Int32)) := by have q := u181_0; simp only [own_nc0, own_nf0] at q; exact q
  have Vz197 : Arv Z T181.heap ca_162 kc_162 .long (6 : Int32) [(.long (pJ c0 (0 : Int32) (1 : Int64) (0 : Int64))), (.long (pJ c0 (1 : Int32) (1 : Int64) (0 : Int64))), (.long (pJ c0 (2 : Int32) (1 : Int64) (0 : Int64))), (.long (pJ c1 (0 : Int32) (1 : Int64) (0 : Int64))), (.long (pJ c1 (1 : Int32) (1 : Int64) (0 : Int64))), (.long (pJ c1 (2 : Int32) (1 : Int64) (0 : Int64)))] (.long (0 : Int64)) := by have q := u181_1; simp only [own_nc0, own_nf0] at q; exact q
  obtain ⟨cq198, kq198, q198a, q198b, q198c⟩ := isOf hZ rfl E181_189
  obtain ⟨_, _, ⟨T198, L198, k198, n198⟩, -, X198, ⟨Lc198, hQ198, l198, y198, z198⟩, st198⟩ := X181.virtualBack hx (y := y8) (z := y8) hown (mvT hZ (ow hw 61 rfl)) (mvT hZ (ow hw 62 rfl)) (notFace_of_selects (args := #[]) (mvT hZ (ow hw 64 rfl))) (mvT hZ (ow hw 64 rfl)) (mvT hZ (ow hw 63 rfl)) (by decide) (backOf (W := 0) (rm8_3 l Z ar hw [] b147 b13 p1 w_lam k_lam b132 k13 d0 d1 fa_162 ca_162 kf_162 kc_162 (pI c0 (0 : Int32) p0 (0 : Int32)) (pI c0 (1 : Int32) p0 (0 : Int32)) (pI c0 (2 : Int32) p0 (0 : Int32)) (pI c1 (0 : Int32) p0 (0 : Int32)) (pI c1 (1 : Int32) p0 (0 : Int32)) (pI c1 (2 : Int32) p0 (0 : Int32)) (pJ c0 (0 : Int32) (1 : Int64) (0 : Int64)) (pJ c0 (1 : Int32) (1 : Int64) (0 : Int64)) (pJ c0 (2 : Int32) (1 : Int64) (0 : Int64)) (pJ c1 (0 : Int32) (1 : Int64) (0 : Int64)) (pJ c1 (1 : Int32) (1 : Int64) (0 : Int64)) (pJ c1 (2 : Int32) (1 : Int64) (0 : Int64)) T181.heap n0 O181 HW E181_189 F181_190 E181_186 F181_188 F181_192 F181_193 F181_191 E181_185 V181_184 E181_194 E181_195 Vz196 Vz197 gn171 gn176 ne173 hsd0 hsd1) hZ (ow hw 65 rfl) (ow hw 22 rfl) (by decide) (by decide)) q198a q198c (g := (mkF m 111 #[iv p0, iv p1, iv p2, iv p3, iv p4, iv p5, rv b1, rv b13, iv (1 : Int32), iv cl, rv b132, rv b147, un] [(.int p1), (.ref b13), (.ref b147)])) rfl (by rw [hml]; rfl) (Steps.refl _) (argsL := [(.ref b13), (.int p1)]) (rest := []) (lenOf pd_6 rfl) rfl (by show 2 * 0 + _ ≤ _; exact Nat.le_of_eq rfl) (hb hby at_111) (fun _ _ => ⟨rfl, rfl, (by decide : 8 + 0 ≤ _), (by decide : 46 + 0 ≤ _)⟩)
  dsimp only [Pt.U, Pt.locs, Pt.cells, Pt.slots] at X198 l198 y198 z198 st198 hQ198
  subst l198 y198 z198
  obtain ⟨rfl, N198q, Kq198, u198_0, u198_1⟩ := hQ198
  have N198 := Fr.app N181 N198q
  have V198_199 := V181_182.keep Kq198 (ninS ne172 (ninS ne177 nin0))
  have E198_200 := E181_183.keep Kq198
  have V198_201 := V181_184.keep Kq198 (ninS ne173 (ninS ne178 nin0))
  have E198_202 := E181_185.keep Kq198
  have E198_203 := E181_186.keep Kq198
  have F198_204 := F181_187.keep Kq198 (ninS ne174 (ninS ne179 nin0))
  have F198_205 := F181_188.keep Kq198 (ninS ne174 (ninS ne179 nin0))
  have E198_206 := E181_189.keep Kq198
  have F198_207 := F181_190.keep Kq198 (ninS ne175 (ninS ne180 nin0))
  have F198_208 := F181_191.keep Kq198 (ninS ne175 (ninS ne180 nin0))
  have F198_209 := F181_192.keep Kq198 (ninS ne175 (ninS ne180 nin0))
  have F198_210 := F181_193.keep Kq198 (ninS ne175 (ninS ne180 nin0))
  have E198_211 := E181_194.keep Kq198
  have E198_212 := E181_195.keep Kq198
  have K198 := K181.trans Kq198 (allS (Or.inr sz171) (allS (Or.inr sz176) all0))
  have O198 := O181.keep Kq198 (allS gn171 (allS gn176 all0))
  have CR198 : CHr Z EL0 s.vm h0 T162.vm T198.heap := CR181.trans (CHr.keep Kq198 (allS own_sf0 (allS own_sf0 all0)) CR181.1)
  have hk := Nat.le_trans hk Kq198.1
  obtain ⟨cq213, kq213, q213a, q213b, q213c⟩ := isOf hZ rfl E198_206
  obtain ⟨_, _, ⟨T213, L213, k213, n213⟩, -, X213, ⟨Lc213, hQ213, l213, y213, z213⟩, st213⟩ := X198.virtualBack hx (y := y11) (z := y11) hown (mvT hZ (ow hw 76 rfl)) (mvT hZ (ow hw 77 rfl)) (notFace_of_selects (args := #[]) (mvT hZ (ow hw 79 rfl))) (mvT hZ (ow hw 79 rfl)) (mvT hZ (ow hw 78 rfl)) (by decide) (backOf (W := 0) (rm11_3_1 l Z ar hw [] b147 cl b132 fa_162 kf_162 (pI d0 (0 : Int32) (nf (sJ3 d0 (pJ c0 (0 : Int32) (1 : Int64) (0 : Int64)) (pJ c0 (1 : Int32) (1 : Int64) (0 : Int64)) (pJ c0 (2 : Int32) (1 : Int64) (0 : Int64))) (sI3 d0 (pI c0 (0 : Int32) p0 (0 : Int32)) (pI c0 (1 : Int32) p0 (0 : Int32)) (pI c0 (2 : Int32) p0 (0 : Int32))) p1) (pI c0 (0 : Int32) p0 (0 : Int32))) (pI d0 (1 : Int32) (nf (sJ3 d0 (pJ c0 (0 : Int32) (1 : Int64) (0 : Int64)) (pJ c0 (1 : Int32) (1 : Int64) (0 : Int64)) (pJ c0 (2 : Int32) (1 : Int64) (0 : Int64))) (sI3 d0 (pI c0 (0 : Int32) p0 (0 : Int32)) (pI c0 (1 : Int32) p0 (0 : Int32)) (pI c0 (2 : Int32) p0 (0 : Int32))) p1) (pI c0 (1 : Int32) p0 (0 : Int32))) (pI d0 (2 : Int32) (nf (sJ3 d0 (pJ c0 (0 : Int32) (1 : Int64) (0 : Int64)) (pJ c0 (1 : Int32) (1 : Int64) (0 : Int64)) (pJ c0 (2 : Int32) (1 : Int64) (0 : Int64))) (sI3 d0 (pI c0 (0 : Int32) p0 (0 : Int32)) (pI c0 (1 : Int32) p0 (0 : Int32)) (pI c0 (2 : Int32) p0 (0 : Int32))) p1) (pI c0 (2 : Int32) p0 (0 : Int32))) (pI d1 (0 : Int32) (nf (sJ3 d1 (pJ c1 (0 : Int32) (1 : Int64) (0 : Int64)) (pJ c1 (1 : Int32) (1 : Int64) (0 : Int64)) (pJ c1 (2 : Int32) (1 : Int64) (0 : Int64))) (sI3 d1 (pI c1 (0 : Int32) p0 (0 : Int32)) (pI c1 (1 : Int32) p0 (0 : Int32)) (pI c1 (2 : Int32) p0 (0 : Int32))) p1) (pI c1 (0 : Int32) p0 (0 : Int32))) (pI d1 (1 : Int32) (nf (sJ3 d1 (pJ c1 (0 : Int32) (1 : Int64) (0 : Int64)) (pJ c1 (1 : Int32) (1 : Int64) (0 : Int64)) (pJ c1 (2 : Int32) (1 : Int64) (0 : Int64))) (sI3 d1 (pI c1 (0 : Int32) p0 (0 : Int32)) (pI c1 (1 : Int32) p0 (0 : Int32)) (pI c1 (2 : Int32) p0 (0 : Int32))) p1) (pI c1 (1 : Int32) p0 (0 : Int32))) (pI d1 (2 : Int32) (nf (sJ3 d1 (pJ c1 (0 : Int32) (1 : Int64) (0 : Int64)) (pJ c1 (1 : Int32) (1 : Int64) (0 : Int64)) (pJ c1 (2 : Int32) (1 : Int64) (0 : Int64))) (sI3 d1 (pI c1 (0 : Int32) p0 (0 : Int32)) (pI c1 (1 : Int32) p0 (0 : Int32)) (pI c1 (2 : Int32) p0 (0 : Int32))) p1) (pI c1 (2 : Int32) p0 (0 : Int32))) T198.heap n0 O198 E198_206 F198_207 E198_203 F198_205 F198_209 u198_0 hscl) hZ (ow hw 80 rfl) (ow hw 22 rfl) (by decide) (by decide)) q213a q213c (g := (mkF m 120 #[iv p0, iv p1, iv p2, iv p3, iv p4, iv p5, rv b1, rv b13, iv (1 : Int32), iv cl, rv b132, rv b147, un] [(.int cl), (.int (1 : Int32)), (.ref b147)])) rfl (by rw [hml]; rfl) (Steps.refl _) (argsL := [(.int (1 : Int32)), (.int cl)]) (rest := []) (lenOf pd_7 rfl) rfl (by show 2 * 0 + _ ≤ _; exact Nat.le_of_eq rfl) (hb hby at_120) (fun _ _ => ⟨rfl, rfl, (by decide : 8 + 0 ≤ _), (by decide : 46 + 0 ≤ _)⟩)
  dsimp only [Pt.U, Pt.locs, Pt.cells, Pt.slots] at X213 l213 y213 z213 st213 hQ213
  subst l213 y213 z213
  obtain ⟨rfl, N213q, e213⟩ := hQ213
  have N213 := Fr.app N198 N213q
  have pre214 : ∀ tg, AT p e below T213 m 125 #[iv p0, iv p1, iv p2, iv p3, iv p4, iv p5, rv b1, rv b13, iv (1 : Int32), iv cl, rv b132, rv b147, iv (sI3 cl (pI d1 (0 : Int32) (nf (sJ3 d1 (pJ c1 (0 : Int32) (1 : Int64) (0 : Int64)) (pJ c1 (1 : Int32) (1 : Int64) (0 : Int64)) (pJ c1 (2 : Int32) (1 : Int64) (0 : Int64))) (sI3 d1 (pI c1 (0 : Int32) p0 (0 : Int32)) (pI c1 (1 : Int32) p0 (0 : Int32)) (pI c1 (2 : Int32) p0 (0 : Int32))) p1) (pI c1 (0 : Int32) p0 (0 : Int32))) (pI d1 (1 : Int32) (nf (sJ3 d1 (pJ c1 (0 : Int32) (1 : Int64) (0 : Int64)) (pJ c1 (1 : Int32) (1 : Int64) (0 : Int64)) (pJ c1 (2 : Int32) (1 : Int64) (0 : Int64))) (sI3 d1 (pI c1 (0 : Int32) p0 (0 : Int32)) (pI c1 (1 : Int32) p0 (0 : Int32)) (pI c1 (2 : Int32) p0 (0 : Int32))) p1) (pI c1 (1 : Int32) p0 (0 : Int32))) (pI d1 (2 : Int32) (nf (sJ3 d1 (pJ c1 (0 : Int32) (1 : Int64) (0 : Int64)) (pJ c1 (1 : Int32) (1 : Int64) (0 : Int64)) (pJ c1 (2 : Int32) (1 : Int64) (0 : Int64))) (sI3 d1 (pI c1 (0 : Int32) p0 (0 : Int32)) (pI c1 (1 : Int32) p0 (0 : Int32)) (pI c1 (2 : Int32) p0 (0 : Int32))) p1) (pI c1 (2 : Int32) p0 (0 : Int32))))] [] tg → Steps p.tables e below S0 tg := fun tg kg => pre131 tg (by
   refine st132 _ ?_
   refine XS.dup X132.here hx rfl (hb hby at_79) rfl rfl ?_
   refine XS.iconst X132.here hx rfl (hb hby at_80) ?_
   refine XS.iconst X132.here hx rfl (hb hby at_81) ?_
   refine st141.trans ?_
   refine XS.astore X141.here hx rfl (hb hby at_85) rfl rfl (l' := #[iv p0, iv p1, iv p2, iv p3, iv p4, iv p5, rv b1, rv b13, iv (1 : Int32), iv cl, rv b132, un, un]) rfl ?_
   refine st147 _ ?_
   refine XS.dup X147.here hx rfl (hb hby at_90) rfl rfl ?_
   refine XS.aload X147.here hx rfl (hb hby at_91) rfl rfl ?_
   refine st162.trans ?_
   refine XS.astore X162.here hx rfl (hb hby at_96) rfl rfl (l' := #[iv p0, iv p1, iv p2, iv p3, iv p4, iv p5, rv b1, rv b13, iv (1 : Int32), iv cl, rv b132, rv b147, un]) rfl ?_
   refine XS.aload X162.here hx rfl (hb hby at_98) rfl rfl ?_
   show AT p e below T162 m 100 #[iv p0, iv p1, iv p2, iv p3, iv p4, iv p5, rv b1, rv b13, iv (1 : Int32), iv cl, rv b132, rv b147, un] [(.ref b147)] _
   refine XS.aload X162.here hx rfl (hb hby at_100) rfl rfl ?_
   refine XS.iloadN X162.here hx rfl (hb hby at_102) rfl ?_
   refine st181.trans ?_
   refine XS.aload X181.here hx rfl (hb hby at_106) rfl rfl ?_
   refine XS.aload X181.here hx rfl (hb hby at_108) rfl rfl ?_
   refine XS.iloadN X181.here hx rfl (hb hby at_110) rfl ?_
   refine st198.trans ?_
   refine XS.aload X198.here hx rfl (hb hby at_114) rfl rfl ?_
   refine XS.iload X198.here hx rfl (hb hby at_116) rfl ?_
   refine XS.iload X198.here hx rfl (hb hby at_118) rfl ?_
   refine st213.trans ?_
   refine XS.istore X213.here hx rfl (hb hby at_123) rfl (l' := #[iv p0, iv p1, iv p2, iv p3, iv p4, iv p5, rv b1, rv b13, iv (1 : Int32), iv cl, rv b132, rv b147, iv (sI3 cl (pI d1 (0 : Int32) (nf (sJ3 d1 (pJ c1 (0 : Int32) (1 : Int64) (0 : Int64)) (pJ c1 (1 : Int32) (1 : Int64) (0 : Int64)) (pJ c1 (2 : Int32) (1 : Int64) (0 : Int64))) (sI3 d1 (pI c1 (0 : Int32) p0 (0 : Int32)) (pI c1 (1 : Int32) p0 (0 : Int32)) (pI c1 (2 : Int32) p0 (0 : Int32))) p1) (pI c1 (0 : Int32) p0 (0 : Int32))) (pI d1 (1 : Int32) (nf (sJ3 d1 (pJ c1 (0 : Int32) (1 : Int64) (0 : Int64)) (pJ c1 (1 : Int32) (1 : Int64) (0 : Int64)) (pJ c1 (2 : Int32) (1 : Int64) (0 : Int64))) (sI3 d1 (pI c1 (0 : Int32) p0 (0 : Int32)) (pI c1 (1 : Int32) p0 (0 : Int32)) (pI c1 (2 : Int32) p0 (0 : Int32))) p1) (pI c1 (1 : Int32) p0 (0 : Int32))) (pI d1 (2 : Int32) (nf (sJ3 d1 (pJ c1 (0 : Int32) (1 : Int64) (0 : Int64)) (pJ c1 (1 : Int32) (1 : Int64) (0 : Int64)) (pJ c1 (2 : Int32) (1 : Int64) (0 : Int64))) (sI3 d1 (pI c1 (0 : Int32) p0 (0 : Int32)) (pI c1 (1 : Int32) p0 (0 : Int32)) (pI c1 (2 : Int32) p0 (0 : Int32))) p1) (pI c1 (2 : Int32) p0 (0 : Int32))))]) rfl ?_
   exact kg)
  obtain ⟨gt, hgt⟩ : ∃ z, z = (sI3 cl (pI d1 (0 : Int32) (nf (sJ3 d1 (pJ c1 (0 : Int32) (1 : Int64) (0 : Int64)) (pJ c1 (1 : Int32) (1 : Int64) (0 : Int64)) (pJ c1 (2 : Int32) (1 : Int64) (0 : Int64))) (sI3 d1 (pI c1 (0 : Int32) p0 (0 : Int32)) (pI c1 (1 : Int32) p0 (0 : Int32)) (pI c1 (2 : Int32) p0 (0 : Int32))) p1) (pI c1 (0 : Int32) p0 (0 : Int32))) (pI d1 (1 : Int32) (nf (sJ3 d1 (pJ c1 (0 : Int32) (1 : Int64) (0 : Int64)) (pJ c1 (1 : Int32) (1 : Int64) (0 : Int64)) (pJ c1 (2 : Int32) (1 : Int64) (0 : Int64))) (sI3 d1 (pI c1 (0 : Int32) p0 (0 : Int32)) (pI c1 (1 : Int32) p0 (0 : Int32)) (pI c1 (2 : Int32) p0 (0 : Int32))) p1) (pI c1 (1 : Int32) p0 (0 : Int32))) (pI d1 (2 : Int32) (nf (sJ3 d1 (pJ c1 (0 : Int32) (1 : Int64) (0 : Int64)) (pJ c1 (1 : Int32) (1 : Int64) (0 : Int64)) (pJ c1 (2 : Int32) (1 : Int64) (0 : Int64))) (sI3 d1 (pI c1 (0 : Int32) p0 (0 : Int32)) (pI c1 (1 : Int32) p0 (0 : Int32)) (pI c1 (2 : Int32) p0 (0 : Int32))) p1) (pI c1 (2 : Int32) p0 (0 : Int32)))) := ⟨_, rfl⟩
  have pre215 : ∀ tg, AT p e below T213 m 125 #[iv p0, iv p1, iv p2, iv p3, iv p4, iv p5, rv b1, rv b13, iv (1 : Int32), iv cl, rv b132, rv b147, iv gt] [] tg → Steps p.tables e below S0 tg := by rw [hgt]; exact pre214
  obtain ⟨cl216, Ar216, q216, S216, N216, H216, G216⟩ := id V198_201
  have hin216 := own_in (1 : Int32) S216 ⟨by decide, by decide⟩
  have hat216 : cl216.slots[((1 : Int32)).toNatClampNeg]? = some (.int d1) := Has.at H216 hin216 rfl
  have pre217 : ∀ tg, AT p e below T213 m 132 #[iv p0, iv p1, iv p2, iv p3, iv p4, iv p5, rv b1, rv b13, iv (1 : Int32), iv cl, rv b132, rv b147, iv gt] [(.int cl), (.int d1)] tg → Steps p.tables e below S0 tg := fun tg kg => pre215 tg (by
   refine XS.aload X213.here hx rfl (hb hby at_125) rfl rfl ?_
   refine XS.iload X213.here hx rfl (hb hby at_127) rfl ?_
   refine X213.iaload hx (j := (1 : Int32)) (v := (.int d1)) (by rw [e213]; exact Ar216.1) (State.isArrayOf_alike hZ.alike Ar216.2.1) Ar216.2.2 hin216 hat216 (g := (mkF m 129 #[iv p0, iv p1, iv p2, iv p3, iv p4, iv p5, rv b1, rv b13, iv (1 : Int32), iv cl, rv b132, rv b147, iv gt] [(.int (1 : Int32)), (.ref b13)])) rfl rfl (hb hby at_129) _ ?_
   refine XS.iload X213.here hx rfl (hb hby at_130) rfl ?_
   exact kg)
  rcases Decidable.em (d1 = cl) with hc218 | hc218
  ·
   have hf219 : gt = p1 := by rw [hgt]; exact (own_fin hsc1 hsd1 hscl).1 hc218
   obtain ⟨fs, hr, hrun, hended, hRE⟩ := X213.leaveW hS (by rw [e213]; exact hk) (v := some (.int (1 : Int32))) (fun h => by rw [Bd.returns] at h; cases h)
   have CRf : CHr Z EL0 s.vm s.heap (T213.setFrames fs).vm (T213.setFrames fs).heap := by
     show CHr Z EL0 s.vm s.heap T213.vm T213.heap
     rw [hh, e213]
     exact CR198.trans (CHv.at X213 hZ hEL CR198.1)
   subst hS0
   refine ⟨_, _, pre217 _ ?_, hrun, hended, _, _, rfl, ?_, CRf, hRE.1, hRE.2.1, hRE.2.2.1, hRE.2.2.2.mono (by decide) (by decide)⟩
   ·
    refine XS.icmpNo X213.here hx rfl (hb hby at_132) rfl (XT.ii_ne_f hc218) ?_
    refine XS.iload X213.here hx rfl (hb hby at_135) rfl ?_
    refine XS.iloadN X213.here hx rfl (hb hby at_137) rfl ?_
    show AT p e below T213 m 138 #[iv p0, iv p1, iv p2, iv p3, iv p4, iv p5, rv b1, rv b13, iv (1 : Int32), iv cl, rv b132, rv b147, iv gt] [(.int p1), (.int gt)] _
    refine XS.icmpNo X213.here hx rfl (hb hby at_138) rfl (XT.ii_ne_f (hf219 : gt = p1)) ?_
    refine XS.iconst X213.here hx rfl (hb hby at_141) ?_
    refine XS.goto X213.here hx rfl (pc0 := 142) (pc' := 146) rfl (hb hby at_142) (by decide) (by decide) ?_
    exact retN X213 hx (t := .boolean) Bd.returns (by simp) (hb hby at_146) hr
   ·
    show Q0 Z p0 p1 p2 p3 p4 p5 w_lam k_lam h0 n0 _ T213.heap _
    rw [e213]
    exact ⟨rfl, N213⟩
  ·
   obtain ⟨cl220, Ar220, q220, S220, N220, H220, G220⟩ := id V198_199
   have hin220 := own_in (1 : Int32) S220 ⟨by decide, by decide⟩
   have hat220 : cl220.slots[((1 : Int32)).toNatClampNeg]? = some (.int c1) := Has.at H220 hin220 rfl
   have pre221 : ∀ tg, AT p e below T213 m 154 #[iv p0, iv p1, iv p2, iv p3, iv p4, iv p5, rv b1, rv b13, iv (1 : Int32), iv cl, rv b132, rv b147, iv gt] [(.int cl), (.int c1)] tg → Steps p.tables e below S0 tg := fun tg kg => pre217 tg (by
    refine XS.icmpYes X213.here hx rfl (pc0 := 132) (pc' := 147) rfl (hb hby at_132) rfl (XT.ii_ne_t hc218) (by decide) (by decide) ?_
    refine XS.aload X213.here hx rfl (hb hby at_147) rfl rfl ?_
    refine XS.iload X213.here hx rfl (hb hby at_149) rfl ?_
    refine X213.iaload hx (j := (1 : Int32)) (v := (.int c1)) (by rw [e213]; exact Ar220.1) (State.isArrayOf_alike hZ.alike Ar220.2.1) Ar220.2.2 hin220 hat220 (g := (mkF m 151 #[iv p0, iv p1, iv p2, iv p3, iv p4, iv p5, rv b1, rv b13, iv (1 : Int32), iv cl, rv b132, rv b147, iv gt] [(.int (1 : Int32)), (.ref b1)])) rfl rfl (hb hby at_151) _ ?_
    refine XS.iload X213.here hx rfl (hb hby at_152) rfl ?_
    exact kg)
   rcases Decidable.em (c1 = cl) with hc222 | hc222
   ·
    have hf223 : gt = p0 := by rw [hgt]; exact (own_fin hsc1 hsd1 hscl).2.1 hc218 hc222
    obtain ⟨fs, hr, hrun, hended, hRE⟩ := X213.leaveW hS (by rw [e213]; exact hk) (v := some (.int (1 : Int32))) (fun h => by rw [Bd.returns] at h; cases h)
    have CRf : CHr Z EL0 s.vm s.heap (T213.setFrames fs).vm (T213.setFrames fs).heap := by
      show CHr Z EL0 s.vm s.heap T213.vm T213.heap
      rw [hh, e213]
      exact CR198.trans (CHv.at X213 hZ hEL CR198.1)
    subst hS0
    refine ⟨_, _, pre221 _ ?_, hrun, hended, _, _, rfl, ?_, CRf, hRE.1, hRE.2.1, hRE.2.2.1, hRE.2.2.2.mono (by decide) (by decide)⟩
    ·
     refine XS.icmpNo X213.here hx rfl (hb hby at_154) rfl (XT.ii_ne_f hc222) ?_
     refine XS.iload X213.here hx rfl (hb hby at_157) rfl ?_
     refine XS.iloadN X213.here hx rfl (hb hby at_159) rfl ?_
     show AT p e below T213 m 160 #[iv p0, iv p1, iv p2, iv p3, iv p4, iv p5, rv b1, rv b13, iv (1 : Int32), iv cl, rv b132, rv b147, iv gt] [(.int p0), (.int gt)] _
     refine XS.icmpNo X213.here hx rfl (hb hby at_160) rfl (XT.ii_ne_f (hf223 : gt = p0)) ?_
     refine XS.iconst X213.here hx rfl (hb hby at_163) ?_
     refine XS.goto X213.here hx rfl (pc0 := 164) (pc' := 168) rfl (hb hby at_164) (by decide) (by decide) ?_
     show AT p e below T213 m 168 #[iv p0, iv p1, iv p2, iv p3, iv p4, iv p5, rv b1, rv b13, iv (1 : Int32), iv cl, rv b132, rv b147, iv gt] [(.int (1 : Int32))] _
     exact retN X213 hx (t := .boolean) Bd.returns (by simp) (hb hby at_168) hr
    ·
     show Q0 Z p0 p1 p2 p3 p4 p5 w_lam k_lam h0 n0 _ T213.heap _
     rw [e213]
     exact ⟨rfl, N213⟩
   ·
    obtain ⟨cq224, kq224, q224a, q224b, q224c⟩ := isOf hZ e213 E198_206
    obtain ⟨_, _, ⟨T224, L224, k224, n224⟩, -, X224, ⟨Lc224, hQ224, l224, y224, z224⟩, st224⟩ := X213.virtualBack hx (y := y12) (z := y12) hown (mvT hZ (ow hw 81 rfl)) (mvT hZ (ow hw 82 rfl)) (notFace_of_selects (args := #[]) (mvT hZ (ow hw 84 rfl))) (mvT hZ (ow hw 84 rfl)) (mvT hZ (ow hw 83 rfl)) (by decide) (backOf (W := 0) (rm12_3_1 l Z ar hw [] b147 cl b132 ca_162 kc_162 (pJ d0 (0 : Int32) (nc (sJ3 d0 (pJ c0 (0 : Int32) (1 : Int64) (0 : Int64)) (pJ c0 (1 : Int32) (1 : Int64) (0 : Int64)) (pJ c0 (2 : Int32) (1 : Int64) (0 : Int64))) (sI3 d0 (pI c0 (0 : Int32) p0 (0 : Int32)) (pI c0 (1 : Int32) p0 (0 : Int32)) (pI c0 (2 : Int32) p0 (0 : Int32))) p1) (pJ c0 (0 : Int32) (1 : Int64) (0 : Int64))) (pJ d0 (1 : Int32) (nc (sJ3 d0 (pJ c0 (0 : Int32) (1 : Int64) (0 : Int64)) (pJ c0 (1 : Int32) (1 : Int64) (0 : Int64)) (pJ c0 (2 : Int32) (1 : Int64) (0 : Int64))) (sI3 d0 (pI c0 (0 : Int32) p0 (0 : Int32)) (pI c0 (1 : Int32) p0 (0 : Int32)) (pI c0 (2 : Int32) p0 (0 : Int32))) p1) (pJ c0 (1 : Int32) (1 : Int64) (0 : Int64))) (pJ d0 (2 : Int32) (nc (sJ3 d0 (pJ c0 (0 : Int32) (1 : Int64) (0 : Int64)) (pJ c0 (1 : Int32) (1 : Int64) (0 : Int64)) (pJ c0 (2 : Int32) (1 : Int64) (0 : Int64))) (sI3 d0 (pI c0 (0 : Int32) p0 (0 : Int32)) (pI c0 (1 : Int32) p0 (0 : Int32)) (pI c0 (2 : Int32) p0 (0 : Int32))) p1) (pJ c0 (2 : Int32) (1 : Int64) (0 : Int64))) (pJ d1 (0 : Int32) (nc (sJ3 d1 (pJ c1 (0 : Int32) (1 : Int64) (0 : Int64)) (pJ c1 (1 : Int32) (1 : Int64) (0 : Int64)) (pJ c1 (2 : Int32) (1 : Int64) (0 : Int64))) (sI3 d1 (pI c1 (0 : Int32) p0 (0 : Int32)) (pI c1 (1 : Int32) p0 (0 : Int32)) (pI c1 (2 : Int32) p0 (0 : Int32))) p1) (pJ c1 (0 : Int32) (1 : Int64) (0 : Int64))) (pJ d1 (1 : Int32) (nc (sJ3 d1 (pJ c1 (0 : Int32) (1 : Int64) (0 : Int64)) (pJ c1 (1 : Int32) (1 : Int64) (0 : Int64)) (pJ c1 (2 : Int32) (1 : Int64) (0 : Int64))) (sI3 d1 (pI c1 (0 : Int32) p0 (0 : Int32)) (pI c1 (1 : Int32) p0 (0 : Int32)) (pI c1 (2 : Int32) p0 (0 : Int32))) p1) (pJ c1 (1 : Int32) (1 : Int64) (0 : Int64))) (pJ d1 (2 : Int32) (nc (sJ3 d1 (pJ c1 (0 : Int32) (1 : Int64) (0 : Int64)) (pJ c1 (1 : Int32) (1 : Int64) (0 : Int64)) (pJ c1 (2 : Int32) (1 : Int64) (0 : Int64))) (sI3 d1 (pI c1 (0 : Int32) p0 (0 : Int32)) (pI c1 (1 : Int32) p0 (0 : Int32)) (pI c1 (2 : Int32) p0 (0 : Int32))) p1) (pJ c1 (2 : Int32) (1 : Int64) (0 : Int64))) T198.heap n0 O198 E198_206 F198_207 E198_203 F198_205 F198_210 u198_1 hscl) hZ (ow hw 85 rfl) (ow hw 22 rfl) (by decide) (by decide)) q224a q224c (g := (mkF m 175 #[iv p0, iv p1, iv p2, iv p3, iv p4, iv p5, rv b1, rv b13, iv (1 : Int32), iv cl, rv b132, rv b147, iv gt] [(.int cl), (.int (1 : Int32)), (.ref b147)])) rfl (by rw [hml]; rfl) (Steps.refl _) (argsL := [(.int (1 : Int32)), (.int cl)]) (rest := []) (lenOf pd_8 rfl) rfl (by show 2 * 0 + _ ≤ _; exact Nat.le_of_eq rfl) (hb hby at_175) (fun _ _ => ⟨rfl, e213, (by decide : 8 + 0 ≤ _), (by decide : 46 + 0 ≤ _)⟩)
    dsimp only [Pt.U, Pt.locs, Pt.cells, Pt.slots] at X224 l224 y224 z224 st224 hQ224
    subst l224 y224 z224
    obtain ⟨rfl, N224q, e224⟩ := hQ224
    have N224 := Fr.app N213 N224q
    have hf225 : (sJ3 cl (pJ d1 (0 : Int32) (nc (sJ3 d1 (pJ c1 (0 : Int32) (1 : Int64) (0 : Int64)) (pJ c1 (1 : Int32) (1 : Int64) (0 : Int64)) (pJ c1 (2 : Int32) (1 : Int64) (0 : Int64))) (sI3 d1 (pI c1 (0 : Int32) p0 (0 : Int32)) (pI c1 (1 : Int32) p0 (0 : Int32)) (pI c1 (2 : Int32) p0 (0 : Int32))) p1) (pJ c1 (0 : Int32) (1 : Int64) (0 : Int64))) (pJ d1 (1 : Int32) (nc (sJ3 d1 (pJ c1 (0 : Int32) (1 : Int64) (0 : Int64)) (pJ c1 (1 : Int32) (1 : Int64) (0 : Int64)) (pJ c1 (2 : Int32) (1 : Int64) (0 : Int64))) (sI3 d1 (pI c1 (0 : Int32) p0 (0 : Int32)) (pI c1 (1 : Int32) p0 (0 : Int32)) (pI c1 (2 : Int32) p0 (0 : Int32))) p1) (pJ c1 (1 : Int32) (1 : Int64) (0 : Int64))) (pJ d1 (2 : Int32) (nc (sJ3 d1 (pJ c1 (0 : Int32) (1 : Int64) (0 : Int64)) (pJ c1 (1 : Int32) (1 : Int64) (0 : Int64)) (pJ c1 (2 : Int32) (1 : Int64) (0 : Int64))) (sI3 d1 (pI c1 (0 : Int32) p0 (0 : Int32)) (pI c1 (1 : Int32) p0 (0 : Int32)) (pI c1 (2 : Int32) p0 (0 : Int32))) p1) (pJ c1 (2 : Int32) (1 : Int64) (0 : Int64)))) = (0 : Int64) := (own_fin hsc1 hsd1 hscl).2.2 hc218 hc222
    obtain ⟨fs, hr, hrun, hended, hRE⟩ := X224.leaveW hS (by rw [e224]; exact hk) (v := some (.int (1 : Int32))) (fun h => by rw [Bd.returns] at h; cases h)
    have CRf : CHr Z EL0 s.vm s.heap (T224.setFrames fs).vm (T224.setFrames fs).heap := by
      show CHr Z EL0 s.vm s.heap T224.vm T224.heap
      rw [hh, e224]
      exact CR198.trans (CHv.at X224 hZ hEL CR198.1)
    subst hS0
    refine ⟨_, _, pre221 _ ?_, hrun, hended, _, _, rfl, ?_, CRf, hRE.1, hRE.2.1, hRE.2.2.1, hRE.2.2.2.mono (by decide) (by decide)⟩
    ·
     refine XS.icmpYes X213.here hx rfl (pc0 := 154) (pc' := 169) rfl (hb hby at_154) rfl (XT.ii_ne_t hc222) (by decide) (by decide) ?_
     refine XS.aload X213.here hx rfl (hb hby at_169) rfl rfl ?_
     refine XS.iload X213.here hx rfl (hb hby at_171) rfl ?_
     refine XS.iload X213.here hx rfl (hb hby at_173) rfl ?_
     refine st224.trans ?_
     show AT p e below T224 m 178 #[iv p0, iv p1, iv p2, iv p3, iv p4, iv p5, rv b1, rv b13, iv (1 : Int32), iv cl, rv b132, rv b147, iv gt] [(.long (sJ3 cl (pJ d1 (0 : Int32) (nc (sJ3 d1 (pJ c1 (0 : Int32) (1 : Int64) (0 : Int64)) (pJ c1 (1 : Int32) (1 : Int64) (0 : Int64)) (pJ c1 (2 : Int32) (1 : Int64) (0 : Int64))) (sI3 d1 (pI c1 (0 : Int32) p0 (0 : Int32)) (pI c1 (1 : Int32) p0 (0 : Int32)) (pI c1 (2 : Int32) p0 (0 : Int32))) p1) (pJ c1 (0 : Int32) (1 : Int64) (0 : Int64))) (pJ d1 (1 : Int32) (nc (sJ3 d1 (pJ c1 (0 : Int32) (1 : Int64) (0 : Int64)) (pJ c1 (1 : Int32) (1 : Int64) (0 : Int64)) (pJ c1 (2 : Int32) (1 : Int64) (0 : Int64))) (sI3 d1 (pI c1 (0 : Int32) p0 (0 : Int32)) (pI c1 (1 : Int32) p0 (0 : Int32)) (pI c1 (2 : Int32) p0 (0 : Int32))) p1) (pJ c1 (1 : Int32) (1 : Int64) (0 : Int64))) (pJ d1 (2 : Int32) (nc (sJ3 d1 (pJ c1 (0 : Int32) (1 : Int64) (0 : Int64)) (pJ c1 (1 : Int32) (1 : Int64) (0 : Int64)) (pJ c1 (2 : Int32) (1 : Int64) (0 : Int64))) (sI3 d1 (pI c1 (0 : Int32) p0 (0 : Int32)) (pI c1 (1 : Int32) p0 (0 : Int32)) (pI c1 (2 : Int32) p0 (0 : Int32))) p1) (pJ c1 (2 : Int32) (1 : Int64) (0 : Int64)))))] _
     refine XS.lconst X224.here hx rfl (hb hby at_178) ?_
     refine XS.lcmp X224.here hx rfl (hb hby at_179) rfl ?_
     show AT p e below T224 m 180 #[iv p0, iv p1, iv p2, iv p3, iv p4, iv p5, rv b1, rv b13, iv (1 : Int32), iv cl, rv b132, rv b147, iv gt] [(.int (XT.cmpL (sJ3 cl (pJ d1 (0 : Int32) (nc (sJ3 d1 (pJ c1 (0 : Int32) (1 : Int64) (0 : Int64)) (pJ c1 (1 : Int32) (1 : Int64) (0 : Int64)) (pJ c1 (2 : Int32) (1 : Int64) (0 : Int64))) (sI3 d1 (pI c1 (0 : Int32) p0 (0 : Int32)) (pI c1 (1 : Int32) p0 (0 : Int32)) (pI c1 (2 : Int32) p0 (0 : Int32))) p1) (pJ c1 (0 : Int32) (1 : Int64) (0 : Int64))) (pJ d1 (1 : Int32) (nc (sJ3 d1 (pJ c1 (0 : Int32) (1 : Int64) (0 : Int64)) (pJ c1 (1 : Int32) (1 : Int64) (0 : Int64)) (pJ c1 (2 : Int32) (1 : Int64) (0 : Int64))) (sI3 d1 (pI c1 (0 : Int32) p0 (0 : Int32)) (pI c1 (1 : Int32) p0 (0 : Int32)) (pI c1 (2 : Int32) p0 (0 : Int32))) p1) (pJ c1 (1 : Int32) (1 : Int64) (0 : Int64))) (pJ d1 (2 : Int32) (nc (sJ3 d1 (pJ c1 (0 : Int32) (1 : Int64) (0 : Int64)) (pJ c1 (1 : Int32) (1 : Int64) (0 : Int64)) (pJ c1 (2 : Int32) (1 : Int64) (0 : Int64))) (sI3 d1 (pI c1 (0 : Int32) p0 (0 : Int32)) (pI c1 (1 : Int32) p0 (0 : Int32)) (pI c1 (2 : Int32) p0 (0 : Int32))) p1) (pJ c1 (2 : Int32) (1 : Int64) (0 : Int64)))) (0 : Int64)))] _
     refine XS.ifNo X224.here hx rfl (hb hby at_180) rfl (XT.ll_ne_f (hf225 : (sJ3 cl (pJ d1 (0 : Int32) (nc (sJ3 d1 (pJ c1 (0 : Int32) (1 : Int64) (0 : Int64)) (pJ c1 (1 : Int32) (1 : Int64) (0 : Int64)) (pJ c1 (2 : Int32) (1 : Int64) (0 : Int64))) (sI3 d1 (pI c1 (0 : Int32) p0 (0 : Int32)) (pI c1 (1 : Int32) p0 (0 : Int32)) (pI c1 (2 : Int32) p0 (0 : Int32))) p1) (pJ c1 (0 : Int32) (1 : Int64) (0 : Int64))) (pJ d1 (1 : Int32) (nc (sJ3 d1 (pJ c1 (0 : Int32) (1 : Int64) (0 : Int64)) (pJ c1 (1 : Int32) (1 : Int64) (0 : Int64)) (pJ c1 (2 : Int32) (1 : Int64) (0 : Int64))) (sI3 d1 (pI c1 (0 : Int32) p0 (0 : Int32)) (pI c1 (1 : Int32) p0 (0 : Int32)) (pI c1 (2 : Int32) p0 (0 : Int32))) p1) (pJ c1 (1 : Int32) (1 : Int64) (0 : Int64))) (pJ d1 (2 : Int32) (nc (sJ3 d1 (pJ c1 (0 : Int32) (1 : Int64) (0 : Int64)) (pJ c1 (1 : Int32) (1 : Int64) (0 : Int64)) (pJ c1 (2 : Int32) (1 : Int64) (0 : Int64))) (sI3 d1 (pI c1 (0 : Int32) p0 (0 : Int32)) (pI c1 (1 : Int32) p0 (0 : Int32)) (pI c1 (2 : Int32) p0 (0 : Int32))) p1) (pJ c1 (2 : Int32) (1 : Int64) (0 : Int64)))) = (0 : Int64))) ?_
     refine XS.iconst X224.here hx rfl (hb hby at_183) ?_
     refine XS.goto X224.here hx rfl (pc0 := 184) (pc' := 188) rfl (hb hby at_184) (by decide) (by decide) ?_
     exact retN X224 hx (t := .boolean) Bd.returns (by simp) (hb hby at_188) hr
    ·
     show Q0 Z p0 p1 p2 p3 p4 p5 w_lam k_lam h0 n0 _ T224.heap _
     rw [e224]
     exact ⟨rfl, N224⟩

set_option maxRecDepth 65536 in
set_option maxHeartbeats 40000000 in
theorem comes_1 {Post : Tables → Env → Array Value → State → Outcome → State → Prop} (hpost : ∀ tb e args s v u, (limb_1_1.after args s (.returned v) u = true ∧ limb_1_2.after args s (.returned v) u = true ∧ True) → ReturnedEndW s (.returned v) u (Jvm.fieldLocs frame_1_writes args s ++ Jvm.arrayLocs frame_1_arrays args s ++ Jvm.staticLocs frame_1_statics s) 24 1152 → Post tb e args s (.returned v) u) :
    ArmFor flags0 classFile x code maxLocals ret World_1 tables_1 room_1 Calls_1 rest_1 Pre_1 Post := by
  intro l hfl _ _ p e ha hc hk s m args below hf hA hF happ hP
  obtain ⟨hcalls, hrest, hpre⟩ := hP
  obtain ⟨-, -, -, hnamed, -, -, -, hat⟩ := (Spec.applies_iff hf).mp happ
  obtain ⟨hg, hn⟩ := and_e (Cond.before_iff.mp (show (Jvm.Cond.and given_1 narrow_1).before args s = true from hpre))
  obtain ⟨hg1, hg2⟩ := and_e hg
  obtain ⟨hg21, hg22⟩ := and_e hg2
  obtain ⟨hg221, hg222⟩ := and_e hg22
  obtain ⟨hg2221, hg2222⟩ := and_e hg222
  obtain ⟨hg22221, hg22222⟩ := and_e hg2222
  obtain ⟨hg222221, hg222222⟩ := and_e hg22222
  obtain ⟨w0, w1, w2, w3, w4, w5, rfl⟩ : ∃ w0 w1 w2 w3 w4 w5 : Value, args = #[w0, w1, w2, w3, w4, w5] := by
    have hs : args.size = 6 := by simpa [Cond.value, given_1] using hg1
    obtain ⟨L⟩ := args
    match L, hs with
    | [w0, w1, w2, w3, w4, w5], _ => exact ⟨w0, w1, w2, w3, w4, w5, rfl⟩
  have hw := fun d (hd : d ∈ tables_1) => atoms_spec (ws := Jvm.Cond.code x code maxLocals ret :: tables_1) hat d (List.mem_cons_of_mem _ hd)
  have hfit : Fit s := fun {y c} hc i hi => by
    obtain ⟨ha, rfl⟩ := Array.getElem?_eq_some_iff.mp hc
    have q := List.all_eq_true.mp ((Array.all_eq_true_iff_forall_mem.mp hF) _ (Array.getElem_mem ha)) i (List.mem_range.mpr hi)
    simpa [Array.getElem?_eq_getElem hi] using q
  obtain ⟨i0, ei0⟩ := is_v hg21
  obtain rfl : w0 = (.int i0) := Option.some.inj ei0
  obtain ⟨i1, ei1⟩ := is_v hg221
  obtain rfl : w1 = (.int i1) := Option.some.inj ei1
  obtain ⟨i2, ei2⟩ := is_v hg2221
  obtain rfl : w2 = (.int i2) := Option.some.inj ei2
  obtain ⟨i3, ei3⟩ := is_v hg22221
  obtain rfl : w3 = (.int i3) := Option.some.inj ei3
  obtain ⟨i4, ei4⟩ := is_v hg222221
  obtain rfl : w4 = (.int i4) := Option.some.inj ei4
  obtain ⟨i5, ei5⟩ := is_v hg222222
  obtain rfl : w5 = (.int i5) := Option.some.inj ei5
  obtain ⟨w_lam, k_lam, HLm⟩ := own_lm (ow hw 26 rfl)
  have hTr : True := trivial
  have HW : Wd s w_lam k_lam := ⟨HLm, hTr⟩
  have hEL : EW s #[(.int i0), (.int i1), (.int i2), (.int i3), (.int i4), (.int i5)] EL0 := EW.nil
  have hCH : CHv s EL0 s.vm s.heap := fun p hp => by cases hp
  obtain ⟨n, o, h1, h2, h3, _, L, rfl, ⟨rfl, N⟩, hCR, hq⟩ := rm0 l s _ hw tables_1 i0 i1 i2 i3 i4 i5 w_lam k_lam s.heap s.heap.size (Old.start s) hEL HW p e ha hc hk s m _ below hf ((Spec.applies_iff_loose hf).mp happ).1 ⟨rfl, State.Warmed39.refl s, rfl, hCH⟩ trivial
  refine ⟨n, _, h1, h2, h3, hpost _ _ _ _ _ _ ⟨Cond.after_iff.mpr rfl, Cond.after_iff.mpr (eq_i res_at (Term.int_eval (1)) rfl), trivial⟩ ⟨hq.1, hq.2.1, hq.2.2.1, (hq.2.2.2.sift fun y hy => Or.inr (N y hy)).mono (by decide) (by decide)⟩⟩
theorem main_1_1 : Claimed_1_1 := comes_1 fun _ _ _ _ _ _ h hF => ⟨h.1, hF⟩
theorem main_1_2 : Claimed_1_2 := comes_1 fun _ _ _ _ _ _ h hF => ⟨h.2.1, hF⟩
end Jvm.Pilot.@@N@@
namespace Jvm.Pilot.@@N@@
open Jvm Jvm.ClassFile Sem Op Lib Jvm.Free Jvm.Stand Jvm.Pilot.@@N@@.Jvm.D
/-! MADE BY PROGRAM (witnessworld.py) out of the Statement's table words and the real class files: 21 classes; the members and pool entries that the words name. The judged class is class 1, her method 1. -/
namespace start1
open Jvm.ClassFile
def u (s : String) : CpInfo := .utf8 (stringToUtf16 s)
/-- a pool by its gaps: so many unusable entries, then the entry; so many at the end -/
def gap : Nat → List CpInfo → List CpInfo
  | 0, r => r
  | n + 1, r => .unusable :: gap n r
def poolList (es : List (Nat × CpInfo)) (last : Nat) : List CpInfo := es.foldr (fun e r => gap e.1 (e.2 :: r)) (gap last [])
def pool (es : List (Nat × CpInfo)) (last : Nat) : Array CpInfo := ⟨poolList es last⟩
def fileOf (pool : Array CpInfo) (this : Nat) (attrs : Array Attribute := #[]) (ms : Array MethodInfo := #[]) (fl : Nat := 33) (sup : Nat := 0) (ifs : Array Nat := #[]) (fds : Array FieldInfo := #[]) : ClassFile where
  minorVersion := 0
  majorVersion := 65
  constantPool := pool
  accessFlags := fl
  thisClass := this
  superClass := sup
  interfaces := ifs
  fields := fds
  methods := ms
  attributes := attrs
def plain (name : String) (sup : Option ClassId) : Class where
  name := name
  kind := .ordinary
  loader := none
  accessFlags := 33
  super := sup
  interfaces := #[]
  cf := none
  fields := #[]
  methods := #[]
  instanceTypes := #[]
  staticTypes := #[]
  resolved := #[]
  callSites := []
  init := .initialized
  statics := none
  mirror := none

def pool0 : Array CpInfo := pool [(5, u "<init>"), (0, u "()V"), (1, .class_ 10), (1, u "java/lang/Object")] 113

def k0c0 : Code := { maxStack := 0, maxLocals := 1, code := object_method_1_code, exceptionTable := #[], attributes := #[] }
def k0m0 : Method := { name := "<init>", desc := "()V", sig := { parameters := [], returnType := none }, accessFlags := 1, code := some k0c0 }
/-- java/lang/Object -/
def k0 : Class := { plain "java/lang/Object" none with
  accessFlags := 33
  interfaces := #[]
  cf := some (fileOf pool0 8 #[] #[{ accessFlags := 1, nameIndex := 5, descriptorIndex := 6, attributes := #[] }] 33 0 #[] #[])
  fields := #[]
  methods := #[k0m0]
  instanceTypes := #[]
  staticTypes := #[]
  resolved := Array.replicate 124 none
  statics := none }

def pool1 : Array CpInfo := pool [(2, .class_ 4), (1, u "java/lang/Object"), (0, u "<init>"), (0, u "()V"), (0, .class_ 8), (0, u "com/example/filters_under_siege/filtersundersiege/SketchShape"), (0, .methodref 7 10), (0, .nameAndType 5 11), (0, u "(II)V"), (0, .class_ 13), (0, u "com/example/filters_under_siege/filtersundersiege/KeeperPairs"), (0, .methodref 12 15), (0, .nameAndType 5 16), (0, u "(Lcom/example/filters_under_siege/filtersundersiege/SketchShape;)V"), (0, .methodref 12 18), (0, .nameAndType 19 20), (0, u "add"), (0, u "([II)V"), (0, .methodref 12 22), (0, .nameAndType 23 24), (0, u "fingerprint"), (0, u "(II)I"), (0, .methodref 12 26), (0, .nameAndType 27 28), (0, u "count"), (0, u "(II)J"), (0, .class_ 30), (0, u "com/example/filters_under_siege/filtersundersiege/KeeperPairsFingerprintPinLaw"), (2, u "law"), (0, u "(IIIIII)Z")] 5

def k1m0 : Method := { name := "<init>", desc := "()V", sig := { parameters := [], returnType := none }, accessFlags := 1, code := none }
def k1c1 : Code := { maxStack := 4, maxLocals := 13, code := code, exceptionTable := #[], attributes := #[] }
def k1m1 : Method := { name := "law", desc := "(IIIIII)Z", sig := { parameters := [.int, .int, .int, .int, .int, .int], returnType := some .boolean }, accessFlags := 9, code := some k1c1 }
/-- com/example/filters_under_siege/filtersundersiege/KeeperPairsFingerprintPinLaw -/
def k1 : Class := { plain "com/example/filters_under_siege/filtersundersiege/KeeperPairsFingerprintPinLaw" (some 0) with
  accessFlags := 49
  interfaces := #[]
  cf := some (fileOf pool1 29 #[] #[{ accessFlags := 1, nameIndex := 5, descriptorIndex := 6, attributes := #[] }, { accessFlags := 9, nameIndex := 33, descriptorIndex := 34, attributes := #[] }] 49 2 #[] #[])
  fields := #[]
  methods := #[k1m0, k1m1]
  instanceTypes := #[]
  staticTypes := #[]
  resolved := Array.replicate 40 none
  statics := none }

def pool2 : Array CpInfo := pool [(1, .methodref 2 3), (0, .class_ 4), (0, .nameAndType 5 6), (0, u "java/lang/Object"), (0, u "<init>"), (0, u "()V"), (0, .class_ 8), (0, u "java/lang/Record")] 13

def k2c0 : Code := { maxStack := 1, maxLocals := 1, code := jdk_30_method_1_code, exceptionTable := #[], attributes := #[] }
def k2m0 : Method := { name := "<init>", desc := "()V", sig := { parameters := [], returnType := none }, accessFlags := 4, code := some k2c0 }
/-- java/lang/Record -/
def k2 : Class := { plain "java/lang/Record" (some 0) with
  accessFlags := 1057
  interfaces := #[]
  cf := some (fileOf pool2 7 #[] #[{ accessFlags := 4, nameIndex := 5, descriptorIndex := 6, attributes := #[] }] 1057 2 #[] #[])
  fields := #[]
  methods := #[k2m0]
  instanceTypes := #[]
  staticTypes := #[]
  resolved := Array.replicate 22 none
  statics := none }

def pool3 : Array CpInfo := pool [(1, .methodref 2 3), (0, .class_ 4), (0, .nameAndType 5 6), (0, u "java/lang/Record"), (0, u "<init>"), (0, u "()V"), (10, .class_ 18), (0, u "com/example/filters_under_siege/filtersundersiege/SketchShape"), (0, .long 1073741824), (4, .fieldref 17 25), (0, .nameAndType 26 27), (0, u "rows"), (0, u "I"), (0, .fieldref 17 29), (0, .nameAndType 30 27), (0, u "width"), (12, u "MAX_CELLS"), (0, u "J"), (1, u "(II)V"), (4, u "cells"), (0, u "()I")] 35

def k3c0 : Code := { maxStack := 4, maxLocals := 3, code := prog_39_method_1_code, exceptionTable := #[], attributes := #[] }
def k3m0 : Method := { name := "<init>", desc := "(II)V", sig := { parameters := [.int, .int], returnType := none }, accessFlags := 1, code := some k3c0 }
def k3c1 : Code := { maxStack := 2, maxLocals := 1, code := prog_39_method_2_code, exceptionTable := #[], attributes := #[] }
def k3m1 : Method := { name := "cells", desc := "()I", sig := { parameters := [], returnType := some .int }, accessFlags := 0, code := some k3c1 }
def k3c2 : Code := { maxStack := 1, maxLocals := 1, code := prog_39_method_7_code, exceptionTable := #[], attributes := #[] }
def k3m2 : Method := { name := "width", desc := "()I", sig := { parameters := [], returnType := some .int }, accessFlags := 1, code := some k3c2 }
/-- com/example/filters_under_siege/filtersundersiege/SketchShape -/
def k3 : Class := { plain "com/example/filters_under_siege/filtersundersiege/SketchShape" (some 2) with
  accessFlags := 49
  interfaces := #[]
  cf := some (fileOf pool3 17 #[] #[{ accessFlags := 1, nameIndex := 5, descriptorIndex := 46, attributes := #[] }, { accessFlags := 0, nameIndex := 51, descriptorIndex := 52, attributes := #[] }, { accessFlags := 1, nameIndex := 30, descriptorIndex := 52, attributes := #[] }] 49 2 #[] #[{ accessFlags := 18, nameIndex := 26, descriptorIndex := 27, attributes := #[] }, { accessFlags := 18, nameIndex := 30, descriptorIndex := 27, attributes := #[] }, { accessFlags := 25, nameIndex := 43, descriptorIndex := 44, attributes := #[] }])
  fields := #[{ name := "rows", type := .int, accessFlags := 18, slot := 0, constantValue := 0 }, { name := "width", type := .int, accessFlags := 18, slot := 1, constantValue := 0 }, { name := "MAX_CELLS", type := .long, accessFlags := 25, slot := 0, constantValue := 0 }]
  methods := #[k3m0, k3m1, k3m2]
  instanceTypes := #[.int, .int]
  staticTypes := #[.long]
  resolved := Array.replicate 88 none
  statics := none }

def pool4 : Array CpInfo := pool [(1, .invokeDynamic 0 2), (0, .nameAndType 3 4), (0, u "test"), (0, u "()Ljava/util/function/LongPredicate;"), (0, .methodref 6 7), (0, .class_ 8), (0, .nameAndType 9 10), (0, u "com/example/filters_under_siege/filtersundersiege/KeeperPairs"), (0, u "<init>"), (0, u "(Lcom/example/filters_under_siege/filtersundersiege/SketchShape;Ljava/util/function/LongPredicate;)V"), (5, .methodref 17 18), (0, .class_ 19), (0, .nameAndType 20 21), (0, u "java/util/Objects"), (0, u "requireNonNull"), (0, u "(Ljava/lang/Object;Ljava/lang/String;)Ljava/lang/Object;"), (0, .methodref 23 24), (0, .class_ 25), (0, .nameAndType 9 26), (0, u "java/lang/Object"), (0, u "()V"), (0, .string 28), (0, u "shape"), (0, .class_ 30), (0, u "com/example/filters_under_siege/filtersundersiege/SketchShape"), (0, .fieldref 6 32), (0, .nameAndType 28 33), (0, u "Lcom/example/filters_under_siege/filtersundersiege/SketchShape;"), (0, .fieldref 6 35), (0, .nameAndType 36 37), (0, u "knocksDown"), (0, u "Ljava/util/function/LongPredicate;"), (0, .methodref 29 39), (0, .nameAndType 40 41), (0, u "cells"), (0, u "()I"), (0, .fieldref 6 43), (0, .nameAndType 44 45), (0, u "fingerprints"), (0, u "[I"), (0, .fieldref 6 47), (0, .nameAndType 48 49), (0, u "counts"), (0, u "[J"), (0, .methodref 29 51), (0, .nameAndType 52 41), (0, u "width"), (0, .interfaceMethodref 54 55), (0, .class_ 56), (0, .nameAndType 3 57), (0, u "java/util/function/LongPredicate"), (0, u "(J)Z"), (16, u "(Lcom/example/filters_under_siege/filtersundersiege/SketchShape;)V"), (3, u "add"), (0, u "([II)V"), (3, u "count"), (0, u "(II)J"), (0, u "fingerprint"), (0, u "(II)I"), (2, u "lambda$new$0"), (3, .methodType 57), (0, .methodHandle 6 95), (0, .methodref 6 96), (0, .nameAndType 89 57), (3, .methodHandle 6 101), (0, .methodref 102 103), (0, .class_ 104), (0, .nameAndType 105 106), (0, u "java/lang/invoke/LambdaMetafactory"), (0, u "metafactory"), (0, u "(Ljava/lang/invoke/MethodHandles$Lookup;Ljava/lang/String;Ljava/lang/invoke/MethodType;Ljava/lang/invoke/MethodType;Ljava/lang/invoke/MethodHandle;Ljava/lang/invoke/MethodType;)Ljava/lang/invoke/CallSite;")] 6

def k4c0 : Code := { maxStack := 3, maxLocals := 2, code := prog_26_method_1_code, exceptionTable := #[], attributes := #[] }
def k4m0 : Method := { name := "<init>", desc := "(Lcom/example/filters_under_siege/filtersundersiege/SketchShape;)V", sig := { parameters := [(.object "com/example/filters_under_siege/filtersundersiege/SketchShape")], returnType := none }, accessFlags := 0, code := some k4c0 }
def k4c1 : Code := { maxStack := 3, maxLocals := 3, code := prog_26_method_3_code, exceptionTable := #[], attributes := #[] }
def k4m1 : Method := { name := "<init>", desc := "(Lcom/example/filters_under_siege/filtersundersiege/SketchShape;Ljava/util/function/LongPredicate;)V", sig := { parameters := [(.object "com/example/filters_under_siege/filtersundersiege/SketchShape"), (.object "java/util/function/LongPredicate")], returnType := none }, accessFlags := 2, code := some k4c1 }
def k4c2 : Code := { maxStack := 6, maxLocals := 5, code := prog_26_method_4_code, exceptionTable := #[], attributes := #[] }
def k4m2 : Method := { name := "add", desc := "([II)V", sig := { parameters := [(.array .int), .int], returnType := none }, accessFlags := 0, code := some k4c2 }
def k4c3 : Code := { maxStack := 3, maxLocals := 3, code := prog_26_method_6_code, exceptionTable := #[], attributes := #[] }
def k4m3 : Method := { name := "count", desc := "(II)J", sig := { parameters := [.int, .int], returnType := some .long }, accessFlags := 0, code := some k4c3 }
def k4c4 : Code := { maxStack := 3, maxLocals := 3, code := prog_26_method_7_code, exceptionTable := #[], attributes := #[] }
def k4m4 : Method := { name := "fingerprint", desc := "(II)I", sig := { parameters := [.int, .int], returnType := some .int }, accessFlags := 0, code := some k4c4 }
def k4c5 : Code := { maxStack := 1, maxLocals := 2, code := prog_26_method_9_code, exceptionTable := #[], attributes := #[] }
def k4m5 : Method := { name := "lambda$new$0", desc := "(J)Z", sig := { parameters := [.long], returnType := some .boolean }, accessFlags := 4106, code := some k4c5 }
/-- com/example/filters_under_siege/filtersundersiege/KeeperPairs -/
def k4 : Class := { plain "com/example/filters_under_siege/filtersundersiege/KeeperPairs" (some 0) with
  accessFlags := 48
  interfaces := #[]
  cf := some (fileOf pool4 6 #[.bootstrapMethods #[⟨100, #[93, 94, 93]⟩, ⟨0, #[]⟩]] #[{ accessFlags := 0, nameIndex := 9, descriptorIndex := 74, attributes := #[] }, { accessFlags := 2, nameIndex := 9, descriptorIndex := 10, attributes := #[] }, { accessFlags := 0, nameIndex := 78, descriptorIndex := 79, attributes := #[] }, { accessFlags := 0, nameIndex := 83, descriptorIndex := 84, attributes := #[] }, { accessFlags := 0, nameIndex := 85, descriptorIndex := 86, attributes := #[] }, { accessFlags := 4106, nameIndex := 89, descriptorIndex := 57, attributes := #[] }] 48 23 #[] #[{ accessFlags := 18, nameIndex := 28, descriptorIndex := 33, attributes := #[] }, { accessFlags := 18, nameIndex := 44, descriptorIndex := 45, attributes := #[] }, { accessFlags := 18, nameIndex := 48, descriptorIndex := 49, attributes := #[] }, { accessFlags := 18, nameIndex := 36, descriptorIndex := 37, attributes := #[] }])
  fields := #[{ name := "shape", type := (.object "com/example/filters_under_siege/filtersundersiege/SketchShape"), accessFlags := 18, slot := 0, constantValue := 0 }, { name := "fingerprints", type := (.array .int), accessFlags := 18, slot := 1, constantValue := 0 }, { name := "counts", type := (.array .long), accessFlags := 18, slot := 2, constantValue := 0 }, { name := "knocksDown", type := (.object "java/util/function/LongPredicate"), accessFlags := 18, slot := 3, constantValue := 0 }]
  methods := #[k4m0, k4m1, k4m2, k4m3, k4m4, k4m5]
  instanceTypes := #[(.object "com/example/filters_under_siege/filtersundersiege/SketchShape"), (.array .int), (.array .long), (.object "java/util/function/LongPredicate")]
  staticTypes := #[]
  resolved := Array.replicate 113 none
  callSites := [(0, 2, .constant 0)]
  statics := none }

def pool5 : Array CpInfo := pool [(9, u "test"), (6, .class_ 18), (1, u "java/util/function/LongPredicate"), (0, u "(J)Z"), (0, .class_ 21), (0, u "java/lang/Object")] 45

def k5m0 : Method := { name := "test", desc := "(J)Z", sig := { parameters := [.long], returnType := some .boolean }, accessFlags := 1025, code := none }
/-- java/util/function/LongPredicate -/
def k5 : Class := { plain "java/util/function/LongPredicate" (some 0) with
  accessFlags := 1537
  interfaces := #[]
  cf := some (fileOf pool5 16 #[] #[{ accessFlags := 1025, nameIndex := 9, descriptorIndex := 19, attributes := #[] }] 1537 20 #[] #[])
  fields := #[]
  methods := #[k5m0]
  instanceTypes := #[]
  staticTypes := #[]
  resolved := Array.replicate 67 none
  statics := none }

def pool6 : Array CpInfo := pool [(1, .class_ 2), (0, u "java/io/Serializable"), (0, .class_ 4), (0, u "java/lang/Object")] 2

/-- java/io/Serializable -/
def k6 : Class := { plain "java/io/Serializable" (some 0) with
  accessFlags := 1537
  interfaces := #[]
  cf := some (fileOf pool6 1 #[] #[] 1537 3 #[] #[])
  fields := #[]
  methods := #[]
  instanceTypes := #[]
  staticTypes := #[]
  resolved := Array.replicate 7 none
  statics := none }

def pool7 : Array CpInfo := pool [(1, .class_ 2), (0, u "java/lang/Comparable"), (0, .class_ 4), (0, u "java/lang/Object")] 7

/-- java/lang/Comparable -/
def k7 : Class := { plain "java/lang/Comparable" (some 0) with
  accessFlags := 1537
  interfaces := #[]
  cf := some (fileOf pool7 1 #[] #[] 1537 3 #[] #[])
  fields := #[]
  methods := #[]
  instanceTypes := #[]
  staticTypes := #[]
  resolved := Array.replicate 12 none
  statics := none }

def pool8 : Array CpInfo := pool [(2, .class_ 4), (1, u "java/lang/CharSequence"), (42, .class_ 48), (0, u "java/lang/CharSequence$1CodePointIterator"), (10, .class_ 60), (0, u "java/lang/CharSequence$1CharIterator"), (5, .class_ 67), (0, u "java/lang/Object")] 63

/-- java/lang/CharSequence -/
def k8 : Class := { plain "java/lang/CharSequence" (some 0) with
  accessFlags := 1537
  interfaces := #[]
  cf := some (fileOf pool8 2 #[.nestMembers #[47, 59]] #[] 1537 66 #[] #[])
  fields := #[]
  methods := #[]
  instanceTypes := #[]
  staticTypes := #[]
  resolved := Array.replicate 131 none
  statics := none }

def pool9 : Array CpInfo := pool [(1, .class_ 2), (0, u "java/lang/constant/Constable"), (0, .class_ 4), (0, u "java/lang/Object")] 6

/-- java/lang/constant/Constable -/
def k9 : Class := { plain "java/lang/constant/Constable" (some 0) with
  accessFlags := 1537
  interfaces := #[]
  cf := some (fileOf pool9 1 #[] #[] 1537 3 #[] #[])
  fields := #[]
  methods := #[]
  instanceTypes := #[]
  staticTypes := #[]
  resolved := Array.replicate 11 none
  statics := none }

def pool10 : Array CpInfo := pool [(1, .class_ 2), (0, u "java/lang/constant/ConstantDesc"), (0, .class_ 4), (0, u "java/lang/Object")] 32

/-- java/lang/constant/ConstantDesc -/
def k10 : Class := { plain "java/lang/constant/ConstantDesc" (some 0) with
  accessFlags := 1537
  interfaces := #[]
  cf := some (fileOf pool10 1 #[] #[] 1537 3 #[] #[])
  fields := #[]
  methods := #[]
  instanceTypes := #[]
  staticTypes := #[]
  resolved := Array.replicate 37 none
  statics := none }

def pool11 : Array CpInfo := pool [(2, .class_ 4), (1, u "java/lang/Object"), (0, u "<init>"), (0, u "()V"), (3, .class_ 12), (1, u "java/lang/String"), (0, u "value"), (0, u "[B"), (2, u "coder"), (0, u "B"), (2, u "hash"), (0, u "I"), (2, u "hashIsZero"), (0, u "Z"), (13, u "COMPACT_STRINGS"), (534, .class_ 576), (0, u "java/lang/CharSequence"), (22, u "CASE_INSENSITIVE_ORDER"), (0, u "Ljava/util/Comparator;"), (500, u "serialPersistentFields"), (0, u "[Ljava/io/ObjectStreamField;"), (0, .class_ 1104), (0, u "java/lang/String$CaseInsensitiveComparator"), (1, .class_ 1107), (0, u "java/io/Serializable"), (0, .class_ 1109), (0, u "java/lang/Comparable"), (0, .class_ 1111), (0, u "java/lang/constant/Constable"), (0, .class_ 1113), (0, u "java/lang/constant/ConstantDesc"), (2, u "serialVersionUID"), (0, u "J"), (3, u "REPL"), (0, u "C"), (2, u "LATIN1"), (1, u "UTF16")] 323

def k11m0 : Method := { name := "<init>", desc := "()V", sig := { parameters := [], returnType := none }, accessFlags := 1, code := none }
/-- java/lang/String -/
def k11 : Class := { plain "java/lang/String" (some 0) with
  accessFlags := 49
  interfaces := #[6, 7, 8, 9, 10]
  cf := some (fileOf pool11 10 #[.nestMembers #[1103]] #[{ accessFlags := 1, nameIndex := 5, descriptorIndex := 6, attributes := #[] }] 49 2 #[1106, 1108, 575, 1110, 1112] #[{ accessFlags := 18, nameIndex := 13, descriptorIndex := 14, attributes := #[] }, { accessFlags := 18, nameIndex := 17, descriptorIndex := 18, attributes := #[] }, { accessFlags := 2, nameIndex := 21, descriptorIndex := 22, attributes := #[] }, { accessFlags := 2, nameIndex := 25, descriptorIndex := 26, attributes := #[] }, { accessFlags := 26, nameIndex := 1116, descriptorIndex := 1117, attributes := #[] }, { accessFlags := 24, nameIndex := 40, descriptorIndex := 26, attributes := #[] }, { accessFlags := 26, nameIndex := 1101, descriptorIndex := 1102, attributes := #[] }, { accessFlags := 26, nameIndex := 1121, descriptorIndex := 1122, attributes := #[] }, { accessFlags := 25, nameIndex := 599, descriptorIndex := 600, attributes := #[] }, { accessFlags := 24, nameIndex := 1125, descriptorIndex := 18, attributes := #[] }, { accessFlags := 24, nameIndex := 1127, descriptorIndex := 18, attributes := #[] }])
  fields := #[{ name := "value", type := (.array .byte), accessFlags := 18, slot := 0, constantValue := 0 }, { name := "coder", type := .byte, accessFlags := 18, slot := 1, constantValue := 0 }, { name := "hash", type := .int, accessFlags := 2, slot := 2, constantValue := 0 }, { name := "hashIsZero", type := .boolean, accessFlags := 2, slot := 3, constantValue := 0 }, { name := "serialVersionUID", type := .long, accessFlags := 26, slot := 0, constantValue := 0 }, { name := "COMPACT_STRINGS", type := .boolean, accessFlags := 24, slot := 1, constantValue := 0 }, { name := "serialPersistentFields", type := (.array (.object "java/io/ObjectStreamField")), accessFlags := 26, slot := 2, constantValue := 0 }, { name := "REPL", type := .char, accessFlags := 26, slot := 3, constantValue := 0 }, { name := "CASE_INSENSITIVE_ORDER", type := (.object "java/util/Comparator"), accessFlags := 25, slot := 4, constantValue := 0 }, { name := "LATIN1", type := .byte, accessFlags := 24, slot := 5, constantValue := 0 }, { name := "UTF16", type := .byte, accessFlags := 24, slot := 6, constantValue := 0 }]
  methods := #[k11m0]
  instanceTypes := #[(.array .byte), .byte, .int, .boolean]
  staticTypes := #[.long, .boolean, (.array (.object "java/io/ObjectStreamField")), .char, (.object "java/util/Comparator"), .byte, .byte]
  resolved := Array.replicate 1451 none
  statics := none }

def pool12 : Array CpInfo := pool [(2, .class_ 4), (1, u "java/lang/Object"), (0, u "<init>"), (0, u "()V"), (35, .class_ 44), (1, u "java/util/Objects"), (0, u "requireNonNull"), (48, u "(Ljava/lang/Object;Ljava/lang/String;)Ljava/lang/Object;")] 89

def k12m0 : Method := { name := "<init>", desc := "()V", sig := { parameters := [], returnType := none }, accessFlags := 2, code := none }
def k12c1 : Code := { maxStack := 3, maxLocals := 2, code := jdk_31_method_11_code, exceptionTable := #[], attributes := #[] }
def k12m1 : Method := { name := "requireNonNull", desc := "(Ljava/lang/Object;Ljava/lang/String;)Ljava/lang/Object;", sig := { parameters := [(.object "java/lang/Object"), (.object "java/lang/String")], returnType := some (.object "java/lang/Object") }, accessFlags := 9, code := some k12c1 }
/-- java/util/Objects -/
def k12 : Class := { plain "java/util/Objects" (some 0) with
  accessFlags := 49
  interfaces := #[]
  cf := some (fileOf pool12 42 #[] #[{ accessFlags := 2, nameIndex := 5, descriptorIndex := 6, attributes := #[] }, { accessFlags := 9, nameIndex := 45, descriptorIndex := 94, attributes := #[] }] 49 2 #[] #[])
  fields := #[]
  methods := #[k12m0, k12m1]
  instanceTypes := #[]
  staticTypes := #[]
  resolved := Array.replicate 184 none
  statics := none }

def pool13 : Array CpInfo := pool [(1, u "java/lang/Cloneable"), (0, .class_ 1), (0, u "java/lang/Object"), (0, .class_ 3)] 3

/-- java/lang/Cloneable -/
def k13 : Class := { plain "java/lang/Cloneable" (some 0) with
  accessFlags := 1537
  interfaces := #[]
  cf := some (fileOf pool13 2 #[] #[] 1537 4 #[] #[])
  fields := #[]
  methods := #[]
  instanceTypes := #[]
  staticTypes := #[]
  resolved := Array.replicate 8 none
  statics := none }

/-- the primitive byte -/
def k14 : Class := { plain "byte" none with kind := .primitive 'B', accessFlags := 0x411 }
/-- [B -/
def k15 : Class := { plain "[B" (some 0) with kind := .array 14 .byte, interfaces := #[13, 6], accessFlags := 1041 }

/-- the primitive int -/
def k16 : Class := { plain "int" none with kind := .primitive 'I', accessFlags := 0x411 }
/-- [I -/
def k17 : Class := { plain "[I" (some 0) with kind := .array 16 .int, interfaces := #[13, 6], accessFlags := 1041 }

/-- the primitive long -/
def k18 : Class := { plain "long" none with kind := .primitive 'J', accessFlags := 0x411 }
/-- [J -/
def k19 : Class := { plain "[J" (some 0) with kind := .array 18 .long, interfaces := #[13, 6], accessFlags := 1041 }

def classes0 : Array Class := #[k0, k1, k2, k3, k4, k5, k6, k7, k8, k9, k10, k11, k12, k13, k14, k15, k16, k17, k18, k19]
/-- the class that the rule has made for the site at 2 of com/example/filters_under_siege/filtersundersiege/KeeperPairs.<init> -/
def k20 : Class := Jvm.LamKit.madeRec { classes := classes0 } "com/example/filters_under_siege/filtersundersiege/KeeperPairs" (Jvm.Lambda.Shape.mk "java/util/function/LongPredicate" "test" (Jvm.ClassFile.MethodDescriptor.mk ([Jvm.ClassFile.FieldType.long] : List Jvm.ClassFile.FieldType) (Option.some Jvm.ClassFile.FieldType.boolean)) ([] : List Jvm.ClassFile.FieldType) (6 : Nat) "com/example/filters_under_siege/filtersundersiege/KeeperPairs" "lambda$new$0" (Jvm.ClassFile.MethodDescriptor.mk ([Jvm.ClassFile.FieldType.long] : List Jvm.ClassFile.FieldType) (Option.some Jvm.ClassFile.FieldType.boolean)) false (Jvm.ClassFile.MethodDescriptor.mk ([Jvm.ClassFile.FieldType.long] : List Jvm.ClassFile.FieldType) (Option.some Jvm.ClassFile.FieldType.boolean))) 20

def heap : Heap := #[{ cls := 20, slots := #[], vm := .none }]
def classes : Array Class := #[k0, k1, k2, k3, k4, k5, k6, k7, k8, k9, k10, k11, k12, k13, k14, k15, k16, k17, k18, k19, k20]
def interned : List (Array UInt16 × Addr) := []
def slotsUsed : Nat := 0
def theMethod : MethodId := ⟨1, 1⟩
def args0 : Array Value := #[.int 5, .int 5, .int 5, .int 5, .int 5, .int 5]
def aboutOver (below : List Frame) : State where
  vm := { classes := classes, interned := interned.toArray }
  heap := heap
  slotsUsed := slotsUsed
  threads := #[{ frames := .invoking theMethod args0 :: below }]
def below0 : List Frame := [.native { method := ⟨0, 0⟩, args := #[] }]
def about1 : State := aboutOver below0
def p0 : Program := .bare "" "" ""
def e0 : Env := launch0.env 0 0 0
theorem w_frames : about1.frames = Frame.invoking theMethod args0 :: below0 := rfl
set_option maxRecDepth 65536 in
theorem w_args : argsFit about1.vm theMethod args0 = true := by decide +kernel
set_option maxRecDepth 65536 in
theorem w_heap : heapFits about1 = true := by decide +kernel
set_option maxRecDepth 65536 in
theorem w_runnable : about1.curStatus? = some .runnable := by decide +kernel
set_option maxRecDepth 65536 in
theorem w_alone : about1.alone = true := by decide +kernel
set_option maxRecDepth 65536 in
theorem w_named : about1.methodNamed? x = some theMethod := by decide +kernel
set_option maxRecDepth 65536 in
theorem w_hears : about1.hears theMethod below0 = true := by decide +kernel
set_option maxRecDepth 65536 in
theorem w_ripe : about1.ripe theMethod args0 below0 = true := by decide +kernel
theorem w_running : about1.status = .running := rfl
set_option maxRecDepth 65536 in
theorem w_room : about1.hasRoom e0.platform room_1 = true :=
  launch0.hasRoom_least _ room_1 (by decide +kernel) (by decide +kernel) (by decide +kernel) (by decide +kernel) (by decide +kernel) (by decide +kernel)
theorem allAtoms_all (ts : List Jvm.Cond) (a : Array Jvm.Value) (st : Jvm.State) : (allAtoms ts).before a st = ts.all (fun c => c.before a st) := by
  induction ts with
  | nil => rfl
  | cons c t ih =>
    show (Jvm.Cond.and c (allAtoms t)).before a st = _
    rw [Jvm.Cond.before_and, ih, List.all_cons]
def words1 : List Jvm.Cond := Jvm.Cond.code x code maxLocals ret :: tables_1
/-- a 'code' word, met by the world's own term for the bytes: nothing is compared byte by byte -/
theorem code_word {y : MethodName} {bytes : ByteArray} {mx : Nat} {rt : Option FieldType} {a : Array Value} {s : State} {m : MethodId} {meth : Method} {c : Code} (h1 : s.methodNamed? y = some m) (h2 : s.vm.method? m = some meth) (h3 : meth.code = some c) (h4 : c.code = bytes)
    (h5 : (c.maxLocals == mx && c.exceptionTable.isEmpty && decide (c.maxStack ≤ mostOperands) && decide (meth.sig.returnType = rt) && !meth.locks && decide (parseMethodDescriptor y.desc = some meth.sig)) = true) : (Jvm.Cond.code y bytes mx rt).before a s = true := by
  simp only [Bool.and_eq_true, beq_iff_eq, Bool.not_eq_true', decide_eq_true_eq] at h5
  obtain ⟨⟨⟨⟨⟨g1, g2⟩, g3⟩, g4⟩, g5⟩, g6⟩ := h5
  simp [Cond.before, Cond.holds, Cond.value, h1, h2, h3, h4, g1, g2, g3, g4, g5, g6]
def isCode : Jvm.Cond → Bool
  | .code _ _ _ _ => true
  | _ => false
theorem all_split {L : List Jvm.Cond} {P : Jvm.Cond → Bool} (h1 : L.all (fun c => isCode c || P c) = true) (h2 : ∀ c ∈ L.filter isCode, P c = true) : L.all P = true := by
  refine List.all_eq_true.mpr fun c hc => ?_
  have h := List.all_eq_true.mp h1 c hc
  rcases Bool.eq_false_or_eq_true (isCode c) with hi | hi
  · exact h2 c (List.mem_filter.mpr ⟨hc, hi⟩)
  · simpa [hi] using h
set_option maxRecDepth 65536 in
theorem w_c0 : (Jvm.Cond.code x code maxLocals ret).before args0 about1 = true := code_word (m := ⟨1, 1⟩) (meth := k1m1) (c := k1c1) (by decide +kernel) rfl rfl rfl (by decide +kernel)
set_option maxRecDepth 65536 in
theorem w_c1 : (Jvm.Cond.code ({ cls := "com/example/filters_under_siege/filtersundersiege/SketchShape", name := "<init>", desc := "(II)V" } : Jvm.MethodName) prog_39_method_1_code (3 : Nat) (Option.none : Option Jvm.ClassFile.FieldType)).before args0 about1 = true := code_word (m := ⟨3, 0⟩) (meth := k3m0) (c := k3c0) (by decide +kernel) rfl rfl rfl (by decide +kernel)
set_option maxRecDepth 65536 in
theorem w_c2 : (Jvm.Cond.code ({ cls := "java/lang/Record", name := "<init>", desc := "()V" } : Jvm.MethodName) jdk_30_method_1_code (1 : Nat) (Option.none : Option Jvm.ClassFile.FieldType)).before args0 about1 = true := code_word (m := ⟨2, 0⟩) (meth := k2m0) (c := k2c0) (by decide +kernel) rfl rfl rfl (by decide +kernel)
set_option maxRecDepth 65536 in
theorem w_c3 : (Jvm.Cond.code ({ cls := "java/lang/Object", name := "<init>", desc := "()V" } : Jvm.MethodName) object_method_1_code (1 : Nat) (Option.none : Option Jvm.ClassFile.FieldType)).before args0 about1 = true := code_word (m := ⟨0, 0⟩) (meth := k0m0) (c := k0c0) (by decide +kernel) rfl rfl rfl (by decide +kernel)
set_option maxRecDepth 65536 in
theorem w_c4 : (Jvm.Cond.code ({ cls := "com/example/filters_under_siege/filtersundersiege/KeeperPairs", name := "<init>", desc := "(Lcom/example/filters_under_siege/filtersundersiege/SketchShape;)V" } : Jvm.MethodName) prog_26_method_1_code (2 : Nat) (Option.none : Option Jvm.ClassFile.FieldType)).before args0 about1 = true := code_word (m := ⟨4, 0⟩) (meth := k4m0) (c := k4c0) (by decide +kernel) rfl rfl rfl (by decide +kernel)
set_option maxRecDepth 65536 in
theorem w_c5 : (Jvm.Cond.code ({ cls := "com/example/filters_under_siege/filtersundersiege/KeeperPairs", name := "<init>", desc := "(Lcom/example/filters_under_siege/filtersundersiege/SketchShape;Ljava/util/function/LongPredicate;)V" } : Jvm.MethodName) prog_26_method_3_code (3 : Nat) (Option.none : Option Jvm.ClassFile.FieldType)).before args0 about1 = true := code_word (m := ⟨4, 1⟩) (meth := k4m1) (c := k4c1) (by decide +kernel) rfl rfl rfl (by decide +kernel)
set_option maxRecDepth 65536 in
theorem w_c6 : (Jvm.Cond.code ({ cls := "java/util/Objects", name := "requireNonNull", desc := "(Ljava/lang/Object;Ljava/lang/String;)Ljava/lang/Object;" } : Jvm.MethodName) jdk_31_method_11_code (2 : Nat) (Option.some (Jvm.ClassFile.FieldType.object "java/lang/Object"))).before args0 about1 = true := code_word (m := ⟨12, 1⟩) (meth := k12m1) (c := k12c1) (by decide +kernel) rfl rfl rfl (by decide +kernel)
set_option maxRecDepth 65536 in
theorem w_c7 : (Jvm.Cond.code ({ cls := "com/example/filters_under_siege/filtersundersiege/SketchShape", name := "cells", desc := "()I" } : Jvm.MethodName) prog_39_method_2_code (1 : Nat) (Option.some Jvm.ClassFile.FieldType.int)).before args0 about1 = true := code_word (m := ⟨3, 1⟩) (meth := k3m1) (c := k3c1) (by decide +kernel) rfl rfl rfl (by decide +kernel)
set_option maxRecDepth 65536 in
theorem w_c8 : (Jvm.Cond.code ({ cls := "com/example/filters_under_siege/filtersundersiege/KeeperPairs", name := "add", desc := "([II)V" } : Jvm.MethodName) prog_26_method_4_code (5 : Nat) (Option.none : Option Jvm.ClassFile.FieldType)).before args0 about1 = true := code_word (m := ⟨4, 2⟩) (meth := k4m2) (c := k4c2) (by decide +kernel) rfl rfl rfl (by decide +kernel)
set_option maxRecDepth 65536 in
theorem w_c9 : (Jvm.Cond.code ({ cls := "com/example/filters_under_siege/filtersundersiege/SketchShape", name := "width", desc := "()I" } : Jvm.MethodName) prog_39_method_7_code (1 : Nat) (Option.some Jvm.ClassFile.FieldType.int)).before args0 about1 = true := code_word (m := ⟨3, 2⟩) (meth := k3m2) (c := k3c2) (by decide +kernel) rfl rfl rfl (by decide +kernel)
set_option maxRecDepth 65536 in
theorem w_c10 : (Jvm.Cond.code ({ cls := "com/example/filters_under_siege/filtersundersiege/KeeperPairs", name := "lambda$new$0", desc := "(J)Z" } : Jvm.MethodName) prog_26_method_9_code (2 : Nat) (Option.some Jvm.ClassFile.FieldType.boolean)).before args0 about1 = true := code_word (m := ⟨4, 5⟩) (meth := k4m5) (c := k4c5) (by decide +kernel) rfl rfl rfl (by decide +kernel)
set_option maxRecDepth 65536 in
theorem w_c11 : (Jvm.Cond.code ({ cls := "com/example/filters_under_siege/filtersundersiege/KeeperPairs", name := "fingerprint", desc := "(II)I" } : Jvm.MethodName) prog_26_method_7_code (3 : Nat) (Option.some Jvm.ClassFile.FieldType.int)).before args0 about1 = true := code_word (m := ⟨4, 4⟩) (meth := k4m4) (c := k4c4) (by decide +kernel) rfl rfl rfl (by decide +kernel)
set_option maxRecDepth 65536 in
theorem w_c12 : (Jvm.Cond.code ({ cls := "com/example/filters_under_siege/filtersundersiege/KeeperPairs", name := "count", desc := "(II)J" } : Jvm.MethodName) prog_26_method_6_code (3 : Nat) (Option.some Jvm.ClassFile.FieldType.long)).before args0 about1 = true := code_word (m := ⟨4, 3⟩) (meth := k4m3) (c := k4c3) (by decide +kernel) rfl rfl rfl (by decide +kernel)
def codes1 : List Jvm.Cond := [Jvm.Cond.code x code maxLocals ret, Jvm.Cond.code ({ cls := "com/example/filters_under_siege/filtersundersiege/SketchShape", name := "<init>", desc := "(II)V" } : Jvm.MethodName) prog_39_method_1_code (3 : Nat) (Option.none : Option Jvm.ClassFile.FieldType), Jvm.Cond.code ({ cls := "java/lang/Record", name := "<init>", desc := "()V" } : Jvm.MethodName) jdk_30_method_1_code (1 : Nat) (Option.none : Option Jvm.ClassFile.FieldType), Jvm.Cond.code ({ cls := "java/lang/Object", name := "<init>", desc := "()V" } : Jvm.MethodName) object_method_1_code (1 : Nat) (Option.none : Option Jvm.ClassFile.FieldType), Jvm.Cond.code ({ cls := "com/example/filters_under_siege/filtersundersiege/KeeperPairs", name := "<init>", desc := "(Lcom/example/filters_under_siege/filtersundersiege/SketchShape;)V" } : Jvm.MethodName) prog_26_method_1_code (2 : Nat) (Option.none : Option Jvm.ClassFile.FieldType), Jvm.Cond.code ({ cls := "com/example/filters_under_siege/filtersundersiege/KeeperPairs", name := "<init>", desc := "(Lcom/example/filters_under_siege/filtersundersiege/SketchShape;Ljava/util/function/LongPredicate;)V" } : Jvm.MethodName) prog_26_method_3_code (3 : Nat) (Option.none : Option Jvm.ClassFile.FieldType), Jvm.Cond.code ({ cls := "java/util/Objects", name := "requireNonNull", desc := "(Ljava/lang/Object;Ljava/lang/String;)Ljava/lang/Object;" } : Jvm.MethodName) jdk_31_method_11_code (2 : Nat) (Option.some (Jvm.ClassFile.FieldType.object "java/lang/Object")), Jvm.Cond.code ({ cls := "com/example/filters_under_siege/filtersundersiege/SketchShape", name := "cells", desc := "()I" } : Jvm.MethodName) prog_39_method_2_code (1 : Nat) (Option.some Jvm.ClassFile.FieldType.int), Jvm.Cond.code ({ cls := "com/example/filters_under_siege/filtersundersiege/KeeperPairs", name := "add", desc := "([II)V" } : Jvm.MethodName) prog_26_method_4_code (5 : Nat) (Option.none : Option Jvm.ClassFile.FieldType), Jvm.Cond.code ({ cls := "com/example/filters_under_siege/filtersundersiege/SketchShape", name := "width", desc := "()I" } : Jvm.MethodName) prog_39_method_7_code (1 : Nat) (Option.some Jvm.ClassFile.FieldType.int), Jvm.Cond.code ({ cls := "com/example/filters_under_siege/filtersundersiege/KeeperPairs", name := "lambda$new$0", desc := "(J)Z" } : Jvm.MethodName) prog_26_method_9_code (2 : Nat) (Option.some Jvm.ClassFile.FieldType.boolean), Jvm.Cond.code ({ cls := "com/example/filters_under_siege/filtersundersiege/KeeperPairs", name := "fingerprint", desc := "(II)I" } : Jvm.MethodName) prog_26_method_7_code (3 : Nat) (Option.some Jvm.ClassFile.FieldType.int), Jvm.Cond.code ({ cls := "com/example/filters_under_siege/filtersundersiege/KeeperPairs", name := "count", desc := "(II)J" } : Jvm.MethodName) prog_26_method_6_code (3 : Nat) (Option.some Jvm.ClassFile.FieldType.long)]
set_option maxRecDepth 65536 in
theorem codes_eq : words1.filter isCode = codes1 := rfl
theorem w_codes : ∀ c ∈ words1.filter isCode, c.before args0 about1 = true := by
  rw [codes_eq]
  intro c hc
  simp only [codes1, List.mem_cons, List.not_mem_nil, or_false] at hc
  rcases hc with rfl | rfl | rfl | rfl | rfl | rfl | rfl | rfl | rfl | rfl | rfl | rfl | rfl
  · exact w_c0
  · exact w_c1
  · exact w_c2
  · exact w_c3
  · exact w_c4
  · exact w_c5
  · exact w_c6
  · exact w_c7
  · exact w_c8
  · exact w_c9
  · exact w_c10
  · exact w_c11
  · exact w_c12
set_option maxRecDepth 65536 in
theorem w_t1 : (words1.take 24).all (fun c => isCode c || c.before args0 about1) = true := by decide +kernel
set_option maxRecDepth 65536 in
theorem w_t2 : ((words1.drop 24).take 24).all (fun c => isCode c || c.before args0 about1) = true := by decide +kernel
set_option maxRecDepth 65536 in
theorem w_t3 : (((words1.drop 24).drop 24).take 24).all (fun c => isCode c || c.before args0 about1) = true := by decide +kernel
set_option maxRecDepth 65536 in
theorem w_t4 : (((words1.drop 24).drop 24).drop 24).all (fun c => isCode c || c.before args0 about1) = true := by decide +kernel
theorem w_tables : (allAtoms (Jvm.Cond.code x code maxLocals ret :: tables_1)).before args0 about1 = true := by
  rw [allAtoms_all]
  show words1.all (fun c => c.before args0 about1) = true
  refine all_split ?_ w_codes
  rw [← List.take_append_drop 24 words1, List.all_append, w_t1, ← List.take_append_drop 24 (words1.drop 24), List.all_append, w_t2, ← List.take_append_drop 24 ((words1.drop 24).drop 24), List.all_append, w_t3, w_t4]
  rfl
set_option maxRecDepth 65536 in
theorem w_case : (Jvm.Cond.and given_1 narrow_1).before args0 about1 = true := by decide +kernel
theorem w_applies : (headSpec (Jvm.Cond.code x code maxLocals ret :: tables_1) room_1).applies x e0.platform about1 = true :=
  (Spec.applies_iff w_frames).mpr ⟨w_running, w_runnable, w_alone, w_named, w_hears, w_ripe, w_room, w_tables⟩
theorem atStart : AtStart classFile x code maxLocals ret World_1 tables_1 room_1 Calls_1 rest_1 Pre_1 launch0 p0 e0 about1 theMethod args0 below0 :=
  ⟨lists_1, trivial, launch0.admits_env _ _ _, launch0.least_env, fairChoices_fair.cas, fairChoices_fair.clock, w_frames, w_args, w_heap, w_applies, trivial, trivial, w_case⟩
end start1
theorem witness_1 : WitnessClaimed_1 := ⟨start1.p0, start1.e0, start1.about1, start1.theMethod, start1.args0, start1.below0, start1.atStart⟩
end Jvm.Pilot.@@N@@
