import JvmDerived
import JvmDerived.Pilot.@@N@@Statement
import JvmDerived.Pilot.@@N@@Code
set_option linter.unusedVariables false
set_option linter.unusedSimpArgs false
namespace Jvm.Pilot.@@N@@
open Jvm Jvm.ClassFile Sem Op Lib Jvm.Free Jvm.Stand Jvm.LawKit Jvm.RoadKit Bundle Jvm.Pilot.@@N@@.Jvm.D
abbrev y1 : MethodName := ⟨"com/example/nudge_knob/nudgeknob/ButtonOfKeyCodePinLaw", "code", "(I)Lcom/example/nudge_knob/nudgeknob/KeyCode;"⟩
abbrev y2 : MethodName := ⟨"com/example/nudge_knob/nudgeknob/ButtonOfKeyCodePinLaw", "expected", "(I)Lcom/example/nudge_knob/nudgeknob/Button;"⟩
abbrev y3 : MethodName := ⟨"com/example/nudge_knob/nudgeknob/Button", "ofKeyCode", "(Lcom/example/nudge_knob/nudgeknob/KeyCode;)Lcom/example/nudge_knob/nudgeknob/Button;"⟩

abbrev jv (x : Int64) : Slot := .val (.long x)
abbrev un : Slot := .unset
abbrev se : Slot := .second
abbrev AT (p : Program) (e : Env) (below : List Frame) (T : State) (m : MethodId) (pc : Nat) (ls : Array Slot) (st : List Value) (tg : State) : Prop := Steps p.tables e below (T.setTop (mkF m pc ls st)) tg
theorem ow {Z : State} {a0 : Array Value} (hw : ∀ d ∈ tables_1, d.before a0 Z = true) (i : Nat) {d : Jvm.Cond} (h : tables_1[i]? = some d) : d.before a0 Z = true := hw _ (List.mem_of_getElem? h)
theorem own_lrem {p : Program} {l : Launch} {e : Env} {R : Room} {s : State} {m : MethodId} {args : Array Value} {below : List Frame} {meth : Method} {c : Code} {T : State} {locs : List Loc} {cells slots : Nat} {g : JFrame} {target : State} (X : Stand p l e R s m args below meth c T locs cells slots) (hx : p.tables.exec = Jvm.exec) (hg : g.method = m) {x y : Int64} {rest : List Value} (hd : decode c.code g.pc = .ok (.lrem, 1)) (hs : g.stack = .long y :: .long x :: rest) (hy : y ≠ 0)
    (hr : Steps p.tables e below (T.setTop { g with pc := g.pc + 1, stack := .long (x % y) :: rest }) target) : Steps p.tables e below (T.setTop g) target :=
  XS.lrem X.here hx hg hd hs hy (by rw [lrem_mod]; exact hr)
theorem own_eqInt {args : Array Value} {first s : State} {o : Option Outcome} {idx : List Nat} {t : Term} {n : Int32} (h : (Jvm.Cond.eq t (.int n)).value args first o s idx = some true) : t.eval args first o idx s = some (.int n) := by
  simp only [Cond.value, Term.eval] at h
  cases ht : t.eval args first o idx s with
  | none => simp [ht] at h
  | some v => cases v <;> simp [ht] at h ⊢; exact h
theorem own_eqLong {args : Array Value} {first s : State} {o : Option Outcome} {idx : List Nat} {t : Term} {n : Int64} (h : (Jvm.Cond.eq t (.long n)).value args first o s idx = some true) : t.eval args first o idx s = some (.long n) := by
  simp only [Cond.value, Term.eval] at h
  cases ht : t.eval args first o idx s with
  | none => simp [ht] at h
  | some v => cases v <;> simp [ht] at h ⊢; exact h
theorem own_eqRef {args : Array Value} {first s : State} {o : Option Outcome} {idx : List Nat} {t u : Term} {a : Addr} (hu : u.eval args first o idx s = some (.ref a)) (h : (Jvm.Cond.eq t u).value args first o s idx = some true) : t.eval args first o idx s = some (.ref a) := by
  simp only [Cond.value, hu] at h
  cases ht : t.eval args first o idx s with
  | none => simp [ht] at h
  | some v => cases v <;> simp [ht] at h ⊢; exact h

theorem own_x32 {a b : Int} (h : (a - b) % 4294967296 = 0) (r : -2147483648 ≤ a ∧ a ≤ 2147483647) (q : -2147483648 ≤ b ∧ b ≤ 2147483647) : a = b := by omega
theorem own_x64 {a b : Int} (h : (a - b) % 18446744073709551616 = 0) (r : -9223372036854775808 ≤ a ∧ a ≤ 9223372036854775807) (q : -9223372036854775808 ≤ b ∧ b ≤ 9223372036854775807) : a = b := by omega
theorem own_in {c : Cell} {n : Int32} (j : Int32) (S : c.slots.size = n.toNatClampNeg) (q : ¬ j < 0 ∧ j < n) : ¬ (j < 0 ∨ c.slots.size ≤ j.toNatClampNeg) := inb_of S q
theorem own_up {x a b : Int32} (h : x < a) (q : a.toInt ≤ b.toInt) : x < b := Int32.lt_iff_toInt_lt.mpr (Int.lt_of_lt_of_le (Int32.lt_iff_toInt_lt.mp h) q)
theorem own_dn {x a b : Int32} (h : ¬ x < a) (q : b.toInt ≤ a.toInt) : ¬ x < b := fun z => h (own_up z q)
theorem own_neInt {args : Array Value} {first s : State} {o : Option Outcome} {idx : List Nat} {t : Term} {x n : Int32} (ht : t.eval args first o idx s = some (.int x)) (h : (Jvm.Cond.not (Jvm.Cond.eq t (.int n))).value args first o s idx = some true) : ¬ x = n := by
  simpa [Cond.value, Term.eval, ht] using h

theorem own_len {Z : State} {args : Array Value} {t : Term} {a : Addr} {cl : Cell} {ty : FieldType} {n : Int32} (ev : t.eval args Z none [] Z = some (.ref a)) (A : Arr Z Z.heap a cl ty) (h : (Term.length t).eval args Z none [] Z = some (.int n)) : cl.slots.size < 2 ^ 31 ∧ cl.slots.size.toInt32 = n := by
  have q := A.fin (U := Z) (Vm.Alike.refl _)
  simp only [Term.eval, ev, q, Option.bind_eq_bind, Option.bind_some, Option.pure_def] at h
  split at h
  · rename_i hlt; exact ⟨hlt, by simpa using h⟩
  · simp at h

theorem own_nar {v : Value} {c : String} (h : v.isRef = true) : narrow (.object c) v = v := by cases v <;> first | rfl | simp [Value.isRef] at h
theorem own_fits {v : Value} {c : String} (h : v.isRef = true) : fits (.object c) v = true := by cases v <;> first | rfl | simp [Value.isRef] at h
theorem own_cat {v : Value} (h : v.isRef = true) : v.category = 1 := by cases v <;> first | rfl | simp [Value.isRef] at h

theorem own_notOf {Z : State} {a0 : Array Value} {C S K : String} {n : Nat} (w : (Jvm.Cond.superclass C S).before a0 Z = true) (w0 : (Jvm.Cond.noSuperclass S).before a0 Z = true) (wk : (Jvm.Cond.instantiable K n).before a0 Z = true) (h1 : C ≠ K) (h2 : S ≠ K) :
    ∃ c t, Z.vm.findClass C = some c ∧ Z.vm.findClass K = some t ∧ Z.vm.assignable c t = false := by
  obtain ⟨t, k', g0, g2, g5, g7, -⟩ := Cond.instantiable_spec wk
  obtain ⟨c, h0⟩ := found_sup w
  obtain ⟨p, k, kp, q1, q2, q3, q4, q5, q6, q7⟩ := Cond.superclass_spec h0 w
  obtain ⟨c0, k0, r1, r2, r3, -, -⟩ := Cond.noSuperclass_spec w0
  cases q1.symm.trans r1
  have ne1 := ids_ne h0 g0 h1
  have ne2 := ids_ne r1 g0 h2
  have g8 := (Bool.or_eq_false_iff.mp g7).1
  have n3 : ∀ fuel, Z.vm.isSubclassAux fuel c t = false := by
    intro fuel
    cases fuel with
    | zero => rfl
    | succ f =>
      cases f with
      | zero => simp [Vm.isSubclassAux, ne1, q2, q4]
      | succ g => simp [Vm.isSubclassAux, ne1, ne2, q2, q4, r2, r3]
  refine ⟨c, t, h0, g0, ?_⟩
  show Z.vm.assignableAux (255 + 1) c t = false
  simp [Vm.assignableAux, ne1, q2, g2, q5, g5, g8, Vm.isSubclass, n3]

theorem own_selP {Z s : State} {a0 args : Array Value} {y : MethodName} {n : Nat} (hZ : Z.Warmed39 s.vm) (wi : (Jvm.Cond.instantiable y.cls n).before a0 Z = true) (wp : (Jvm.Cond.privateMethod y).before a0 Z = true) (wm : (Jvm.Cond.instanceMethod y).before a0 Z = true) (hy : y.cls ≠ "java/lang/invoke/MethodHandle" ∧ y.cls ≠ "java/lang/invoke/VarHandle") : (Jvm.Cond.selects y.cls y y).before args s = true := by
  obtain ⟨c, k, hc, hk, -, hni, -⟩ := Cond.instantiable_spec (mvT (s := s) (args := args) hZ wi)
  exact selects_self_of_private hc hk (Bool.or_eq_false_iff.mp hni).1 (Cond.privateMethod_at (mvP hZ wp (args := #[]))) (mvT hZ wm) hy

theorem own_neS {Z : State} {h : Heap} {a b u w : Addr} {C f d : String} {k k' : ClassId} {ty : FieldType} {z z' : Int32} {vs vs' : List Value} {dv dv' : Value} (Fa : Fld Z h a C f d (.ref u)) (Va : Arv Z h u k ty z vs dv) (Fb : Fld Z h b C f d (.ref w)) (Vb : Arv Z h w k' ty z' vs' dv') (hn : z ≠ z' ∨ ∃ i : Nat, i < z.toNatClampNeg ∧ vs.getD i dv ≠ vs'.getD i dv') : a ≠ b := fun e => by
  subst e
  have hu : u = w := by
    rcases Decidable.em (u = w) with q | q
    · exact q
    · exact absurd rfl (Fld.ne Fa Fb (fun x => q (Value.ref.inj x)))
  subst hu
  obtain ⟨c1, A1, -, S1, N1, H1, -⟩ := Va
  obtain ⟨c2, A2, -, S2, N2, H2, -⟩ := Vb
  cases A1.1.symm.trans A2.1
  rcases hn with hn | ⟨i, hi, hn⟩
  · exact hn ((len_of S1 N1).symm.trans (len_of S2 N2))
  · have q1 := H1 i (by rw [S1]; exact hi)
    have q2 := H2 i (by rw [S1]; exact hi)
    exact hn (Option.some.inj (q1.symm.trans q2))
def Wd (Z : State) (w_KSNU0 : Addr) (w_UP : Addr) (w_ALL : Addr) (w_KSNR1 : Addr) (w_RIGHT : Addr) (w_DOWN : Addr) (w_KSND2 : Addr) (w_LEFT : Addr) (w_KSNL3 : Addr) (w_KDC4 : Addr) (w_CENTER : Addr) (w_KEYCODE_CALL : Addr) (w_CALL : Addr) (w_BACK : Addr) (w_KEYCODE_BACK : Addr) (w_HOME : Addr) (w_KEYCODE_HOME : Addr) (w_KM5 : Addr) (w_MUSIC : Addr) (k_ALL : ClassId) : Prop :=
  Sta Z Z.heap "com/example/nudge_knob/nudgeknob/KeyCode" "KEYCODE_SYSTEM_NAVIGATION_UP" "Lcom/example/nudge_knob/nudgeknob/KeyCode;" (.ref w_KSNU0) ∧
  Exa Z Z.heap w_KSNU0 "com/example/nudge_knob/nudgeknob/KeyCode" ∧
  Sta Z Z.heap "com/example/nudge_knob/nudgeknob/Button" "UP" "Lcom/example/nudge_knob/nudgeknob/Button;" (.ref w_UP) ∧
  Exa Z Z.heap w_UP "com/example/nudge_knob/nudgeknob/Button" ∧
  Sta Z Z.heap "com/example/nudge_knob/nudgeknob/Button" "ALL" "[Lcom/example/nudge_knob/nudgeknob/Button;" (.ref w_ALL) ∧
  Sta Z Z.heap "com/example/nudge_knob/nudgeknob/KeyCode" "KEYCODE_SYSTEM_NAVIGATION_RIGHT" "Lcom/example/nudge_knob/nudgeknob/KeyCode;" (.ref w_KSNR1) ∧
  Exa Z Z.heap w_KSNR1 "com/example/nudge_knob/nudgeknob/KeyCode" ∧
  Sta Z Z.heap "com/example/nudge_knob/nudgeknob/Button" "RIGHT" "Lcom/example/nudge_knob/nudgeknob/Button;" (.ref w_RIGHT) ∧
  Exa Z Z.heap w_RIGHT "com/example/nudge_knob/nudgeknob/Button" ∧
  Fld Z Z.heap w_KSNU0 "java/lang/Enum" "ordinal" "I" (.int (0 : Int32)) ∧
  Fld Z Z.heap w_KSNR1 "java/lang/Enum" "ordinal" "I" (.int (3 : Int32)) ∧
  Sta Z Z.heap "com/example/nudge_knob/nudgeknob/Button" "DOWN" "Lcom/example/nudge_knob/nudgeknob/Button;" (.ref w_DOWN) ∧
  Exa Z Z.heap w_DOWN "com/example/nudge_knob/nudgeknob/Button" ∧
  Sta Z Z.heap "com/example/nudge_knob/nudgeknob/KeyCode" "KEYCODE_SYSTEM_NAVIGATION_DOWN" "Lcom/example/nudge_knob/nudgeknob/KeyCode;" (.ref w_KSND2) ∧
  Exa Z Z.heap w_KSND2 "com/example/nudge_knob/nudgeknob/KeyCode" ∧
  Fld Z Z.heap w_KSND2 "java/lang/Enum" "ordinal" "I" (.int (1 : Int32)) ∧
  Sta Z Z.heap "com/example/nudge_knob/nudgeknob/Button" "LEFT" "Lcom/example/nudge_knob/nudgeknob/Button;" (.ref w_LEFT) ∧
  Exa Z Z.heap w_LEFT "com/example/nudge_knob/nudgeknob/Button" ∧
  Sta Z Z.heap "com/example/nudge_knob/nudgeknob/KeyCode" "KEYCODE_SYSTEM_NAVIGATION_LEFT" "Lcom/example/nudge_knob/nudgeknob/KeyCode;" (.ref w_KSNL3) ∧
  Exa Z Z.heap w_KSNL3 "com/example/nudge_knob/nudgeknob/KeyCode" ∧
  Fld Z Z.heap w_KSNL3 "java/lang/Enum" "ordinal" "I" (.int (2 : Int32)) ∧
  Sta Z Z.heap "com/example/nudge_knob/nudgeknob/KeyCode" "KEYCODE_DPAD_CENTER" "Lcom/example/nudge_knob/nudgeknob/KeyCode;" (.ref w_KDC4) ∧
  Exa Z Z.heap w_KDC4 "com/example/nudge_knob/nudgeknob/KeyCode" ∧
  Sta Z Z.heap "com/example/nudge_knob/nudgeknob/Button" "CENTER" "Lcom/example/nudge_knob/nudgeknob/Button;" (.ref w_CENTER) ∧
  Exa Z Z.heap w_CENTER "com/example/nudge_knob/nudgeknob/Button" ∧
  Fld Z Z.heap w_KDC4 "java/lang/Enum" "ordinal" "I" (.int (4 : Int32)) ∧
  Sta Z Z.heap "com/example/nudge_knob/nudgeknob/KeyCode" "KEYCODE_CALL" "Lcom/example/nudge_knob/nudgeknob/KeyCode;" (.ref w_KEYCODE_CALL) ∧
  Exa Z Z.heap w_KEYCODE_CALL "com/example/nudge_knob/nudgeknob/KeyCode" ∧
  Sta Z Z.heap "com/example/nudge_knob/nudgeknob/Button" "CALL" "Lcom/example/nudge_knob/nudgeknob/Button;" (.ref w_CALL) ∧
  Exa Z Z.heap w_CALL "com/example/nudge_knob/nudgeknob/Button" ∧
  Fld Z Z.heap w_KEYCODE_CALL "java/lang/Enum" "ordinal" "I" (.int (7 : Int32)) ∧
  Sta Z Z.heap "com/example/nudge_knob/nudgeknob/Button" "BACK" "Lcom/example/nudge_knob/nudgeknob/Button;" (.ref w_BACK) ∧
  Exa Z Z.heap w_BACK "com/example/nudge_knob/nudgeknob/Button" ∧
  Sta Z Z.heap "com/example/nudge_knob/nudgeknob/KeyCode" "KEYCODE_BACK" "Lcom/example/nudge_knob/nudgeknob/KeyCode;" (.ref w_KEYCODE_BACK) ∧
  Exa Z Z.heap w_KEYCODE_BACK "com/example/nudge_knob/nudgeknob/KeyCode" ∧
  Fld Z Z.heap w_KEYCODE_BACK "java/lang/Enum" "ordinal" "I" (.int (5 : Int32)) ∧
  Sta Z Z.heap "com/example/nudge_knob/nudgeknob/Button" "HOME" "Lcom/example/nudge_knob/nudgeknob/Button;" (.ref w_HOME) ∧
  Exa Z Z.heap w_HOME "com/example/nudge_knob/nudgeknob/Button" ∧
  Sta Z Z.heap "com/example/nudge_knob/nudgeknob/KeyCode" "KEYCODE_HOME" "Lcom/example/nudge_knob/nudgeknob/KeyCode;" (.ref w_KEYCODE_HOME) ∧
  Exa Z Z.heap w_KEYCODE_HOME "com/example/nudge_knob/nudgeknob/KeyCode" ∧
  Fld Z Z.heap w_KEYCODE_HOME "java/lang/Enum" "ordinal" "I" (.int (6 : Int32)) ∧
  Sta Z Z.heap "com/example/nudge_knob/nudgeknob/KeyCode" "KEYCODE_MUSIC" "Lcom/example/nudge_knob/nudgeknob/KeyCode;" (.ref w_KM5) ∧
  Exa Z Z.heap w_KM5 "com/example/nudge_knob/nudgeknob/KeyCode" ∧
  Sta Z Z.heap "com/example/nudge_knob/nudgeknob/Button" "MUSIC" "Lcom/example/nudge_knob/nudgeknob/Button;" (.ref w_MUSIC) ∧
  Exa Z Z.heap w_MUSIC "com/example/nudge_knob/nudgeknob/Button" ∧
  Fld Z Z.heap w_KM5 "java/lang/Enum" "ordinal" "I" (.int (8 : Int32)) ∧
  Fld Z Z.heap w_UP "com/example/nudge_knob/nudgeknob/Button" "keyCode" "Lcom/example/nudge_knob/nudgeknob/KeyCode;" (.ref w_KSNU0) ∧
  Fld Z Z.heap w_DOWN "com/example/nudge_knob/nudgeknob/Button" "keyCode" "Lcom/example/nudge_knob/nudgeknob/KeyCode;" (.ref w_KSND2) ∧
  Fld Z Z.heap w_LEFT "com/example/nudge_knob/nudgeknob/Button" "keyCode" "Lcom/example/nudge_knob/nudgeknob/KeyCode;" (.ref w_KSNL3) ∧
  Fld Z Z.heap w_RIGHT "com/example/nudge_knob/nudgeknob/Button" "keyCode" "Lcom/example/nudge_knob/nudgeknob/KeyCode;" (.ref w_KSNR1) ∧
  Fld Z Z.heap w_CENTER "com/example/nudge_knob/nudgeknob/Button" "keyCode" "Lcom/example/nudge_knob/nudgeknob/KeyCode;" (.ref w_KDC4) ∧
  Fld Z Z.heap w_BACK "com/example/nudge_knob/nudgeknob/Button" "keyCode" "Lcom/example/nudge_knob/nudgeknob/KeyCode;" (.ref w_KEYCODE_BACK) ∧
  Fld Z Z.heap w_HOME "com/example/nudge_knob/nudgeknob/Button" "keyCode" "Lcom/example/nudge_knob/nudgeknob/KeyCode;" (.ref w_KEYCODE_HOME) ∧
  Fld Z Z.heap w_CALL "com/example/nudge_knob/nudgeknob/Button" "keyCode" "Lcom/example/nudge_knob/nudgeknob/KeyCode;" (.ref w_KEYCODE_CALL) ∧
  Fld Z Z.heap w_MUSIC "com/example/nudge_knob/nudgeknob/Button" "keyCode" "Lcom/example/nudge_knob/nudgeknob/KeyCode;" (.ref w_KM5) ∧
  Arv Z Z.heap w_ALL k_ALL (.object "com/example/nudge_knob/nudgeknob/Button") (9 : Int32) [(.ref w_UP), (.ref w_DOWN), (.ref w_LEFT), (.ref w_RIGHT), (.ref w_CENTER), (.ref w_BACK), (.ref w_HOME), (.ref w_CALL), (.ref w_MUSIC)] .null
theorem pn_0 : plainName "com/example/nudge_knob/nudgeknob/ButtonOfKeyCodePinLaw" = true := by first | (simp [plainName, overriddenIn]; done) | decide +kernel
theorem pn_1 : plainName "com/example/nudge_knob/nudgeknob/Button" = true := by first | (simp [plainName, overriddenIn]; done) | decide +kernel
theorem pd_0 : parseMethodDescriptor "(I)Lcom/example/nudge_knob/nudgeknob/KeyCode;" = some ⟨[.int], some (.object "com/example/nudge_knob/nudgeknob/KeyCode")⟩ := by decide +kernel
theorem pd_1 : parseMethodDescriptor "(I)Lcom/example/nudge_knob/nudgeknob/Button;" = some ⟨[.int], some (.object "com/example/nudge_knob/nudgeknob/Button")⟩ := by decide +kernel
theorem pd_2 : parseMethodDescriptor "(Lcom/example/nudge_knob/nudgeknob/KeyCode;)Lcom/example/nudge_knob/nudgeknob/Button;" = some ⟨[(.object "com/example/nudge_knob/nudgeknob/KeyCode")], some (.object "com/example/nudge_knob/nudgeknob/Button")⟩ := by decide +kernel
theorem own_k (x : Int32) : (x &&& (2147483647 : Int32)) % (10 : Int32) = (0 : Int32) ∨ (x &&& (2147483647 : Int32)) % (10 : Int32) = (1 : Int32) ∨ (x &&& (2147483647 : Int32)) % (10 : Int32) = (2 : Int32) ∨ (x &&& (2147483647 : Int32)) % (10 : Int32) = (3 : Int32) ∨ (x &&& (2147483647 : Int32)) % (10 : Int32) = (4 : Int32) ∨ (x &&& (2147483647 : Int32)) % (10 : Int32) = (5 : Int32) ∨ (x &&& (2147483647 : Int32)) % (10 : Int32) = (6 : Int32) ∨ (x &&& (2147483647 : Int32)) % (10 : Int32) = (7 : Int32) ∨ (x &&& (2147483647 : Int32)) % (10 : Int32) = (8 : Int32) ∨ (x &&& (2147483647 : Int32)) % (10 : Int32) = (9 : Int32) := by
  have h1 := c_mask x (2147483647 : Int32) 31 (by decide) (by decide)
  have h0 : 0 ≤ x.toInt % (2 ^ 31 : Nat) := Int.emod_nonneg _ (by decide)
  have h2 := (c_irem (x &&& (2147483647 : Int32)) (10 : Int32) 10 rfl).1 (by rw [h1]; exact h0)
  have l0 : ((0 : Int32)).toInt = 0 := rfl
  have l1 : ((1 : Int32)).toInt = 1 := rfl
  have l2 : ((2 : Int32)).toInt = 2 := rfl
  have l3 : ((3 : Int32)).toInt = 3 := rfl
  have l4 : ((4 : Int32)).toInt = 4 := rfl
  have l5 : ((5 : Int32)).toInt = 5 := rfl
  have l6 : ((6 : Int32)).toInt = 6 := rfl
  have l7 : ((7 : Int32)).toInt = 7 := rfl
  have l8 : ((8 : Int32)).toInt = 8 := rfl
  have l9 : ((9 : Int32)).toInt = 9 := rfl
  simp only [← Int32.toInt_inj, l0, l1, l2, l3, l4, l5, l6, l7, l8, l9]
  omega

theorem d1_0 : decode method_2_code 0 = .ok (.iload_n 0, 1) := by decide +kernel
theorem d1_1 : decode method_2_code 1 = .ok (.ifCond .ne 7, 3) := by decide +kernel
theorem d1_4 : decode method_2_code 4 = .ok (.getstatic 7, 3) := by decide +kernel
theorem d1_7 : decode method_2_code 7 = .ok (.areturn, 1) := by decide +kernel
theorem d1_8 : decode method_2_code 8 = .ok (.iload_n 0, 1) := by decide +kernel
theorem d1_9 : decode method_2_code 9 = .ok (.iconst 1, 1) := by decide +kernel
theorem d1_10 : decode method_2_code 10 = .ok (.if_icmp .ne 7, 3) := by decide +kernel
theorem d1_13 : decode method_2_code 13 = .ok (.getstatic 13, 3) := by decide +kernel
theorem d1_16 : decode method_2_code 16 = .ok (.areturn, 1) := by decide +kernel
theorem d1_17 : decode method_2_code 17 = .ok (.iload_n 0, 1) := by decide +kernel
theorem d1_18 : decode method_2_code 18 = .ok (.iconst 2, 1) := by decide +kernel
theorem d1_19 : decode method_2_code 19 = .ok (.if_icmp .ne 7, 3) := by decide +kernel
theorem d1_22 : decode method_2_code 22 = .ok (.getstatic 16, 3) := by decide +kernel
theorem d1_25 : decode method_2_code 25 = .ok (.areturn, 1) := by decide +kernel
theorem d1_26 : decode method_2_code 26 = .ok (.iload_n 0, 1) := by decide +kernel
theorem d1_27 : decode method_2_code 27 = .ok (.iconst 3, 1) := by decide +kernel
theorem d1_28 : decode method_2_code 28 = .ok (.if_icmp .ne 7, 3) := by decide +kernel
theorem d1_31 : decode method_2_code 31 = .ok (.getstatic 19, 3) := by decide +kernel
theorem d1_34 : decode method_2_code 34 = .ok (.areturn, 1) := by decide +kernel
theorem d1_35 : decode method_2_code 35 = .ok (.iload_n 0, 1) := by decide +kernel
theorem d1_36 : decode method_2_code 36 = .ok (.iconst 4, 1) := by decide +kernel
theorem d1_37 : decode method_2_code 37 = .ok (.if_icmp .ne 7, 3) := by decide +kernel
theorem d1_40 : decode method_2_code 40 = .ok (.getstatic 22, 3) := by decide +kernel
theorem d1_43 : decode method_2_code 43 = .ok (.areturn, 1) := by decide +kernel
theorem d1_44 : decode method_2_code 44 = .ok (.iload_n 0, 1) := by decide +kernel
theorem d1_45 : decode method_2_code 45 = .ok (.iconst 5, 1) := by decide +kernel
theorem d1_46 : decode method_2_code 46 = .ok (.if_icmp .ne 7, 3) := by decide +kernel
theorem d1_49 : decode method_2_code 49 = .ok (.getstatic 25, 3) := by decide +kernel
theorem d1_52 : decode method_2_code 52 = .ok (.areturn, 1) := by decide +kernel
theorem d1_53 : decode method_2_code 53 = .ok (.iload_n 0, 1) := by decide +kernel
theorem d1_54 : decode method_2_code 54 = .ok (.bipush 6, 2) := by decide +kernel
theorem d1_56 : decode method_2_code 56 = .ok (.if_icmp .ne 7, 3) := by decide +kernel
theorem d1_59 : decode method_2_code 59 = .ok (.getstatic 28, 3) := by decide +kernel
theorem d1_62 : decode method_2_code 62 = .ok (.areturn, 1) := by decide +kernel
theorem d1_63 : decode method_2_code 63 = .ok (.iload_n 0, 1) := by decide +kernel
theorem d1_64 : decode method_2_code 64 = .ok (.bipush 7, 2) := by decide +kernel
theorem d1_66 : decode method_2_code 66 = .ok (.if_icmp .ne 7, 3) := by decide +kernel
theorem d1_69 : decode method_2_code 69 = .ok (.getstatic 31, 3) := by decide +kernel
theorem d1_72 : decode method_2_code 72 = .ok (.areturn, 1) := by decide +kernel
theorem d1_73 : decode method_2_code 73 = .ok (.iload_n 0, 1) := by decide +kernel
theorem d1_74 : decode method_2_code 74 = .ok (.bipush 8, 2) := by decide +kernel
theorem d1_76 : decode method_2_code 76 = .ok (.if_icmp .ne 7, 3) := by decide +kernel
theorem d1_79 : decode method_2_code 79 = .ok (.getstatic 34, 3) := by decide +kernel
theorem d1_82 : decode method_2_code 82 = .ok (.areturn, 1) := by decide +kernel
theorem d1_83 : decode method_2_code 83 = .ok (.aconst_null, 1) := by decide +kernel
theorem d1_84 : decode method_2_code 84 = .ok (.areturn, 1) := by decide +kernel
theorem ef_1 (m : MethodId) (p0 : Int32) : entryFrame m #[(.int p0)] 1 = mkF m 0 #[iv p0] [] := by first | (simp [entryFrame, mkF, argsToLocals, Value.category]; done) | rfl
def f1 (p0 : Int32) (w_KSNU0 : Addr) (w_KSNR1 : Addr) (w_KSND2 : Addr) (w_KSNL3 : Addr) (w_KDC4 : Addr) (w_KEYCODE_CALL : Addr) (w_KEYCODE_BACK : Addr) (w_KEYCODE_HOME : Addr) (w_KM5 : Addr) : Value := if p0 = (0 : Int32) then (.ref w_KSNU0) else (if p0 = (1 : Int32) then (.ref w_KSND2) else (if p0 = (2 : Int32) then (.ref w_KSNL3) else (if p0 = (3 : Int32) then (.ref w_KSNR1) else (if p0 = (4 : Int32) then (.ref w_KDC4) else (if p0 = (5 : Int32) then (.ref w_KEYCODE_BACK) else (if p0 = (6 : Int32) then (.ref w_KEYCODE_HOME) else (if p0 = (7 : Int32) then (.ref w_KEYCODE_CALL) else (if p0 = (8 : Int32) then (.ref w_KM5) else .null))))))))
def Q1 (Z : State) (p0 : Int32) (w_KSNU0 : Addr) (w_UP : Addr) (w_ALL : Addr) (w_KSNR1 : Addr) (w_RIGHT : Addr) (w_DOWN : Addr) (w_KSND2 : Addr) (w_LEFT : Addr) (w_KSNL3 : Addr) (w_KDC4 : Addr) (w_CENTER : Addr) (w_KEYCODE_CALL : Addr) (w_CALL : Addr) (w_BACK : Addr) (w_KEYCODE_BACK : Addr) (w_HOME : Addr) (w_KEYCODE_HOME : Addr) (w_KM5 : Addr) (w_MUSIC : Addr) (k_ALL : ClassId) (h0 : Heap) (n0 : Nat) (v : Option Value) (h : Heap) (L : List Loc) : Prop := v = some (f1 p0 w_KSNU0 w_KSNR1 w_KSND2 w_KSNL3 w_KDC4 w_KEYCODE_CALL w_KEYCODE_BACK w_KEYCODE_HOME w_KM5) ∧ Fr n0 L ∧ h = h0
set_option maxRecDepth 65536 in
set_option maxHeartbeats 40000000 in
theorem rm1 (l : Launch) (Z : State) (ar : Array Value) (hw : ∀ d ∈ tables_1, d.before ar Z = true) (ws : List Jvm.Cond) (p0 : Int32) (w_KSNU0 : Addr) (w_UP : Addr) (w_ALL : Addr) (w_KSNR1 : Addr) (w_RIGHT : Addr) (w_DOWN : Addr) (w_KSND2 : Addr) (w_LEFT : Addr) (w_KSNL3 : Addr) (w_KDC4 : Addr) (w_CENTER : Addr) (w_KEYCODE_CALL : Addr) (w_CALL : Addr) (w_BACK : Addr) (w_KEYCODE_BACK : Addr) (w_HOME : Addr) (w_KEYCODE_HOME : Addr) (w_KM5 : Addr) (w_MUSIC : Addr) (k_ALL : ClassId) (h0 : Heap) (n0 : Nat) (O0 : Old Z n0 h0) (HW : Wd Z w_KSNU0 w_UP w_ALL w_KSNR1 w_RIGHT w_DOWN w_KSND2 w_LEFT w_KSNL3 w_KDC4 w_CENTER w_KEYCODE_CALL w_CALL w_BACK w_KEYCODE_BACK w_HOME w_KEYCODE_HOME w_KM5 w_MUSIC k_ALL) :
    MetFree l y1 (head1 (Jvm.Cond.code y1 method_2_code 1 (some (.object "com/example/nudge_knob/nudgeknob/KeyCode")) :: ws) ({ frames := 0, cells := 0, slots := 0, locals := 0 } : Room)) (fun a U => a = #[(.int p0)] ∧ Z.Warmed39 U.vm ∧ U.heap = h0) (fun _ _ _ _ _ => True) (fun _ U o U' => ∃ v L, o = .returned v ∧ Q1 Z p0 w_KSNU0 w_UP w_ALL w_KSNR1 w_RIGHT w_DOWN w_KSND2 w_LEFT w_KSNL3 w_KDC4 w_CENTER w_KEYCODE_CALL w_CALL w_BACK w_KEYCODE_BACK w_HOME w_KEYCODE_HOME w_KM5 w_MUSIC k_ALL h0 n0 v U'.heap L ∧ FrameEnd U o U' L ({ frames := 0, cells := 0, slots := 0, locals := 0 } : Room).cells ({ frames := 0, cells := 0, slots := 0, locals := 0 } : Room).slots) := by
 refine MetFree.of_bodySF (plainFor_of_name pn_0) hisR ?_
 intro p e s m args below meth c s₁ Bd hml0 hP hK
 obtain ⟨rfl, hZ, hh⟩ := hP
 have hx := Bd.exec
 have hby := Bd.bytes
 have hml : c.maxLocals = 1 := hml0
 have hown : s.vm.findClass "com/example/nudge_knob/nudgeknob/ButtonOfKeyCodePinLaw" = some m.cls := findClass_of_methodNamed Bd.named
 have hnm := (name_of_methodNamed Bd.named Bd.method).1
 have X0 : Stand p l e ({ frames := 0, cells := 0, slots := 0, locals := 0 } : Room) s m #[(.int p0)] below meth c s₁ [] 0 0 := Stand.of_body Bd
 have e0 : s₁.heap = h0 := by rw [← hh, Bd.state]; rfl
 have N0 := Fr.nil n0
 have Z0 : n0 ≤ h0.size := Nat.le_trans (Nat.le_of_eq O0.1.symm) O0.2.1
 obtain ⟨S0, hS0⟩ : ∃ z, z = s₁.setTop (entryFrame m #[(.int p0)] 1) := ⟨_, rfl⟩
 have pre0 : ∀ tg, AT p e below s₁ m 0 #[iv p0] [] tg → Steps p.tables e below S0 tg := fun tg kg => by rw [hS0]; exact castTop (ef_1 m p0) kg
 obtain ⟨S_KEYCODE_SYSTEM_NAVIGATION_UP, E_KSNU0, S_UP, E_UP, S_ALL, S_KEYCODE_SYSTEM_NAVIGATION_RIGHT, E_KSNR1, S_RIGHT, E_RIGHT, F_ordinal_KSNU0, F_ordinal_KSNR1, S_DOWN, E_DOWN, S_KEYCODE_SYSTEM_NAVIGATION_DOWN, E_KSND2, F_ordinal_KSND2, S_LEFT, E_LEFT, S_KEYCODE_SYSTEM_NAVIGATION_LEFT, E_KSNL3, F_ordinal_KSNL3, S_KEYCODE_DPAD_CENTER, E_KDC4, S_CENTER, E_CENTER, F_ordinal_KDC4, S_KEYCODE_CALL, E_KEYCODE_CALL, S_CALL, E_CALL, F_ordinal_KEYCODE_CALL, S_BACK, E_BACK, S_KEYCODE_BACK, E_KEYCODE_BACK, F_ordinal_KEYCODE_BACK, S_HOME, E_HOME, S_KEYCODE_HOME, E_KEYCODE_HOME, F_ordinal_KEYCODE_HOME, S_KEYCODE_MUSIC, E_KM5, S_MUSIC, E_MUSIC, F_ordinal_KM5, F_keyCode_UP, F_keyCode_DOWN, F_keyCode_LEFT, F_keyCode_RIGHT, F_keyCode_CENTER, F_keyCode_BACK, F_keyCode_HOME, F_keyCode_CALL, F_keyCode_MUSIC, V_ALL⟩ := id HW
 have pre1 : ∀ tg, AT p e below s₁ m 1 #[iv p0] [(.int p0)] tg → Steps p.tables e below S0 tg := fun tg kg => pre0 tg (by
  refine XS.iloadN X0.here hx rfl (hb hby d1_0) rfl ?_
  exact kg)
 rcases Decidable.em (p0 = (0 : Int32)) with hc2 | hc2
 ·
  obtain ⟨T3, X3, e3, st3⟩ := getS2 X0 hx hZ hown (host := "") (Or.inl (ow hw 5 rfl)) Via.refl e0 (S_KEYCODE_SYSTEM_NAVIGATION_UP.ext O0.2) (g := (mkF m 4 #[iv p0] [])) rfl (hb hby d1_4)
  obtain ⟨fs, hr, hrun, hended, hW, hsame⟩ := X3.leave (v := some (.ref w_KSNU0)) (fun h => by rw [Bd.returns] at h; cases h)
  subst hS0
  refine ⟨_, _, pre1 _ ?_, hrun, hended, _, _, rfl, ?_, ⟨_, rfl⟩, hW, hsame.mono (by decide) (by decide)⟩
  ·
   refine XS.ifNo X0.here hx rfl (hb hby d1_1) rfl (XT.i0_ne_f hc2) ?_
   show AT p e below s₁ m 4 #[iv p0] [] _
   refine st3 _ ?_
   show AT p e below T3 m 7 #[iv p0] [(.ref w_KSNU0)] _
   exact retOut X3 hx (t := (.object "com/example/nudge_knob/nudgeknob/KeyCode")) (i := .areturn) Bd.returns rfl (Or.inr (Or.inr (Or.inr (Or.inr ⟨rfl, rfl, rfl⟩)))) (hb hby d1_7) hr
  ·
   show Q1 Z p0 w_KSNU0 w_UP w_ALL w_KSNR1 w_RIGHT w_DOWN w_KSND2 w_LEFT w_KSNL3 w_KDC4 w_CENTER w_KEYCODE_CALL w_CALL w_BACK w_KEYCODE_BACK w_HOME w_KEYCODE_HOME w_KM5 w_MUSIC k_ALL h0 n0 _ T3.heap _
   rw [e3]
   exact ⟨(by rw [f1, if_pos hc2]), N0, rfl⟩
 ·
  have pre4 : ∀ tg, AT p e below s₁ m 10 #[iv p0] [(.int (1 : Int32)), (.int p0)] tg → Steps p.tables e below S0 tg := fun tg kg => pre1 tg (by
   refine XS.ifYes X0.here hx rfl (pc0 := 1) (pc' := 8) rfl (hb hby d1_1) rfl (XT.i0_ne_t hc2) (by decide) (by decide) ?_
   show AT p e below s₁ m 8 #[iv p0] [] _
   refine XS.iloadN X0.here hx rfl (hb hby d1_8) rfl ?_
   show AT p e below s₁ m 9 #[iv p0] [(.int p0)] _
   refine XS.iconst X0.here hx rfl (hb hby d1_9) ?_
   exact kg)
  rcases Decidable.em (p0 = (1 : Int32)) with hc5 | hc5
  ·
   obtain ⟨T6, X6, e6, st6⟩ := getS2 X0 hx hZ hown (host := "") (Or.inl (ow hw 29 rfl)) Via.refl e0 (S_KEYCODE_SYSTEM_NAVIGATION_DOWN.ext O0.2) (g := (mkF m 13 #[iv p0] [])) rfl (hb hby d1_13)
   obtain ⟨fs, hr, hrun, hended, hW, hsame⟩ := X6.leave (v := some (.ref w_KSND2)) (fun h => by rw [Bd.returns] at h; cases h)
   subst hS0
   refine ⟨_, _, pre4 _ ?_, hrun, hended, _, _, rfl, ?_, ⟨_, rfl⟩, hW, hsame.mono (by decide) (by decide)⟩
   ·
    refine XS.icmpNo X0.here hx rfl (hb hby d1_10) rfl (XT.ii_ne_f hc5) ?_
    show AT p e below s₁ m 13 #[iv p0] [] _
    refine st6 _ ?_
    show AT p e below T6 m 16 #[iv p0] [(.ref w_KSND2)] _
    exact retOut X6 hx (t := (.object "com/example/nudge_knob/nudgeknob/KeyCode")) (i := .areturn) Bd.returns rfl (Or.inr (Or.inr (Or.inr (Or.inr ⟨rfl, rfl, rfl⟩)))) (hb hby d1_16) hr
   ·
    show Q1 Z p0 w_KSNU0 w_UP w_ALL w_KSNR1 w_RIGHT w_DOWN w_KSND2 w_LEFT w_KSNL3 w_KDC4 w_CENTER w_KEYCODE_CALL w_CALL w_BACK w_KEYCODE_BACK w_HOME w_KEYCODE_HOME w_KM5 w_MUSIC k_ALL h0 n0 _ T6.heap _
    rw [e6]
    exact ⟨(by rw [f1, if_neg hc2, if_pos hc5]), N0, rfl⟩
  ·
   have pre7 : ∀ tg, AT p e below s₁ m 19 #[iv p0] [(.int (2 : Int32)), (.int p0)] tg → Steps p.tables e below S0 tg := fun tg kg => pre4 tg (by
    refine XS.icmpYes X0.here hx rfl (pc0 := 10) (pc' := 17) rfl (hb hby d1_10) rfl (XT.ii_ne_t hc5) (by decide) (by decide) ?_
    show AT p e below s₁ m 17 #[iv p0] [] _
    refine XS.iloadN X0.here hx rfl (hb hby d1_17) rfl ?_
    show AT p e below s₁ m 18 #[iv p0] [(.int p0)] _
    refine XS.iconst X0.here hx rfl (hb hby d1_18) ?_
    exact kg)
   rcases Decidable.em (p0 = (2 : Int32)) with hc8 | hc8
   ·
    obtain ⟨T9, X9, e9, st9⟩ := getS2 X0 hx hZ hown (host := "") (Or.inl (ow hw 43 rfl)) Via.refl e0 (S_KEYCODE_SYSTEM_NAVIGATION_LEFT.ext O0.2) (g := (mkF m 22 #[iv p0] [])) rfl (hb hby d1_22)
    obtain ⟨fs, hr, hrun, hended, hW, hsame⟩ := X9.leave (v := some (.ref w_KSNL3)) (fun h => by rw [Bd.returns] at h; cases h)
    subst hS0
    refine ⟨_, _, pre7 _ ?_, hrun, hended, _, _, rfl, ?_, ⟨_, rfl⟩, hW, hsame.mono (by decide) (by decide)⟩
    ·
     refine XS.icmpNo X0.here hx rfl (hb hby d1_19) rfl (XT.ii_ne_f hc8) ?_
     show AT p e below s₁ m 22 #[iv p0] [] _
     refine st9 _ ?_
     show AT p e below T9 m 25 #[iv p0] [(.ref w_KSNL3)] _
     exact retOut X9 hx (t := (.object "com/example/nudge_knob/nudgeknob/KeyCode")) (i := .areturn) Bd.returns rfl (Or.inr (Or.inr (Or.inr (Or.inr ⟨rfl, rfl, rfl⟩)))) (hb hby d1_25) hr
    ·
     show Q1 Z p0 w_KSNU0 w_UP w_ALL w_KSNR1 w_RIGHT w_DOWN w_KSND2 w_LEFT w_KSNL3 w_KDC4 w_CENTER w_KEYCODE_CALL w_CALL w_BACK w_KEYCODE_BACK w_HOME w_KEYCODE_HOME w_KM5 w_MUSIC k_ALL h0 n0 _ T9.heap _
     rw [e9]
     exact ⟨(by rw [f1, if_neg hc2, if_neg hc5, if_pos hc8]), N0, rfl⟩
   ·
    have pre10 : ∀ tg, AT p e below s₁ m 28 #[iv p0] [(.int (3 : Int32)), (.int p0)] tg → Steps p.tables e below S0 tg := fun tg kg => pre7 tg (by
     refine XS.icmpYes X0.here hx rfl (pc0 := 19) (pc' := 26) rfl (hb hby d1_19) rfl (XT.ii_ne_t hc8) (by decide) (by decide) ?_
     show AT p e below s₁ m 26 #[iv p0] [] _
     refine XS.iloadN X0.here hx rfl (hb hby d1_26) rfl ?_
     show AT p e below s₁ m 27 #[iv p0] [(.int p0)] _
     refine XS.iconst X0.here hx rfl (hb hby d1_27) ?_
     exact kg)
    rcases Decidable.em (p0 = (3 : Int32)) with hc11 | hc11
    ·
     obtain ⟨T12, X12, e12, st12⟩ := getS2 X0 hx hZ hown (host := "") (Or.inl (ow hw 21 rfl)) Via.refl e0 (S_KEYCODE_SYSTEM_NAVIGATION_RIGHT.ext O0.2) (g := (mkF m 31 #[iv p0] [])) rfl (hb hby d1_31)
     obtain ⟨fs, hr, hrun, hended, hW, hsame⟩ := X12.leave (v := some (.ref w_KSNR1)) (fun h => by rw [Bd.returns] at h; cases h)
     subst hS0
     refine ⟨_, _, pre10 _ ?_, hrun, hended, _, _, rfl, ?_, ⟨_, rfl⟩, hW, hsame.mono (by decide) (by decide)⟩
     ·
      refine XS.icmpNo X0.here hx rfl (hb hby d1_28) rfl (XT.ii_ne_f hc11) ?_
      show AT p e below s₁ m 31 #[iv p0] [] _
      refine st12 _ ?_
      show AT p e below T12 m 34 #[iv p0] [(.ref w_KSNR1)] _
      exact retOut X12 hx (t := (.object "com/example/nudge_knob/nudgeknob/KeyCode")) (i := .areturn) Bd.returns rfl (Or.inr (Or.inr (Or.inr (Or.inr ⟨rfl, rfl, rfl⟩)))) (hb hby d1_34) hr
     ·
      show Q1 Z p0 w_KSNU0 w_UP w_ALL w_KSNR1 w_RIGHT w_DOWN w_KSND2 w_LEFT w_KSNL3 w_KDC4 w_CENTER w_KEYCODE_CALL w_CALL w_BACK w_KEYCODE_BACK w_HOME w_KEYCODE_HOME w_KM5 w_MUSIC k_ALL h0 n0 _ T12.heap _
      rw [e12]
      exact ⟨(by rw [f1, if_neg hc2, if_neg hc5, if_neg hc8, if_pos hc11]), N0, rfl⟩
    ·
     have pre13 : ∀ tg, AT p e below s₁ m 37 #[iv p0] [(.int (4 : Int32)), (.int p0)] tg → Steps p.tables e below S0 tg := fun tg kg => pre10 tg (by
      refine XS.icmpYes X0.here hx rfl (pc0 := 28) (pc' := 35) rfl (hb hby d1_28) rfl (XT.ii_ne_t hc11) (by decide) (by decide) ?_
      show AT p e below s₁ m 35 #[iv p0] [] _
      refine XS.iloadN X0.here hx rfl (hb hby d1_35) rfl ?_
      show AT p e below s₁ m 36 #[iv p0] [(.int p0)] _
      refine XS.iconst X0.here hx rfl (hb hby d1_36) ?_
      exact kg)
     rcases Decidable.em (p0 = (4 : Int32)) with hc14 | hc14
     ·
      obtain ⟨T15, X15, e15, st15⟩ := getS2 X0 hx hZ hown (host := "") (Or.inl (ow hw 31 rfl)) Via.refl e0 (S_KEYCODE_DPAD_CENTER.ext O0.2) (g := (mkF m 40 #[iv p0] [])) rfl (hb hby d1_40)
      obtain ⟨fs, hr, hrun, hended, hW, hsame⟩ := X15.leave (v := some (.ref w_KDC4)) (fun h => by rw [Bd.returns] at h; cases h)
      subst hS0
      refine ⟨_, _, pre13 _ ?_, hrun, hended, _, _, rfl, ?_, ⟨_, rfl⟩, hW, hsame.mono (by decide) (by decide)⟩
      ·
       refine XS.icmpNo X0.here hx rfl (hb hby d1_37) rfl (XT.ii_ne_f hc14) ?_
       show AT p e below s₁ m 40 #[iv p0] [] _
       refine st15 _ ?_
       show AT p e below T15 m 43 #[iv p0] [(.ref w_KDC4)] _
       exact retOut X15 hx (t := (.object "com/example/nudge_knob/nudgeknob/KeyCode")) (i := .areturn) Bd.returns rfl (Or.inr (Or.inr (Or.inr (Or.inr ⟨rfl, rfl, rfl⟩)))) (hb hby d1_43) hr
      ·
       show Q1 Z p0 w_KSNU0 w_UP w_ALL w_KSNR1 w_RIGHT w_DOWN w_KSND2 w_LEFT w_KSNL3 w_KDC4 w_CENTER w_KEYCODE_CALL w_CALL w_BACK w_KEYCODE_BACK w_HOME w_KEYCODE_HOME w_KM5 w_MUSIC k_ALL h0 n0 _ T15.heap _
       rw [e15]
       exact ⟨(by rw [f1, if_neg hc2, if_neg hc5, if_neg hc8, if_neg hc11, if_pos hc14]), N0, rfl⟩
     ·
      have pre16 : ∀ tg, AT p e below s₁ m 46 #[iv p0] [(.int (5 : Int32)), (.int p0)] tg → Steps p.tables e below S0 tg := fun tg kg => pre13 tg (by
       refine XS.icmpYes X0.here hx rfl (pc0 := 37) (pc' := 44) rfl (hb hby d1_37) rfl (XT.ii_ne_t hc14) (by decide) (by decide) ?_
       show AT p e below s₁ m 44 #[iv p0] [] _
       refine XS.iloadN X0.here hx rfl (hb hby d1_44) rfl ?_
       show AT p e below s₁ m 45 #[iv p0] [(.int p0)] _
       refine XS.iconst X0.here hx rfl (hb hby d1_45) ?_
       exact kg)
      rcases Decidable.em (p0 = (5 : Int32)) with hc17 | hc17
      ·
       obtain ⟨T18, X18, e18, st18⟩ := getS2 X0 hx hZ hown (host := "") (Or.inl (ow hw 49 rfl)) Via.refl e0 (S_KEYCODE_BACK.ext O0.2) (g := (mkF m 49 #[iv p0] [])) rfl (hb hby d1_49)
       obtain ⟨fs, hr, hrun, hended, hW, hsame⟩ := X18.leave (v := some (.ref w_KEYCODE_BACK)) (fun h => by rw [Bd.returns] at h; cases h)
       subst hS0
       refine ⟨_, _, pre16 _ ?_, hrun, hended, _, _, rfl, ?_, ⟨_, rfl⟩, hW, hsame.mono (by decide) (by decide)⟩
       ·
        refine XS.icmpNo X0.here hx rfl (hb hby d1_46) rfl (XT.ii_ne_f hc17) ?_
        show AT p e below s₁ m 49 #[iv p0] [] _
        refine st18 _ ?_
        show AT p e below T18 m 52 #[iv p0] [(.ref w_KEYCODE_BACK)] _
        exact retOut X18 hx (t := (.object "com/example/nudge_knob/nudgeknob/KeyCode")) (i := .areturn) Bd.returns rfl (Or.inr (Or.inr (Or.inr (Or.inr ⟨rfl, rfl, rfl⟩)))) (hb hby d1_52) hr
       ·
        show Q1 Z p0 w_KSNU0 w_UP w_ALL w_KSNR1 w_RIGHT w_DOWN w_KSND2 w_LEFT w_KSNL3 w_KDC4 w_CENTER w_KEYCODE_CALL w_CALL w_BACK w_KEYCODE_BACK w_HOME w_KEYCODE_HOME w_KM5 w_MUSIC k_ALL h0 n0 _ T18.heap _
        rw [e18]
        exact ⟨(by rw [f1, if_neg hc2, if_neg hc5, if_neg hc8, if_neg hc11, if_neg hc14, if_pos hc17]), N0, rfl⟩
      ·
       have pre19 : ∀ tg, AT p e below s₁ m 56 #[iv p0] [(.int (6 : Int32)), (.int p0)] tg → Steps p.tables e below S0 tg := fun tg kg => pre16 tg (by
        refine XS.icmpYes X0.here hx rfl (pc0 := 46) (pc' := 53) rfl (hb hby d1_46) rfl (XT.ii_ne_t hc17) (by decide) (by decide) ?_
        show AT p e below s₁ m 53 #[iv p0] [] _
        refine XS.iloadN X0.here hx rfl (hb hby d1_53) rfl ?_
        show AT p e below s₁ m 54 #[iv p0] [(.int p0)] _
        refine XS.bipush X0.here hx rfl (hb hby d1_54) ?_
        exact kg)
       rcases Decidable.em (p0 = (6 : Int32)) with hc20 | hc20
       ·
        obtain ⟨T21, X21, e21, st21⟩ := getS2 X0 hx hZ hown (host := "") (Or.inl (ow hw 51 rfl)) Via.refl e0 (S_KEYCODE_HOME.ext O0.2) (g := (mkF m 59 #[iv p0] [])) rfl (hb hby d1_59)
        obtain ⟨fs, hr, hrun, hended, hW, hsame⟩ := X21.leave (v := some (.ref w_KEYCODE_HOME)) (fun h => by rw [Bd.returns] at h; cases h)
        subst hS0
        refine ⟨_, _, pre19 _ ?_, hrun, hended, _, _, rfl, ?_, ⟨_, rfl⟩, hW, hsame.mono (by decide) (by decide)⟩
        ·
         refine XS.icmpNo X0.here hx rfl (hb hby d1_56) rfl (XT.ii_ne_f hc20) ?_
         show AT p e below s₁ m 59 #[iv p0] [] _
         refine st21 _ ?_
         show AT p e below T21 m 62 #[iv p0] [(.ref w_KEYCODE_HOME)] _
         exact retOut X21 hx (t := (.object "com/example/nudge_knob/nudgeknob/KeyCode")) (i := .areturn) Bd.returns rfl (Or.inr (Or.inr (Or.inr (Or.inr ⟨rfl, rfl, rfl⟩)))) (hb hby d1_62) hr
        ·
         show Q1 Z p0 w_KSNU0 w_UP w_ALL w_KSNR1 w_RIGHT w_DOWN w_KSND2 w_LEFT w_KSNL3 w_KDC4 w_CENTER w_KEYCODE_CALL w_CALL w_BACK w_KEYCODE_BACK w_HOME w_KEYCODE_HOME w_KM5 w_MUSIC k_ALL h0 n0 _ T21.heap _
         rw [e21]
         exact ⟨(by rw [f1, if_neg hc2, if_neg hc5, if_neg hc8, if_neg hc11, if_neg hc14, if_neg hc17, if_pos hc20]), N0, rfl⟩
       ·
        have pre22 : ∀ tg, AT p e below s₁ m 66 #[iv p0] [(.int (7 : Int32)), (.int p0)] tg → Steps p.tables e below S0 tg := fun tg kg => pre19 tg (by
         refine XS.icmpYes X0.here hx rfl (pc0 := 56) (pc' := 63) rfl (hb hby d1_56) rfl (XT.ii_ne_t hc20) (by decide) (by decide) ?_
         show AT p e below s₁ m 63 #[iv p0] [] _
         refine XS.iloadN X0.here hx rfl (hb hby d1_63) rfl ?_
         show AT p e below s₁ m 64 #[iv p0] [(.int p0)] _
         refine XS.bipush X0.here hx rfl (hb hby d1_64) ?_
         exact kg)
        rcases Decidable.em (p0 = (7 : Int32)) with hc23 | hc23
        ·
         obtain ⟨T24, X24, e24, st24⟩ := getS2 X0 hx hZ hown (host := "") (Or.inl (ow hw 35 rfl)) Via.refl e0 (S_KEYCODE_CALL.ext O0.2) (g := (mkF m 69 #[iv p0] [])) rfl (hb hby d1_69)
         obtain ⟨fs, hr, hrun, hended, hW, hsame⟩ := X24.leave (v := some (.ref w_KEYCODE_CALL)) (fun h => by rw [Bd.returns] at h; cases h)
         subst hS0
         refine ⟨_, _, pre22 _ ?_, hrun, hended, _, _, rfl, ?_, ⟨_, rfl⟩, hW, hsame.mono (by decide) (by decide)⟩
         ·
          refine XS.icmpNo X0.here hx rfl (hb hby d1_66) rfl (XT.ii_ne_f hc23) ?_
          show AT p e below s₁ m 69 #[iv p0] [] _
          refine st24 _ ?_
          show AT p e below T24 m 72 #[iv p0] [(.ref w_KEYCODE_CALL)] _
          exact retOut X24 hx (t := (.object "com/example/nudge_knob/nudgeknob/KeyCode")) (i := .areturn) Bd.returns rfl (Or.inr (Or.inr (Or.inr (Or.inr ⟨rfl, rfl, rfl⟩)))) (hb hby d1_72) hr
         ·
          show Q1 Z p0 w_KSNU0 w_UP w_ALL w_KSNR1 w_RIGHT w_DOWN w_KSND2 w_LEFT w_KSNL3 w_KDC4 w_CENTER w_KEYCODE_CALL w_CALL w_BACK w_KEYCODE_BACK w_HOME w_KEYCODE_HOME w_KM5 w_MUSIC k_ALL h0 n0 _ T24.heap _
          rw [e24]
          exact ⟨(by rw [f1, if_neg hc2, if_neg hc5, if_neg hc8, if_neg hc11, if_neg hc14, if_neg hc17, if_neg hc20, if_pos hc23]), N0, rfl⟩
        ·
         have pre25 : ∀ tg, AT p e below s₁ m 76 #[iv p0] [(.int (8 : Int32)), (.int p0)] tg → Steps p.tables e below S0 tg := fun tg kg => pre22 tg (by
          refine XS.icmpYes X0.here hx rfl (pc0 := 66) (pc' := 73) rfl (hb hby d1_66) rfl (XT.ii_ne_t hc23) (by decide) (by decide) ?_
          show AT p e below s₁ m 73 #[iv p0] [] _
          refine XS.iloadN X0.here hx rfl (hb hby d1_73) rfl ?_
          show AT p e below s₁ m 74 #[iv p0] [(.int p0)] _
          refine XS.bipush X0.here hx rfl (hb hby d1_74) ?_
          exact kg)
         rcases Decidable.em (p0 = (8 : Int32)) with hc26 | hc26
         ·
          obtain ⟨T27, X27, e27, st27⟩ := getS2 X0 hx hZ hown (host := "") (Or.inl (ow hw 45 rfl)) Via.refl e0 (S_KEYCODE_MUSIC.ext O0.2) (g := (mkF m 79 #[iv p0] [])) rfl (hb hby d1_79)
          obtain ⟨fs, hr, hrun, hended, hW, hsame⟩ := X27.leave (v := some (.ref w_KM5)) (fun h => by rw [Bd.returns] at h; cases h)
          subst hS0
          refine ⟨_, _, pre25 _ ?_, hrun, hended, _, _, rfl, ?_, ⟨_, rfl⟩, hW, hsame.mono (by decide) (by decide)⟩
          ·
           refine XS.icmpNo X0.here hx rfl (hb hby d1_76) rfl (XT.ii_ne_f hc26) ?_
           show AT p e below s₁ m 79 #[iv p0] [] _
           refine st27 _ ?_
           show AT p e below T27 m 82 #[iv p0] [(.ref w_KM5)] _
           exact retOut X27 hx (t := (.object "com/example/nudge_knob/nudgeknob/KeyCode")) (i := .areturn) Bd.returns rfl (Or.inr (Or.inr (Or.inr (Or.inr ⟨rfl, rfl, rfl⟩)))) (hb hby d1_82) hr
          ·
           show Q1 Z p0 w_KSNU0 w_UP w_ALL w_KSNR1 w_RIGHT w_DOWN w_KSND2 w_LEFT w_KSNL3 w_KDC4 w_CENTER w_KEYCODE_CALL w_CALL w_BACK w_KEYCODE_BACK w_HOME w_KEYCODE_HOME w_KM5 w_MUSIC k_ALL h0 n0 _ T27.heap _
           rw [e27]
           exact ⟨(by rw [f1, if_neg hc2, if_neg hc5, if_neg hc8, if_neg hc11, if_neg hc14, if_neg hc17, if_neg hc20, if_neg hc23, if_pos hc26]), N0, rfl⟩
         ·
          obtain ⟨fs, hr, hrun, hended, hW, hsame⟩ := X0.leave (v := some .null) (fun h => by rw [Bd.returns] at h; cases h)
          subst hS0
          refine ⟨_, _, pre25 _ ?_, hrun, hended, _, _, rfl, ?_, ⟨_, rfl⟩, hW, hsame.mono (by decide) (by decide)⟩
          ·
           refine XS.icmpYes X0.here hx rfl (pc0 := 76) (pc' := 83) rfl (hb hby d1_76) rfl (XT.ii_ne_t hc26) (by decide) (by decide) ?_
           show AT p e below s₁ m 83 #[iv p0] [] _
           refine XS.aconstNull X0.here hx rfl (hb hby d1_83) ?_
           show AT p e below s₁ m 84 #[iv p0] [.null] _
           exact retOut X0 hx (t := (.object "com/example/nudge_knob/nudgeknob/KeyCode")) (i := .areturn) Bd.returns rfl (Or.inr (Or.inr (Or.inr (Or.inr ⟨rfl, rfl, rfl⟩)))) (hb hby d1_84) hr
          ·
           show Q1 Z p0 w_KSNU0 w_UP w_ALL w_KSNR1 w_RIGHT w_DOWN w_KSND2 w_LEFT w_KSNL3 w_KDC4 w_CENTER w_KEYCODE_CALL w_CALL w_BACK w_KEYCODE_BACK w_HOME w_KEYCODE_HOME w_KM5 w_MUSIC k_ALL h0 n0 _ s₁.heap _
           rw [e0]
           exact ⟨(by rw [f1, if_neg hc2, if_neg hc5, if_neg hc8, if_neg hc11, if_neg hc14, if_neg hc17, if_neg hc20, if_neg hc23, if_neg hc26]), N0, rfl⟩

theorem d2_0 : decode method_3_code 0 = .ok (.iload_n 0, 1) := by decide +kernel
theorem d2_1 : decode method_3_code 1 = .ok (.ifCond .ne 7, 3) := by decide +kernel
theorem d2_4 : decode method_3_code 4 = .ok (.getstatic 37, 3) := by decide +kernel
theorem d2_7 : decode method_3_code 7 = .ok (.areturn, 1) := by decide +kernel
theorem d2_8 : decode method_3_code 8 = .ok (.iload_n 0, 1) := by decide +kernel
theorem d2_9 : decode method_3_code 9 = .ok (.iconst 1, 1) := by decide +kernel
theorem d2_10 : decode method_3_code 10 = .ok (.if_icmp .ne 7, 3) := by decide +kernel
theorem d2_13 : decode method_3_code 13 = .ok (.getstatic 43, 3) := by decide +kernel
theorem d2_16 : decode method_3_code 16 = .ok (.areturn, 1) := by decide +kernel
theorem d2_17 : decode method_3_code 17 = .ok (.iload_n 0, 1) := by decide +kernel
theorem d2_18 : decode method_3_code 18 = .ok (.iconst 2, 1) := by decide +kernel
theorem d2_19 : decode method_3_code 19 = .ok (.if_icmp .ne 7, 3) := by decide +kernel
theorem d2_22 : decode method_3_code 22 = .ok (.getstatic 46, 3) := by decide +kernel
theorem d2_25 : decode method_3_code 25 = .ok (.areturn, 1) := by decide +kernel
theorem d2_26 : decode method_3_code 26 = .ok (.iload_n 0, 1) := by decide +kernel
theorem d2_27 : decode method_3_code 27 = .ok (.iconst 3, 1) := by decide +kernel
theorem d2_28 : decode method_3_code 28 = .ok (.if_icmp .ne 7, 3) := by decide +kernel
theorem d2_31 : decode method_3_code 31 = .ok (.getstatic 49, 3) := by decide +kernel
theorem d2_34 : decode method_3_code 34 = .ok (.areturn, 1) := by decide +kernel
theorem d2_35 : decode method_3_code 35 = .ok (.iload_n 0, 1) := by decide +kernel
theorem d2_36 : decode method_3_code 36 = .ok (.iconst 4, 1) := by decide +kernel
theorem d2_37 : decode method_3_code 37 = .ok (.if_icmp .ne 7, 3) := by decide +kernel
theorem d2_40 : decode method_3_code 40 = .ok (.getstatic 52, 3) := by decide +kernel
theorem d2_43 : decode method_3_code 43 = .ok (.areturn, 1) := by decide +kernel
theorem d2_44 : decode method_3_code 44 = .ok (.iload_n 0, 1) := by decide +kernel
theorem d2_45 : decode method_3_code 45 = .ok (.iconst 5, 1) := by decide +kernel
theorem d2_46 : decode method_3_code 46 = .ok (.if_icmp .ne 7, 3) := by decide +kernel
theorem d2_49 : decode method_3_code 49 = .ok (.getstatic 55, 3) := by decide +kernel
theorem d2_52 : decode method_3_code 52 = .ok (.areturn, 1) := by decide +kernel
theorem d2_53 : decode method_3_code 53 = .ok (.iload_n 0, 1) := by decide +kernel
theorem d2_54 : decode method_3_code 54 = .ok (.bipush 6, 2) := by decide +kernel
theorem d2_56 : decode method_3_code 56 = .ok (.if_icmp .ne 7, 3) := by decide +kernel
theorem d2_59 : decode method_3_code 59 = .ok (.getstatic 58, 3) := by decide +kernel
theorem d2_62 : decode method_3_code 62 = .ok (.areturn, 1) := by decide +kernel
theorem d2_63 : decode method_3_code 63 = .ok (.iload_n 0, 1) := by decide +kernel
theorem d2_64 : decode method_3_code 64 = .ok (.bipush 7, 2) := by decide +kernel
theorem d2_66 : decode method_3_code 66 = .ok (.if_icmp .ne 7, 3) := by decide +kernel
theorem d2_69 : decode method_3_code 69 = .ok (.getstatic 61, 3) := by decide +kernel
theorem d2_72 : decode method_3_code 72 = .ok (.areturn, 1) := by decide +kernel
theorem d2_73 : decode method_3_code 73 = .ok (.iload_n 0, 1) := by decide +kernel
theorem d2_74 : decode method_3_code 74 = .ok (.bipush 8, 2) := by decide +kernel
theorem d2_76 : decode method_3_code 76 = .ok (.if_icmp .ne 7, 3) := by decide +kernel
theorem d2_79 : decode method_3_code 79 = .ok (.getstatic 64, 3) := by decide +kernel
theorem d2_82 : decode method_3_code 82 = .ok (.areturn, 1) := by decide +kernel
theorem d2_83 : decode method_3_code 83 = .ok (.aconst_null, 1) := by decide +kernel
theorem d2_84 : decode method_3_code 84 = .ok (.areturn, 1) := by decide +kernel
theorem ef_2 (m : MethodId) (p0 : Int32) : entryFrame m #[(.int p0)] 1 = mkF m 0 #[iv p0] [] := by first | (simp [entryFrame, mkF, argsToLocals, Value.category]; done) | rfl
def f2 (p0 : Int32) (w_UP : Addr) (w_RIGHT : Addr) (w_DOWN : Addr) (w_LEFT : Addr) (w_CENTER : Addr) (w_CALL : Addr) (w_BACK : Addr) (w_HOME : Addr) (w_MUSIC : Addr) : Value := if p0 = (0 : Int32) then (.ref w_UP) else (if p0 = (1 : Int32) then (.ref w_DOWN) else (if p0 = (2 : Int32) then (.ref w_LEFT) else (if p0 = (3 : Int32) then (.ref w_RIGHT) else (if p0 = (4 : Int32) then (.ref w_CENTER) else (if p0 = (5 : Int32) then (.ref w_BACK) else (if p0 = (6 : Int32) then (.ref w_HOME) else (if p0 = (7 : Int32) then (.ref w_CALL) else (if p0 = (8 : Int32) then (.ref w_MUSIC) else .null))))))))
def Q2 (Z : State) (p0 : Int32) (w_KSNU0 : Addr) (w_UP : Addr) (w_ALL : Addr) (w_KSNR1 : Addr) (w_RIGHT : Addr) (w_DOWN : Addr) (w_KSND2 : Addr) (w_LEFT : Addr) (w_KSNL3 : Addr) (w_KDC4 : Addr) (w_CENTER : Addr) (w_KEYCODE_CALL : Addr) (w_CALL : Addr) (w_BACK : Addr) (w_KEYCODE_BACK : Addr) (w_HOME : Addr) (w_KEYCODE_HOME : Addr) (w_KM5 : Addr) (w_MUSIC : Addr) (k_ALL : ClassId) (h0 : Heap) (n0 : Nat) (v : Option Value) (h : Heap) (L : List Loc) : Prop := v = some (f2 p0 w_UP w_RIGHT w_DOWN w_LEFT w_CENTER w_CALL w_BACK w_HOME w_MUSIC) ∧ Fr n0 L ∧ h = h0
set_option maxRecDepth 65536 in
set_option maxHeartbeats 40000000 in
theorem rm2 (l : Launch) (Z : State) (ar : Array Value) (hw : ∀ d ∈ tables_1, d.before ar Z = true) (ws : List Jvm.Cond) (p0 : Int32) (w_KSNU0 : Addr) (w_UP : Addr) (w_ALL : Addr) (w_KSNR1 : Addr) (w_RIGHT : Addr) (w_DOWN : Addr) (w_KSND2 : Addr) (w_LEFT : Addr) (w_KSNL3 : Addr) (w_KDC4 : Addr) (w_CENTER : Addr) (w_KEYCODE_CALL : Addr) (w_CALL : Addr) (w_BACK : Addr) (w_KEYCODE_BACK : Addr) (w_HOME : Addr) (w_KEYCODE_HOME : Addr) (w_KM5 : Addr) (w_MUSIC : Addr) (k_ALL : ClassId) (h0 : Heap) (n0 : Nat) (O0 : Old Z n0 h0) (HW : Wd Z w_KSNU0 w_UP w_ALL w_KSNR1 w_RIGHT w_DOWN w_KSND2 w_LEFT w_KSNL3 w_KDC4 w_CENTER w_KEYCODE_CALL w_CALL w_BACK w_KEYCODE_BACK w_HOME w_KEYCODE_HOME w_KM5 w_MUSIC k_ALL) :
    MetFree l y2 (head1 (Jvm.Cond.code y2 method_3_code 1 (some (.object "com/example/nudge_knob/nudgeknob/Button")) :: ws) ({ frames := 0, cells := 0, slots := 0, locals := 0 } : Room)) (fun a U => a = #[(.int p0)] ∧ Z.Warmed39 U.vm ∧ U.heap = h0) (fun _ _ _ _ _ => True) (fun _ U o U' => ∃ v L, o = .returned v ∧ Q2 Z p0 w_KSNU0 w_UP w_ALL w_KSNR1 w_RIGHT w_DOWN w_KSND2 w_LEFT w_KSNL3 w_KDC4 w_CENTER w_KEYCODE_CALL w_CALL w_BACK w_KEYCODE_BACK w_HOME w_KEYCODE_HOME w_KM5 w_MUSIC k_ALL h0 n0 v U'.heap L ∧ FrameEnd U o U' L ({ frames := 0, cells := 0, slots := 0, locals := 0 } : Room).cells ({ frames := 0, cells := 0, slots := 0, locals := 0 } : Room).slots) := by
 refine MetFree.of_bodySF (plainFor_of_name pn_0) hisR ?_
 intro p e s m args below meth c s₁ Bd hml0 hP hK
 obtain ⟨rfl, hZ, hh⟩ := hP
 have hx := Bd.exec
 have hby := Bd.bytes
 have hml : c.maxLocals = 1 := hml0
 have hown : s.vm.findClass "com/example/nudge_knob/nudgeknob/ButtonOfKeyCodePinLaw" = some m.cls := findClass_of_methodNamed Bd.named
 have hnm := (name_of_methodNamed Bd.named Bd.method).1
 have X0 : Stand p l e ({ frames := 0, cells := 0, slots := 0, locals := 0 } : Room) s m #[(.int p0)] below meth c s₁ [] 0 0 := Stand.of_body Bd
 have e0 : s₁.heap = h0 := by rw [← hh, Bd.state]; rfl
 have N0 := Fr.nil n0
 have Z0 : n0 ≤ h0.size := Nat.le_trans (Nat.le_of_eq O0.1.symm) O0.2.1
 obtain ⟨S0, hS0⟩ : ∃ z, z = s₁.setTop (entryFrame m #[(.int p0)] 1) := ⟨_, rfl⟩
 have pre0 : ∀ tg, AT p e below s₁ m 0 #[iv p0] [] tg → Steps p.tables e below S0 tg := fun tg kg => by rw [hS0]; exact castTop (ef_2 m p0) kg
 obtain ⟨S_KEYCODE_SYSTEM_NAVIGATION_UP, E_KSNU0, S_UP, E_UP, S_ALL, S_KEYCODE_SYSTEM_NAVIGATION_RIGHT, E_KSNR1, S_RIGHT, E_RIGHT, F_ordinal_KSNU0, F_ordinal_KSNR1, S_DOWN, E_DOWN, S_KEYCODE_SYSTEM_NAVIGATION_DOWN, E_KSND2, F_ordinal_KSND2, S_LEFT, E_LEFT, S_KEYCODE_SYSTEM_NAVIGATION_LEFT, E_KSNL3, F_ordinal_KSNL3, S_KEYCODE_DPAD_CENTER, E_KDC4, S_CENTER, E_CENTER, F_ordinal_KDC4, S_KEYCODE_CALL, E_KEYCODE_CALL, S_CALL, E_CALL, F_ordinal_KEYCODE_CALL, S_BACK, E_BACK, S_KEYCODE_BACK, E_KEYCODE_BACK, F_ordinal_KEYCODE_BACK, S_HOME, E_HOME, S_KEYCODE_HOME, E_KEYCODE_HOME, F_ordinal_KEYCODE_HOME, S_KEYCODE_MUSIC, E_KM5, S_MUSIC, E_MUSIC, F_ordinal_KM5, F_keyCode_UP, F_keyCode_DOWN, F_keyCode_LEFT, F_keyCode_RIGHT, F_keyCode_CENTER, F_keyCode_BACK, F_keyCode_HOME, F_keyCode_CALL, F_keyCode_MUSIC, V_ALL⟩ := id HW
 have pre1 : ∀ tg, AT p e below s₁ m 1 #[iv p0] [(.int p0)] tg → Steps p.tables e below S0 tg := fun tg kg => pre0 tg (by
  refine XS.iloadN X0.here hx rfl (hb hby d2_0) rfl ?_
  exact kg)
 rcases Decidable.em (p0 = (0 : Int32)) with hc2 | hc2
 ·
  obtain ⟨T3, X3, e3, st3⟩ := getS2 X0 hx hZ hown (host := "") (Or.inl (ow hw 11 rfl)) Via.refl e0 (S_UP.ext O0.2) (g := (mkF m 4 #[iv p0] [])) rfl (hb hby d2_4)
  obtain ⟨fs, hr, hrun, hended, hW, hsame⟩ := X3.leave (v := some (.ref w_UP)) (fun h => by rw [Bd.returns] at h; cases h)
  subst hS0
  refine ⟨_, _, pre1 _ ?_, hrun, hended, _, _, rfl, ?_, ⟨_, rfl⟩, hW, hsame.mono (by decide) (by decide)⟩
  ·
   refine XS.ifNo X0.here hx rfl (hb hby d2_1) rfl (XT.i0_ne_f hc2) ?_
   show AT p e below s₁ m 4 #[iv p0] [] _
   refine st3 _ ?_
   show AT p e below T3 m 7 #[iv p0] [(.ref w_UP)] _
   exact retOut X3 hx (t := (.object "com/example/nudge_knob/nudgeknob/Button")) (i := .areturn) Bd.returns rfl (Or.inr (Or.inr (Or.inr (Or.inr ⟨rfl, rfl, rfl⟩)))) (hb hby d2_7) hr
  ·
   show Q2 Z p0 w_KSNU0 w_UP w_ALL w_KSNR1 w_RIGHT w_DOWN w_KSND2 w_LEFT w_KSNL3 w_KDC4 w_CENTER w_KEYCODE_CALL w_CALL w_BACK w_KEYCODE_BACK w_HOME w_KEYCODE_HOME w_KM5 w_MUSIC k_ALL h0 n0 _ T3.heap _
   rw [e3]
   exact ⟨(by rw [f2, if_pos hc2]), N0, rfl⟩
 ·
  have pre4 : ∀ tg, AT p e below s₁ m 10 #[iv p0] [(.int (1 : Int32)), (.int p0)] tg → Steps p.tables e below S0 tg := fun tg kg => pre1 tg (by
   refine XS.ifYes X0.here hx rfl (pc0 := 1) (pc' := 8) rfl (hb hby d2_1) rfl (XT.i0_ne_t hc2) (by decide) (by decide) ?_
   show AT p e below s₁ m 8 #[iv p0] [] _
   refine XS.iloadN X0.here hx rfl (hb hby d2_8) rfl ?_
   show AT p e below s₁ m 9 #[iv p0] [(.int p0)] _
   refine XS.iconst X0.here hx rfl (hb hby d2_9) ?_
   exact kg)
  rcases Decidable.em (p0 = (1 : Int32)) with hc5 | hc5
  ·
   obtain ⟨T6, X6, e6, st6⟩ := getS2 X0 hx hZ hown (host := "") (Or.inl (ow hw 30 rfl)) Via.refl e0 (S_DOWN.ext O0.2) (g := (mkF m 13 #[iv p0] [])) rfl (hb hby d2_13)
   obtain ⟨fs, hr, hrun, hended, hW, hsame⟩ := X6.leave (v := some (.ref w_DOWN)) (fun h => by rw [Bd.returns] at h; cases h)
   subst hS0
   refine ⟨_, _, pre4 _ ?_, hrun, hended, _, _, rfl, ?_, ⟨_, rfl⟩, hW, hsame.mono (by decide) (by decide)⟩
   ·
    refine XS.icmpNo X0.here hx rfl (hb hby d2_10) rfl (XT.ii_ne_f hc5) ?_
    show AT p e below s₁ m 13 #[iv p0] [] _
    refine st6 _ ?_
    show AT p e below T6 m 16 #[iv p0] [(.ref w_DOWN)] _
    exact retOut X6 hx (t := (.object "com/example/nudge_knob/nudgeknob/Button")) (i := .areturn) Bd.returns rfl (Or.inr (Or.inr (Or.inr (Or.inr ⟨rfl, rfl, rfl⟩)))) (hb hby d2_16) hr
   ·
    show Q2 Z p0 w_KSNU0 w_UP w_ALL w_KSNR1 w_RIGHT w_DOWN w_KSND2 w_LEFT w_KSNL3 w_KDC4 w_CENTER w_KEYCODE_CALL w_CALL w_BACK w_KEYCODE_BACK w_HOME w_KEYCODE_HOME w_KM5 w_MUSIC k_ALL h0 n0 _ T6.heap _
    rw [e6]
    exact ⟨(by rw [f2, if_neg hc2, if_pos hc5]), N0, rfl⟩
  ·
   have pre7 : ∀ tg, AT p e below s₁ m 19 #[iv p0] [(.int (2 : Int32)), (.int p0)] tg → Steps p.tables e below S0 tg := fun tg kg => pre4 tg (by
    refine XS.icmpYes X0.here hx rfl (pc0 := 10) (pc' := 17) rfl (hb hby d2_10) rfl (XT.ii_ne_t hc5) (by decide) (by decide) ?_
    show AT p e below s₁ m 17 #[iv p0] [] _
    refine XS.iloadN X0.here hx rfl (hb hby d2_17) rfl ?_
    show AT p e below s₁ m 18 #[iv p0] [(.int p0)] _
    refine XS.iconst X0.here hx rfl (hb hby d2_18) ?_
    exact kg)
   rcases Decidable.em (p0 = (2 : Int32)) with hc8 | hc8
   ·
    obtain ⟨T9, X9, e9, st9⟩ := getS2 X0 hx hZ hown (host := "") (Or.inl (ow hw 44 rfl)) Via.refl e0 (S_LEFT.ext O0.2) (g := (mkF m 22 #[iv p0] [])) rfl (hb hby d2_22)
    obtain ⟨fs, hr, hrun, hended, hW, hsame⟩ := X9.leave (v := some (.ref w_LEFT)) (fun h => by rw [Bd.returns] at h; cases h)
    subst hS0
    refine ⟨_, _, pre7 _ ?_, hrun, hended, _, _, rfl, ?_, ⟨_, rfl⟩, hW, hsame.mono (by decide) (by decide)⟩
    ·
     refine XS.icmpNo X0.here hx rfl (hb hby d2_19) rfl (XT.ii_ne_f hc8) ?_
     show AT p e below s₁ m 22 #[iv p0] [] _
     refine st9 _ ?_
     show AT p e below T9 m 25 #[iv p0] [(.ref w_LEFT)] _
     exact retOut X9 hx (t := (.object "com/example/nudge_knob/nudgeknob/Button")) (i := .areturn) Bd.returns rfl (Or.inr (Or.inr (Or.inr (Or.inr ⟨rfl, rfl, rfl⟩)))) (hb hby d2_25) hr
    ·
     show Q2 Z p0 w_KSNU0 w_UP w_ALL w_KSNR1 w_RIGHT w_DOWN w_KSND2 w_LEFT w_KSNL3 w_KDC4 w_CENTER w_KEYCODE_CALL w_CALL w_BACK w_KEYCODE_BACK w_HOME w_KEYCODE_HOME w_KM5 w_MUSIC k_ALL h0 n0 _ T9.heap _
     rw [e9]
     exact ⟨(by rw [f2, if_neg hc2, if_neg hc5, if_pos hc8]), N0, rfl⟩
   ·
    have pre10 : ∀ tg, AT p e below s₁ m 28 #[iv p0] [(.int (3 : Int32)), (.int p0)] tg → Steps p.tables e below S0 tg := fun tg kg => pre7 tg (by
     refine XS.icmpYes X0.here hx rfl (pc0 := 19) (pc' := 26) rfl (hb hby d2_19) rfl (XT.ii_ne_t hc8) (by decide) (by decide) ?_
     show AT p e below s₁ m 26 #[iv p0] [] _
     refine XS.iloadN X0.here hx rfl (hb hby d2_26) rfl ?_
     show AT p e below s₁ m 27 #[iv p0] [(.int p0)] _
     refine XS.iconst X0.here hx rfl (hb hby d2_27) ?_
     exact kg)
    rcases Decidable.em (p0 = (3 : Int32)) with hc11 | hc11
    ·
     obtain ⟨T12, X12, e12, st12⟩ := getS2 X0 hx hZ hown (host := "") (Or.inl (ow hw 23 rfl)) Via.refl e0 (S_RIGHT.ext O0.2) (g := (mkF m 31 #[iv p0] [])) rfl (hb hby d2_31)
     obtain ⟨fs, hr, hrun, hended, hW, hsame⟩ := X12.leave (v := some (.ref w_RIGHT)) (fun h => by rw [Bd.returns] at h; cases h)
     subst hS0
     refine ⟨_, _, pre10 _ ?_, hrun, hended, _, _, rfl, ?_, ⟨_, rfl⟩, hW, hsame.mono (by decide) (by decide)⟩
     ·
      refine XS.icmpNo X0.here hx rfl (hb hby d2_28) rfl (XT.ii_ne_f hc11) ?_
      show AT p e below s₁ m 31 #[iv p0] [] _
      refine st12 _ ?_
      show AT p e below T12 m 34 #[iv p0] [(.ref w_RIGHT)] _
      exact retOut X12 hx (t := (.object "com/example/nudge_knob/nudgeknob/Button")) (i := .areturn) Bd.returns rfl (Or.inr (Or.inr (Or.inr (Or.inr ⟨rfl, rfl, rfl⟩)))) (hb hby d2_34) hr
     ·
      show Q2 Z p0 w_KSNU0 w_UP w_ALL w_KSNR1 w_RIGHT w_DOWN w_KSND2 w_LEFT w_KSNL3 w_KDC4 w_CENTER w_KEYCODE_CALL w_CALL w_BACK w_KEYCODE_BACK w_HOME w_KEYCODE_HOME w_KM5 w_MUSIC k_ALL h0 n0 _ T12.heap _
      rw [e12]
      exact ⟨(by rw [f2, if_neg hc2, if_neg hc5, if_neg hc8, if_pos hc11]), N0, rfl⟩
    ·
     have pre13 : ∀ tg, AT p e below s₁ m 37 #[iv p0] [(.int (4 : Int32)), (.int p0)] tg → Steps p.tables e below S0 tg := fun tg kg => pre10 tg (by
      refine XS.icmpYes X0.here hx rfl (pc0 := 28) (pc' := 35) rfl (hb hby d2_28) rfl (XT.ii_ne_t hc11) (by decide) (by decide) ?_
      show AT p e below s₁ m 35 #[iv p0] [] _
      refine XS.iloadN X0.here hx rfl (hb hby d2_35) rfl ?_
      show AT p e below s₁ m 36 #[iv p0] [(.int p0)] _
      refine XS.iconst X0.here hx rfl (hb hby d2_36) ?_
      exact kg)
     rcases Decidable.em (p0 = (4 : Int32)) with hc14 | hc14
     ·
      obtain ⟨T15, X15, e15, st15⟩ := getS2 X0 hx hZ hown (host := "") (Or.inl (ow hw 33 rfl)) Via.refl e0 (S_CENTER.ext O0.2) (g := (mkF m 40 #[iv p0] [])) rfl (hb hby d2_40)
      obtain ⟨fs, hr, hrun, hended, hW, hsame⟩ := X15.leave (v := some (.ref w_CENTER)) (fun h => by rw [Bd.returns] at h; cases h)
      subst hS0
      refine ⟨_, _, pre13 _ ?_, hrun, hended, _, _, rfl, ?_, ⟨_, rfl⟩, hW, hsame.mono (by decide) (by decide)⟩
      ·
       refine XS.icmpNo X0.here hx rfl (hb hby d2_37) rfl (XT.ii_ne_f hc14) ?_
       show AT p e below s₁ m 40 #[iv p0] [] _
       refine st15 _ ?_
       show AT p e below T15 m 43 #[iv p0] [(.ref w_CENTER)] _
       exact retOut X15 hx (t := (.object "com/example/nudge_knob/nudgeknob/Button")) (i := .areturn) Bd.returns rfl (Or.inr (Or.inr (Or.inr (Or.inr ⟨rfl, rfl, rfl⟩)))) (hb hby d2_43) hr
      ·
       show Q2 Z p0 w_KSNU0 w_UP w_ALL w_KSNR1 w_RIGHT w_DOWN w_KSND2 w_LEFT w_KSNL3 w_KDC4 w_CENTER w_KEYCODE_CALL w_CALL w_BACK w_KEYCODE_BACK w_HOME w_KEYCODE_HOME w_KM5 w_MUSIC k_ALL h0 n0 _ T15.heap _
       rw [e15]
       exact ⟨(by rw [f2, if_neg hc2, if_neg hc5, if_neg hc8, if_neg hc11, if_pos hc14]), N0, rfl⟩
     ·
      have pre16 : ∀ tg, AT p e below s₁ m 46 #[iv p0] [(.int (5 : Int32)), (.int p0)] tg → Steps p.tables e below S0 tg := fun tg kg => pre13 tg (by
       refine XS.icmpYes X0.here hx rfl (pc0 := 37) (pc' := 44) rfl (hb hby d2_37) rfl (XT.ii_ne_t hc14) (by decide) (by decide) ?_
       show AT p e below s₁ m 44 #[iv p0] [] _
       refine XS.iloadN X0.here hx rfl (hb hby d2_44) rfl ?_
       show AT p e below s₁ m 45 #[iv p0] [(.int p0)] _
       refine XS.iconst X0.here hx rfl (hb hby d2_45) ?_
       exact kg)
      rcases Decidable.em (p0 = (5 : Int32)) with hc17 | hc17
      ·
       obtain ⟨T18, X18, e18, st18⟩ := getS2 X0 hx hZ hown (host := "") (Or.inl (ow hw 50 rfl)) Via.refl e0 (S_BACK.ext O0.2) (g := (mkF m 49 #[iv p0] [])) rfl (hb hby d2_49)
       obtain ⟨fs, hr, hrun, hended, hW, hsame⟩ := X18.leave (v := some (.ref w_BACK)) (fun h => by rw [Bd.returns] at h; cases h)
       subst hS0
       refine ⟨_, _, pre16 _ ?_, hrun, hended, _, _, rfl, ?_, ⟨_, rfl⟩, hW, hsame.mono (by decide) (by decide)⟩
       ·
        refine XS.icmpNo X0.here hx rfl (hb hby d2_46) rfl (XT.ii_ne_f hc17) ?_
        show AT p e below s₁ m 49 #[iv p0] [] _
        refine st18 _ ?_
        show AT p e below T18 m 52 #[iv p0] [(.ref w_BACK)] _
        exact retOut X18 hx (t := (.object "com/example/nudge_knob/nudgeknob/Button")) (i := .areturn) Bd.returns rfl (Or.inr (Or.inr (Or.inr (Or.inr ⟨rfl, rfl, rfl⟩)))) (hb hby d2_52) hr
       ·
        show Q2 Z p0 w_KSNU0 w_UP w_ALL w_KSNR1 w_RIGHT w_DOWN w_KSND2 w_LEFT w_KSNL3 w_KDC4 w_CENTER w_KEYCODE_CALL w_CALL w_BACK w_KEYCODE_BACK w_HOME w_KEYCODE_HOME w_KM5 w_MUSIC k_ALL h0 n0 _ T18.heap _
        rw [e18]
        exact ⟨(by rw [f2, if_neg hc2, if_neg hc5, if_neg hc8, if_neg hc11, if_neg hc14, if_pos hc17]), N0, rfl⟩
      ·
       have pre19 : ∀ tg, AT p e below s₁ m 56 #[iv p0] [(.int (6 : Int32)), (.int p0)] tg → Steps p.tables e below S0 tg := fun tg kg => pre16 tg (by
        refine XS.icmpYes X0.here hx rfl (pc0 := 46) (pc' := 53) rfl (hb hby d2_46) rfl (XT.ii_ne_t hc17) (by decide) (by decide) ?_
        show AT p e below s₁ m 53 #[iv p0] [] _
        refine XS.iloadN X0.here hx rfl (hb hby d2_53) rfl ?_
        show AT p e below s₁ m 54 #[iv p0] [(.int p0)] _
        refine XS.bipush X0.here hx rfl (hb hby d2_54) ?_
        exact kg)
       rcases Decidable.em (p0 = (6 : Int32)) with hc20 | hc20
       ·
        obtain ⟨T21, X21, e21, st21⟩ := getS2 X0 hx hZ hown (host := "") (Or.inl (ow hw 52 rfl)) Via.refl e0 (S_HOME.ext O0.2) (g := (mkF m 59 #[iv p0] [])) rfl (hb hby d2_59)
        obtain ⟨fs, hr, hrun, hended, hW, hsame⟩ := X21.leave (v := some (.ref w_HOME)) (fun h => by rw [Bd.returns] at h; cases h)
        subst hS0
        refine ⟨_, _, pre19 _ ?_, hrun, hended, _, _, rfl, ?_, ⟨_, rfl⟩, hW, hsame.mono (by decide) (by decide)⟩
        ·
         refine XS.icmpNo X0.here hx rfl (hb hby d2_56) rfl (XT.ii_ne_f hc20) ?_
         show AT p e below s₁ m 59 #[iv p0] [] _
         refine st21 _ ?_
         show AT p e below T21 m 62 #[iv p0] [(.ref w_HOME)] _
         exact retOut X21 hx (t := (.object "com/example/nudge_knob/nudgeknob/Button")) (i := .areturn) Bd.returns rfl (Or.inr (Or.inr (Or.inr (Or.inr ⟨rfl, rfl, rfl⟩)))) (hb hby d2_62) hr
        ·
         show Q2 Z p0 w_KSNU0 w_UP w_ALL w_KSNR1 w_RIGHT w_DOWN w_KSND2 w_LEFT w_KSNL3 w_KDC4 w_CENTER w_KEYCODE_CALL w_CALL w_BACK w_KEYCODE_BACK w_HOME w_KEYCODE_HOME w_KM5 w_MUSIC k_ALL h0 n0 _ T21.heap _
         rw [e21]
         exact ⟨(by rw [f2, if_neg hc2, if_neg hc5, if_neg hc8, if_neg hc11, if_neg hc14, if_neg hc17, if_pos hc20]), N0, rfl⟩
       ·
        have pre22 : ∀ tg, AT p e below s₁ m 66 #[iv p0] [(.int (7 : Int32)), (.int p0)] tg → Steps p.tables e below S0 tg := fun tg kg => pre19 tg (by
         refine XS.icmpYes X0.here hx rfl (pc0 := 56) (pc' := 63) rfl (hb hby d2_56) rfl (XT.ii_ne_t hc20) (by decide) (by decide) ?_
         show AT p e below s₁ m 63 #[iv p0] [] _
         refine XS.iloadN X0.here hx rfl (hb hby d2_63) rfl ?_
         show AT p e below s₁ m 64 #[iv p0] [(.int p0)] _
         refine XS.bipush X0.here hx rfl (hb hby d2_64) ?_
         exact kg)
        rcases Decidable.em (p0 = (7 : Int32)) with hc23 | hc23
        ·
         obtain ⟨T24, X24, e24, st24⟩ := getS2 X0 hx hZ hown (host := "") (Or.inl (ow hw 37 rfl)) Via.refl e0 (S_CALL.ext O0.2) (g := (mkF m 69 #[iv p0] [])) rfl (hb hby d2_69)
         obtain ⟨fs, hr, hrun, hended, hW, hsame⟩ := X24.leave (v := some (.ref w_CALL)) (fun h => by rw [Bd.returns] at h; cases h)
         subst hS0
         refine ⟨_, _, pre22 _ ?_, hrun, hended, _, _, rfl, ?_, ⟨_, rfl⟩, hW, hsame.mono (by decide) (by decide)⟩
         ·
          refine XS.icmpNo X0.here hx rfl (hb hby d2_66) rfl (XT.ii_ne_f hc23) ?_
          show AT p e below s₁ m 69 #[iv p0] [] _
          refine st24 _ ?_
          show AT p e below T24 m 72 #[iv p0] [(.ref w_CALL)] _
          exact retOut X24 hx (t := (.object "com/example/nudge_knob/nudgeknob/Button")) (i := .areturn) Bd.returns rfl (Or.inr (Or.inr (Or.inr (Or.inr ⟨rfl, rfl, rfl⟩)))) (hb hby d2_72) hr
         ·
          show Q2 Z p0 w_KSNU0 w_UP w_ALL w_KSNR1 w_RIGHT w_DOWN w_KSND2 w_LEFT w_KSNL3 w_KDC4 w_CENTER w_KEYCODE_CALL w_CALL w_BACK w_KEYCODE_BACK w_HOME w_KEYCODE_HOME w_KM5 w_MUSIC k_ALL h0 n0 _ T24.heap _
          rw [e24]
          exact ⟨(by rw [f2, if_neg hc2, if_neg hc5, if_neg hc8, if_neg hc11, if_neg hc14, if_neg hc17, if_neg hc20, if_pos hc23]), N0, rfl⟩
        ·
         have pre25 : ∀ tg, AT p e below s₁ m 76 #[iv p0] [(.int (8 : Int32)), (.int p0)] tg → Steps p.tables e below S0 tg := fun tg kg => pre22 tg (by
          refine XS.icmpYes X0.here hx rfl (pc0 := 66) (pc' := 73) rfl (hb hby d2_66) rfl (XT.ii_ne_t hc23) (by decide) (by decide) ?_
          show AT p e below s₁ m 73 #[iv p0] [] _
          refine XS.iloadN X0.here hx rfl (hb hby d2_73) rfl ?_
          show AT p e below s₁ m 74 #[iv p0] [(.int p0)] _
          refine XS.bipush X0.here hx rfl (hb hby d2_74) ?_
          exact kg)
         rcases Decidable.em (p0 = (8 : Int32)) with hc26 | hc26
         ·
          obtain ⟨T27, X27, e27, st27⟩ := getS2 X0 hx hZ hown (host := "") (Or.inl (ow hw 47 rfl)) Via.refl e0 (S_MUSIC.ext O0.2) (g := (mkF m 79 #[iv p0] [])) rfl (hb hby d2_79)
          obtain ⟨fs, hr, hrun, hended, hW, hsame⟩ := X27.leave (v := some (.ref w_MUSIC)) (fun h => by rw [Bd.returns] at h; cases h)
          subst hS0
          refine ⟨_, _, pre25 _ ?_, hrun, hended, _, _, rfl, ?_, ⟨_, rfl⟩, hW, hsame.mono (by decide) (by decide)⟩
          ·
           refine XS.icmpNo X0.here hx rfl (hb hby d2_76) rfl (XT.ii_ne_f hc26) ?_
           show AT p e below s₁ m 79 #[iv p0] [] _
           refine st27 _ ?_
           show AT p e below T27 m 82 #[iv p0] [(.ref w_MUSIC)] _
           exact retOut X27 hx (t := (.object "com/example/nudge_knob/nudgeknob/Button")) (i := .areturn) Bd.returns rfl (Or.inr (Or.inr (Or.inr (Or.inr ⟨rfl, rfl, rfl⟩)))) (hb hby d2_82) hr
          ·
           show Q2 Z p0 w_KSNU0 w_UP w_ALL w_KSNR1 w_RIGHT w_DOWN w_KSND2 w_LEFT w_KSNL3 w_KDC4 w_CENTER w_KEYCODE_CALL w_CALL w_BACK w_KEYCODE_BACK w_HOME w_KEYCODE_HOME w_KM5 w_MUSIC k_ALL h0 n0 _ T27.heap _
           rw [e27]
           exact ⟨(by rw [f2, if_neg hc2, if_neg hc5, if_neg hc8, if_neg hc11, if_neg hc14, if_neg hc17, if_neg hc20, if_neg hc23, if_pos hc26]), N0, rfl⟩
         ·
          obtain ⟨fs, hr, hrun, hended, hW, hsame⟩ := X0.leave (v := some .null) (fun h => by rw [Bd.returns] at h; cases h)
          subst hS0
          refine ⟨_, _, pre25 _ ?_, hrun, hended, _, _, rfl, ?_, ⟨_, rfl⟩, hW, hsame.mono (by decide) (by decide)⟩
          ·
           refine XS.icmpYes X0.here hx rfl (pc0 := 76) (pc' := 83) rfl (hb hby d2_76) rfl (XT.ii_ne_t hc26) (by decide) (by decide) ?_
           show AT p e below s₁ m 83 #[iv p0] [] _
           refine XS.aconstNull X0.here hx rfl (hb hby d2_83) ?_
           show AT p e below s₁ m 84 #[iv p0] [.null] _
           exact retOut X0 hx (t := (.object "com/example/nudge_knob/nudgeknob/Button")) (i := .areturn) Bd.returns rfl (Or.inr (Or.inr (Or.inr (Or.inr ⟨rfl, rfl, rfl⟩)))) (hb hby d2_84) hr
          ·
           show Q2 Z p0 w_KSNU0 w_UP w_ALL w_KSNR1 w_RIGHT w_DOWN w_KSND2 w_LEFT w_KSNL3 w_KDC4 w_CENTER w_KEYCODE_CALL w_CALL w_BACK w_KEYCODE_BACK w_HOME w_KEYCODE_HOME w_KM5 w_MUSIC k_ALL h0 n0 _ s₁.heap _
           rw [e0]
           exact ⟨(by rw [f2, if_neg hc2, if_neg hc5, if_neg hc8, if_neg hc11, if_neg hc14, if_neg hc17, if_neg hc20, if_neg hc23, if_neg hc26]), N0, rfl⟩

theorem d3_0 : decode prog_8_method_8_code 0 = .ok (.getstatic 62, 3) := by decide +kernel
theorem d3_3 : decode prog_8_method_8_code 3 = .ok (.astore_n 1, 1) := by decide +kernel
theorem d3_4 : decode prog_8_method_8_code 4 = .ok (.aload_n 1, 1) := by decide +kernel
theorem d3_5 : decode prog_8_method_8_code 5 = .ok (.arraylength, 1) := by decide +kernel
theorem d3_6 : decode prog_8_method_8_code 6 = .ok (.istore_n 2, 1) := by decide +kernel
theorem d3_7 : decode prog_8_method_8_code 7 = .ok (.iconst 0, 1) := by decide +kernel
theorem d3_8 : decode prog_8_method_8_code 8 = .ok (.istore_n 3, 1) := by decide +kernel
theorem d3_9 : decode prog_8_method_8_code 9 = .ok (.iload_n 3, 1) := by decide +kernel
theorem d3_10 : decode prog_8_method_8_code 10 = .ok (.iload_n 2, 1) := by decide +kernel
theorem d3_11 : decode prog_8_method_8_code 11 = .ok (.if_icmp .ge 26, 3) := by decide +kernel
theorem d3_14 : decode prog_8_method_8_code 14 = .ok (.aload_n 1, 1) := by decide +kernel
theorem d3_15 : decode prog_8_method_8_code 15 = .ok (.iload_n 3, 1) := by decide +kernel
theorem d3_16 : decode prog_8_method_8_code 16 = .ok (.aaload, 1) := by decide +kernel
theorem d3_17 : decode prog_8_method_8_code 17 = .ok (.astore 4, 2) := by decide +kernel
theorem d3_19 : decode prog_8_method_8_code 19 = .ok (.aload 4, 2) := by decide +kernel
theorem d3_21 : decode prog_8_method_8_code 21 = .ok (.getfield 50, 3) := by decide +kernel
theorem d3_24 : decode prog_8_method_8_code 24 = .ok (.aload_n 0, 1) := by decide +kernel
theorem d3_25 : decode prog_8_method_8_code 25 = .ok (.if_acmp .ne 6, 3) := by decide +kernel
theorem d3_28 : decode prog_8_method_8_code 28 = .ok (.aload 4, 2) := by decide +kernel
theorem d3_30 : decode prog_8_method_8_code 30 = .ok (.areturn, 1) := by decide +kernel
theorem d3_31 : decode prog_8_method_8_code 31 = .ok (.iinc 3 1, 3) := by decide +kernel
theorem d3_34 : decode prog_8_method_8_code 34 = .ok (.goto (-25), 3) := by decide +kernel
theorem d3_37 : decode prog_8_method_8_code 37 = .ok (.aconst_null, 1) := by decide +kernel
theorem d3_38 : decode prog_8_method_8_code 38 = .ok (.areturn, 1) := by decide +kernel
theorem ef_3 (m : MethodId) (a0 : Addr) : entryFrame m #[(.ref a0)] 5 = mkF m 0 #[rv a0, un, un, un, un] [] := by first | (simp [entryFrame, mkF, argsToLocals, Value.category]; done) | rfl
def f3 (a0 : Addr) (w_KSNU0 : Addr) (w_UP : Addr) (w_KSNR1 : Addr) (w_RIGHT : Addr) (w_DOWN : Addr) (w_KSND2 : Addr) (w_LEFT : Addr) (w_KSNL3 : Addr) (w_KDC4 : Addr) (w_CENTER : Addr) (w_KEYCODE_CALL : Addr) (w_CALL : Addr) (w_BACK : Addr) (w_KEYCODE_BACK : Addr) (w_HOME : Addr) (w_KEYCODE_HOME : Addr) (w_KM5 : Addr) (w_MUSIC : Addr) : Value := if w_KSNU0 = a0 then (.ref w_UP) else (if w_KSND2 = a0 then (.ref w_DOWN) else (if w_KSNL3 = a0 then (.ref w_LEFT) else (if w_KSNR1 = a0 then (.ref w_RIGHT) else (if w_KDC4 = a0 then (.ref w_CENTER) else (if w_KEYCODE_BACK = a0 then (.ref w_BACK) else (if w_KEYCODE_HOME = a0 then (.ref w_HOME) else (if w_KEYCODE_CALL = a0 then (.ref w_CALL) else (if w_KM5 = a0 then (.ref w_MUSIC) else .null))))))))
def Q3 (Z : State) (a0 : Addr) (w_KSNU0 : Addr) (w_UP : Addr) (w_ALL : Addr) (w_KSNR1 : Addr) (w_RIGHT : Addr) (w_DOWN : Addr) (w_KSND2 : Addr) (w_LEFT : Addr) (w_KSNL3 : Addr) (w_KDC4 : Addr) (w_CENTER : Addr) (w_KEYCODE_CALL : Addr) (w_CALL : Addr) (w_BACK : Addr) (w_KEYCODE_BACK : Addr) (w_HOME : Addr) (w_KEYCODE_HOME : Addr) (w_KM5 : Addr) (w_MUSIC : Addr) (k_ALL : ClassId) (h0 : Heap) (n0 : Nat) (v : Option Value) (h : Heap) (L : List Loc) : Prop := v = some (f3 a0 w_KSNU0 w_UP w_KSNR1 w_RIGHT w_DOWN w_KSND2 w_LEFT w_KSNL3 w_KDC4 w_CENTER w_KEYCODE_CALL w_CALL w_BACK w_KEYCODE_BACK w_HOME w_KEYCODE_HOME w_KM5 w_MUSIC) ∧ Fr n0 L ∧ h = h0
set_option maxRecDepth 65536 in
set_option maxHeartbeats 40000000 in
theorem rm3 (l : Launch) (Z : State) (ar : Array Value) (hw : ∀ d ∈ tables_1, d.before ar Z = true) (ws : List Jvm.Cond) (a0 : Addr) (w_KSNU0 : Addr) (w_UP : Addr) (w_ALL : Addr) (w_KSNR1 : Addr) (w_RIGHT : Addr) (w_DOWN : Addr) (w_KSND2 : Addr) (w_LEFT : Addr) (w_KSNL3 : Addr) (w_KDC4 : Addr) (w_CENTER : Addr) (w_KEYCODE_CALL : Addr) (w_CALL : Addr) (w_BACK : Addr) (w_KEYCODE_BACK : Addr) (w_HOME : Addr) (w_KEYCODE_HOME : Addr) (w_KM5 : Addr) (w_MUSIC : Addr) (k_ALL : ClassId) (h0 : Heap) (n0 : Nat) (O0 : Old Z n0 h0) (HW : Wd Z w_KSNU0 w_UP w_ALL w_KSNR1 w_RIGHT w_DOWN w_KSND2 w_LEFT w_KSNL3 w_KDC4 w_CENTER w_KEYCODE_CALL w_CALL w_BACK w_KEYCODE_BACK w_HOME w_KEYCODE_HOME w_KM5 w_MUSIC k_ALL) :
    MetFree l y3 (head1 (Jvm.Cond.code y3 prog_8_method_8_code 5 (some (.object "com/example/nudge_knob/nudgeknob/Button")) :: ws) ({ frames := 0, cells := 0, slots := 0, locals := 0 } : Room)) (fun a U => a = #[(.ref a0)] ∧ Z.Warmed39 U.vm ∧ U.heap = h0) (fun _ _ _ _ _ => True) (fun _ U o U' => ∃ v L, o = .returned v ∧ Q3 Z a0 w_KSNU0 w_UP w_ALL w_KSNR1 w_RIGHT w_DOWN w_KSND2 w_LEFT w_KSNL3 w_KDC4 w_CENTER w_KEYCODE_CALL w_CALL w_BACK w_KEYCODE_BACK w_HOME w_KEYCODE_HOME w_KM5 w_MUSIC k_ALL h0 n0 v U'.heap L ∧ FrameEnd U o U' L ({ frames := 0, cells := 0, slots := 0, locals := 0 } : Room).cells ({ frames := 0, cells := 0, slots := 0, locals := 0 } : Room).slots) := by
 refine MetFree.of_bodySF (plainFor_of_name pn_1) hisR ?_
 intro p e s m args below meth c s₁ Bd hml0 hP hK
 obtain ⟨rfl, hZ, hh⟩ := hP
 have hx := Bd.exec
 have hby := Bd.bytes
 have hml : c.maxLocals = 5 := hml0
 have hown : s.vm.findClass "com/example/nudge_knob/nudgeknob/Button" = some m.cls := findClass_of_methodNamed Bd.named
 have hnm := (name_of_methodNamed Bd.named Bd.method).1
 have X0 : Stand p l e ({ frames := 0, cells := 0, slots := 0, locals := 0 } : Room) s m #[(.ref a0)] below meth c s₁ [] 0 0 := Stand.of_body Bd
 have e0 : s₁.heap = h0 := by rw [← hh, Bd.state]; rfl
 have N0 := Fr.nil n0
 have Z0 : n0 ≤ h0.size := Nat.le_trans (Nat.le_of_eq O0.1.symm) O0.2.1
 obtain ⟨S0, hS0⟩ : ∃ z, z = s₁.setTop (entryFrame m #[(.ref a0)] 5) := ⟨_, rfl⟩
 have pre0 : ∀ tg, AT p e below s₁ m 0 #[rv a0, un, un, un, un] [] tg → Steps p.tables e below S0 tg := fun tg kg => by rw [hS0]; exact castTop (ef_3 m a0) kg
 obtain ⟨S_KEYCODE_SYSTEM_NAVIGATION_UP, E_KSNU0, S_UP, E_UP, S_ALL, S_KEYCODE_SYSTEM_NAVIGATION_RIGHT, E_KSNR1, S_RIGHT, E_RIGHT, F_ordinal_KSNU0, F_ordinal_KSNR1, S_DOWN, E_DOWN, S_KEYCODE_SYSTEM_NAVIGATION_DOWN, E_KSND2, F_ordinal_KSND2, S_LEFT, E_LEFT, S_KEYCODE_SYSTEM_NAVIGATION_LEFT, E_KSNL3, F_ordinal_KSNL3, S_KEYCODE_DPAD_CENTER, E_KDC4, S_CENTER, E_CENTER, F_ordinal_KDC4, S_KEYCODE_CALL, E_KEYCODE_CALL, S_CALL, E_CALL, F_ordinal_KEYCODE_CALL, S_BACK, E_BACK, S_KEYCODE_BACK, E_KEYCODE_BACK, F_ordinal_KEYCODE_BACK, S_HOME, E_HOME, S_KEYCODE_HOME, E_KEYCODE_HOME, F_ordinal_KEYCODE_HOME, S_KEYCODE_MUSIC, E_KM5, S_MUSIC, E_MUSIC, F_ordinal_KM5, F_keyCode_UP, F_keyCode_DOWN, F_keyCode_LEFT, F_keyCode_RIGHT, F_keyCode_CENTER, F_keyCode_BACK, F_keyCode_HOME, F_keyCode_CALL, F_keyCode_MUSIC, V_ALL⟩ := id HW
 obtain ⟨T1, X1, e1, st1⟩ := getS2 X0 hx hZ hown (host := "") (Or.inl (ow hw 17 rfl)) Via.refl e0 (S_ALL.ext O0.2) (g := (mkF m 0 #[rv a0, un, un, un, un] [])) rfl (hb hby d3_0)
 obtain ⟨cl2, Ar2, q2, S2, N2, H2, G2⟩ := id (V_ALL.ext O0.2)
 obtain ⟨cl3, Ar3, q3, S3, N3, H3, G3⟩ := id (V_ALL.ext O0.2)
 have hin3 := own_in (0 : Int32) S3 ⟨by decide, by decide⟩
 have hat3 : cl3.slots[((0 : Int32)).toNatClampNeg]? = some (.ref w_UP) := Has.at H3 hin3 rfl
 obtain ⟨T4, X4, e4, st4⟩ := getF X1 hx hZ hown (host := "") (Or.inl (ow hw 19 rfl)) Via.refl e1 (F_keyCode_UP.ext O0.2) (g := (mkF m 21 #[rv a0, rv w_ALL, iv (9 : Int32), iv (0 : Int32), rv w_UP] [(.ref w_UP)])) rfl rfl (hb hby d3_21)
 have pre5 : ∀ tg, AT p e below T4 m 25 #[rv a0, rv w_ALL, iv (9 : Int32), iv (0 : Int32), rv w_UP] [(.ref a0), (.ref w_KSNU0)] tg → Steps p.tables e below S0 tg := fun tg kg => pre0 tg (by
  refine st1 _ ?_
  show AT p e below T1 m 3 #[rv a0, un, un, un, un] [(.ref w_ALL)] _
  refine XS.astoreN X1.here hx rfl (hb hby d3_3) rfl rfl (l' := #[rv a0, rv w_ALL, un, un, un]) rfl ?_
  show AT p e below T1 m 4 #[rv a0, rv w_ALL, un, un, un] [] _
  refine XS.aloadN X1.here hx rfl (hb hby d3_4) rfl rfl ?_
  show AT p e below T1 m 5 #[rv a0, rv w_ALL, un, un, un] [(.ref w_ALL)] _
  refine X1.arraylength hx (by rw [e1]; exact Ar2.1) (State.isArrayOf_alike hZ.alike Ar2.2.1) (g := (mkF m 5 #[rv a0, rv w_ALL, un, un, un] [(.ref w_ALL)])) rfl rfl (hb hby d3_5) _ ?_
  rw [len_of S2 N2]
  show AT p e below T1 m 6 #[rv a0, rv w_ALL, un, un, un] [(.int (9 : Int32))] _
  refine XS.istoreN X1.here hx rfl (hb hby d3_6) rfl (l' := #[rv a0, rv w_ALL, iv (9 : Int32), un, un]) rfl ?_
  show AT p e below T1 m 7 #[rv a0, rv w_ALL, iv (9 : Int32), un, un] [] _
  refine XS.iconst X1.here hx rfl (hb hby d3_7) ?_
  show AT p e below T1 m 8 #[rv a0, rv w_ALL, iv (9 : Int32), un, un] [(.int (0 : Int32))] _
  refine XS.istoreN X1.here hx rfl (hb hby d3_8) rfl (l' := #[rv a0, rv w_ALL, iv (9 : Int32), iv (0 : Int32), un]) rfl ?_
  show AT p e below T1 m 9 #[rv a0, rv w_ALL, iv (9 : Int32), iv (0 : Int32), un] [] _
  refine XS.iloadN X1.here hx rfl (hb hby d3_9) rfl ?_
  show AT p e below T1 m 10 #[rv a0, rv w_ALL, iv (9 : Int32), iv (0 : Int32), un] [(.int (0 : Int32))] _
  refine XS.iloadN X1.here hx rfl (hb hby d3_10) rfl ?_
  show AT p e below T1 m 11 #[rv a0, rv w_ALL, iv (9 : Int32), iv (0 : Int32), un] [(.int (9 : Int32)), (.int (0 : Int32))] _
  refine XS.icmpNo X1.here hx rfl (hb hby d3_11) rfl (XT.ii_ge_f ((by decide) : (0 : Int32) < (9 : Int32))) ?_
  show AT p e below T1 m 14 #[rv a0, rv w_ALL, iv (9 : Int32), iv (0 : Int32), un] [] _
  refine XS.aloadN X1.here hx rfl (hb hby d3_14) rfl rfl ?_
  show AT p e below T1 m 15 #[rv a0, rv w_ALL, iv (9 : Int32), iv (0 : Int32), un] [(.ref w_ALL)] _
  refine XS.iloadN X1.here hx rfl (hb hby d3_15) rfl ?_
  show AT p e below T1 m 16 #[rv a0, rv w_ALL, iv (9 : Int32), iv (0 : Int32), un] [(.int (0 : Int32)), (.ref w_ALL)] _
  refine X1.aaload hx (j := (0 : Int32)) (v := (.ref w_UP)) (by rw [e1]; exact Ar3.1) (State.isArrayOf_alike hZ.alike Ar3.2.1) rfl Ar3.2.2 hin3 hat3 (g := (mkF m 16 #[rv a0, rv w_ALL, iv (9 : Int32), iv (0 : Int32), un] [(.int (0 : Int32)), (.ref w_ALL)])) rfl rfl (hb hby d3_16) _ ?_
  show AT p e below T1 m 17 #[rv a0, rv w_ALL, iv (9 : Int32), iv (0 : Int32), un] [(.ref w_UP)] _
  refine XS.astore X1.here hx rfl (hb hby d3_17) rfl rfl (l' := #[rv a0, rv w_ALL, iv (9 : Int32), iv (0 : Int32), rv w_UP]) rfl ?_
  show AT p e below T1 m 19 #[rv a0, rv w_ALL, iv (9 : Int32), iv (0 : Int32), rv w_UP] [] _
  refine XS.aload X1.here hx rfl (hb hby d3_19) rfl rfl ?_
  show AT p e below T1 m 21 #[rv a0, rv w_ALL, iv (9 : Int32), iv (0 : Int32), rv w_UP] [(.ref w_UP)] _
  refine st4 _ ?_
  show AT p e below T4 m 24 #[rv a0, rv w_ALL, iv (9 : Int32), iv (0 : Int32), rv w_UP] [(.ref w_KSNU0)] _
  refine XS.aloadN X4.here hx rfl (hb hby d3_24) rfl rfl ?_
  exact kg)
 rcases Decidable.em (w_KSNU0 = a0) with hc6 | hc6
 ·
  obtain ⟨fs, hr, hrun, hended, hW, hsame⟩ := X4.leave (v := some (.ref w_UP)) (fun h => by rw [Bd.returns] at h; cases h)
  subst hS0
  refine ⟨_, _, pre5 _ ?_, hrun, hended, _, _, rfl, ?_, ⟨_, rfl⟩, hW, hsame.mono (by decide) (by decide)⟩
  ·
   refine Jvm.RoadKit.acmp (g := (mkF m 25 #[rv a0, rv w_ALL, iv (9 : Int32), iv (0 : Int32), rv w_UP] [(.ref a0), (.ref w_KSNU0)])) X4 hx rfl rfl rfl (pc0 := 25) (pc' := 28) (same := true) rfl (hb hby d3_25) rfl (decide_eq_true (congrArg Value.ref hc6)) (by decide) (by decide) ?_
   show AT p e below T4 m 28 #[rv a0, rv w_ALL, iv (9 : Int32), iv (0 : Int32), rv w_UP] [] _
   refine XS.aload X4.here hx rfl (hb hby d3_28) rfl rfl ?_
   show AT p e below T4 m 30 #[rv a0, rv w_ALL, iv (9 : Int32), iv (0 : Int32), rv w_UP] [(.ref w_UP)] _
   exact retOut X4 hx (t := (.object "com/example/nudge_knob/nudgeknob/Button")) (i := .areturn) Bd.returns rfl (Or.inr (Or.inr (Or.inr (Or.inr ⟨rfl, rfl, rfl⟩)))) (hb hby d3_30) hr
  ·
   show Q3 Z a0 w_KSNU0 w_UP w_ALL w_KSNR1 w_RIGHT w_DOWN w_KSND2 w_LEFT w_KSNL3 w_KDC4 w_CENTER w_KEYCODE_CALL w_CALL w_BACK w_KEYCODE_BACK w_HOME w_KEYCODE_HOME w_KM5 w_MUSIC k_ALL h0 n0 _ T4.heap _
   rw [e4]
   exact ⟨(by rw [f3, if_pos hc6]), N0, rfl⟩
 ·
  obtain ⟨cl7, Ar7, q7, S7, N7, H7, G7⟩ := id (V_ALL.ext O0.2)
  have hin7 := own_in (1 : Int32) S7 ⟨by decide, by decide⟩
  have hat7 : cl7.slots[((1 : Int32)).toNatClampNeg]? = some (.ref w_DOWN) := Has.at H7 hin7 rfl
  obtain ⟨T8, X8, e8, st8⟩ := getF X4 hx hZ hown (host := "") (Or.inl (ow hw 19 rfl)) Via.refl e4 (F_keyCode_DOWN.ext O0.2) (g := (mkF m 21 #[rv a0, rv w_ALL, iv (9 : Int32), iv (1 : Int32), rv w_DOWN] [(.ref w_DOWN)])) rfl rfl (hb hby d3_21)
  have pre9 : ∀ tg, AT p e below T8 m 25 #[rv a0, rv w_ALL, iv (9 : Int32), iv (1 : Int32), rv w_DOWN] [(.ref a0), (.ref w_KSND2)] tg → Steps p.tables e below S0 tg := fun tg kg => pre5 tg (by
   refine Jvm.RoadKit.acmp (g := (mkF m 25 #[rv a0, rv w_ALL, iv (9 : Int32), iv (0 : Int32), rv w_UP] [(.ref a0), (.ref w_KSNU0)])) X4 hx rfl rfl rfl (pc0 := 25) (pc' := 31) (same := false) rfl (hb hby d3_25) rfl (decide_eq_false fun q => hc6 (Value.ref.inj q)) (by decide) (by decide) ?_
   show AT p e below T4 m 31 #[rv a0, rv w_ALL, iv (9 : Int32), iv (0 : Int32), rv w_UP] [] _
   refine XS.iinc X4.here hx rfl (hb hby d3_31) rfl (l' := #[rv a0, rv w_ALL, iv (9 : Int32), iv (1 : Int32), rv w_UP]) rfl ?_
   show AT p e below T4 m 34 #[rv a0, rv w_ALL, iv (9 : Int32), iv (1 : Int32), rv w_UP] [] _
   refine XS.goto X4.here hx rfl (pc0 := 34) (pc' := 9) rfl (hb hby d3_34) (by decide) (by decide) ?_
   show AT p e below T4 m 9 #[rv a0, rv w_ALL, iv (9 : Int32), iv (1 : Int32), rv w_UP] [] _
   refine XS.iloadN X4.here hx rfl (hb hby d3_9) rfl ?_
   show AT p e below T4 m 10 #[rv a0, rv w_ALL, iv (9 : Int32), iv (1 : Int32), rv w_UP] [(.int (1 : Int32))] _
   refine XS.iloadN X4.here hx rfl (hb hby d3_10) rfl ?_
   show AT p e below T4 m 11 #[rv a0, rv w_ALL, iv (9 : Int32), iv (1 : Int32), rv w_UP] [(.int (9 : Int32)), (.int (1 : Int32))] _
   refine XS.icmpNo X4.here hx rfl (hb hby d3_11) rfl (XT.ii_ge_f ((by decide) : (1 : Int32) < (9 : Int32))) ?_
   show AT p e below T4 m 14 #[rv a0, rv w_ALL, iv (9 : Int32), iv (1 : Int32), rv w_UP] [] _
   refine XS.aloadN X4.here hx rfl (hb hby d3_14) rfl rfl ?_
   show AT p e below T4 m 15 #[rv a0, rv w_ALL, iv (9 : Int32), iv (1 : Int32), rv w_UP] [(.ref w_ALL)] _
   refine XS.iloadN X4.here hx rfl (hb hby d3_15) rfl ?_
   show AT p e below T4 m 16 #[rv a0, rv w_ALL, iv (9 : Int32), iv (1 : Int32), rv w_UP] [(.int (1 : Int32)), (.ref w_ALL)] _
   refine X4.aaload hx (j := (1 : Int32)) (v := (.ref w_DOWN)) (by rw [e4]; exact Ar7.1) (State.isArrayOf_alike hZ.alike Ar7.2.1) rfl Ar7.2.2 hin7 hat7 (g := (mkF m 16 #[rv a0, rv w_ALL, iv (9 : Int32), iv (1 : Int32), rv w_UP] [(.int (1 : Int32)), (.ref w_ALL)])) rfl rfl (hb hby d3_16) _ ?_
   show AT p e below T4 m 17 #[rv a0, rv w_ALL, iv (9 : Int32), iv (1 : Int32), rv w_UP] [(.ref w_DOWN)] _
   refine XS.astore X4.here hx rfl (hb hby d3_17) rfl rfl (l' := #[rv a0, rv w_ALL, iv (9 : Int32), iv (1 : Int32), rv w_DOWN]) rfl ?_
   show AT p e below T4 m 19 #[rv a0, rv w_ALL, iv (9 : Int32), iv (1 : Int32), rv w_DOWN] [] _
   refine XS.aload X4.here hx rfl (hb hby d3_19) rfl rfl ?_
   show AT p e below T4 m 21 #[rv a0, rv w_ALL, iv (9 : Int32), iv (1 : Int32), rv w_DOWN] [(.ref w_DOWN)] _
   refine st8 _ ?_
   show AT p e below T8 m 24 #[rv a0, rv w_ALL, iv (9 : Int32), iv (1 : Int32), rv w_DOWN] [(.ref w_KSND2)] _
   refine XS.aloadN X8.here hx rfl (hb hby d3_24) rfl rfl ?_
   exact kg)
  rcases Decidable.em (w_KSND2 = a0) with hc10 | hc10
  ·
   obtain ⟨fs, hr, hrun, hended, hW, hsame⟩ := X8.leave (v := some (.ref w_DOWN)) (fun h => by rw [Bd.returns] at h; cases h)
   subst hS0
   refine ⟨_, _, pre9 _ ?_, hrun, hended, _, _, rfl, ?_, ⟨_, rfl⟩, hW, hsame.mono (by decide) (by decide)⟩
   ·
    refine Jvm.RoadKit.acmp (g := (mkF m 25 #[rv a0, rv w_ALL, iv (9 : Int32), iv (1 : Int32), rv w_DOWN] [(.ref a0), (.ref w_KSND2)])) X8 hx rfl rfl rfl (pc0 := 25) (pc' := 28) (same := true) rfl (hb hby d3_25) rfl (decide_eq_true (congrArg Value.ref hc10)) (by decide) (by decide) ?_
    show AT p e below T8 m 28 #[rv a0, rv w_ALL, iv (9 : Int32), iv (1 : Int32), rv w_DOWN] [] _
    refine XS.aload X8.here hx rfl (hb hby d3_28) rfl rfl ?_
    show AT p e below T8 m 30 #[rv a0, rv w_ALL, iv (9 : Int32), iv (1 : Int32), rv w_DOWN] [(.ref w_DOWN)] _
    exact retOut X8 hx (t := (.object "com/example/nudge_knob/nudgeknob/Button")) (i := .areturn) Bd.returns rfl (Or.inr (Or.inr (Or.inr (Or.inr ⟨rfl, rfl, rfl⟩)))) (hb hby d3_30) hr
   ·
    show Q3 Z a0 w_KSNU0 w_UP w_ALL w_KSNR1 w_RIGHT w_DOWN w_KSND2 w_LEFT w_KSNL3 w_KDC4 w_CENTER w_KEYCODE_CALL w_CALL w_BACK w_KEYCODE_BACK w_HOME w_KEYCODE_HOME w_KM5 w_MUSIC k_ALL h0 n0 _ T8.heap _
    rw [e8]
    exact ⟨(by rw [f3, if_neg hc6, if_pos hc10]), N0, rfl⟩
  ·
   obtain ⟨cl11, Ar11, q11, S11, N11, H11, G11⟩ := id (V_ALL.ext O0.2)
   have hin11 := own_in (2 : Int32) S11 ⟨by decide, by decide⟩
   have hat11 : cl11.slots[((2 : Int32)).toNatClampNeg]? = some (.ref w_LEFT) := Has.at H11 hin11 rfl
   obtain ⟨T12, X12, e12, st12⟩ := getF X8 hx hZ hown (host := "") (Or.inl (ow hw 19 rfl)) Via.refl e8 (F_keyCode_LEFT.ext O0.2) (g := (mkF m 21 #[rv a0, rv w_ALL, iv (9 : Int32), iv (2 : Int32), rv w_LEFT] [(.ref w_LEFT)])) rfl rfl (hb hby d3_21)
   have pre13 : ∀ tg, AT p e below T12 m 25 #[rv a0, rv w_ALL, iv (9 : Int32), iv (2 : Int32), rv w_LEFT] [(.ref a0), (.ref w_KSNL3)] tg → Steps p.tables e below S0 tg := fun tg kg => pre9 tg (by
    refine Jvm.RoadKit.acmp (g := (mkF m 25 #[rv a0, rv w_ALL, iv (9 : Int32), iv (1 : Int32), rv w_DOWN] [(.ref a0), (.ref w_KSND2)])) X8 hx rfl rfl rfl (pc0 := 25) (pc' := 31) (same := false) rfl (hb hby d3_25) rfl (decide_eq_false fun q => hc10 (Value.ref.inj q)) (by decide) (by decide) ?_
    show AT p e below T8 m 31 #[rv a0, rv w_ALL, iv (9 : Int32), iv (1 : Int32), rv w_DOWN] [] _
    refine XS.iinc X8.here hx rfl (hb hby d3_31) rfl (l' := #[rv a0, rv w_ALL, iv (9 : Int32), iv (2 : Int32), rv w_DOWN]) rfl ?_
    show AT p e below T8 m 34 #[rv a0, rv w_ALL, iv (9 : Int32), iv (2 : Int32), rv w_DOWN] [] _
    refine XS.goto X8.here hx rfl (pc0 := 34) (pc' := 9) rfl (hb hby d3_34) (by decide) (by decide) ?_
    show AT p e below T8 m 9 #[rv a0, rv w_ALL, iv (9 : Int32), iv (2 : Int32), rv w_DOWN] [] _
    refine XS.iloadN X8.here hx rfl (hb hby d3_9) rfl ?_
    show AT p e below T8 m 10 #[rv a0, rv w_ALL, iv (9 : Int32), iv (2 : Int32), rv w_DOWN] [(.int (2 : Int32))] _
    refine XS.iloadN X8.here hx rfl (hb hby d3_10) rfl ?_
    show AT p e below T8 m 11 #[rv a0, rv w_ALL, iv (9 : Int32), iv (2 : Int32), rv w_DOWN] [(.int (9 : Int32)), (.int (2 : Int32))] _
    refine XS.icmpNo X8.here hx rfl (hb hby d3_11) rfl (XT.ii_ge_f ((by decide) : (2 : Int32) < (9 : Int32))) ?_
    show AT p e below T8 m 14 #[rv a0, rv w_ALL, iv (9 : Int32), iv (2 : Int32), rv w_DOWN] [] _
    refine XS.aloadN X8.here hx rfl (hb hby d3_14) rfl rfl ?_
    show AT p e below T8 m 15 #[rv a0, rv w_ALL, iv (9 : Int32), iv (2 : Int32), rv w_DOWN] [(.ref w_ALL)] _
    refine XS.iloadN X8.here hx rfl (hb hby d3_15) rfl ?_
    show AT p e below T8 m 16 #[rv a0, rv w_ALL, iv (9 : Int32), iv (2 : Int32), rv w_DOWN] [(.int (2 : Int32)), (.ref w_ALL)] _
    refine X8.aaload hx (j := (2 : Int32)) (v := (.ref w_LEFT)) (by rw [e8]; exact Ar11.1) (State.isArrayOf_alike hZ.alike Ar11.2.1) rfl Ar11.2.2 hin11 hat11 (g := (mkF m 16 #[rv a0, rv w_ALL, iv (9 : Int32), iv (2 : Int32), rv w_DOWN] [(.int (2 : Int32)), (.ref w_ALL)])) rfl rfl (hb hby d3_16) _ ?_
    show AT p e below T8 m 17 #[rv a0, rv w_ALL, iv (9 : Int32), iv (2 : Int32), rv w_DOWN] [(.ref w_LEFT)] _
    refine XS.astore X8.here hx rfl (hb hby d3_17) rfl rfl (l' := #[rv a0, rv w_ALL, iv (9 : Int32), iv (2 : Int32), rv w_LEFT]) rfl ?_
    show AT p e below T8 m 19 #[rv a0, rv w_ALL, iv (9 : Int32), iv (2 : Int32), rv w_LEFT] [] _
    refine XS.aload X8.here hx rfl (hb hby d3_19) rfl rfl ?_
    show AT p e below T8 m 21 #[rv a0, rv w_ALL, iv (9 : Int32), iv (2 : Int32), rv w_LEFT] [(.ref w_LEFT)] _
    refine st12 _ ?_
    show AT p e below T12 m 24 #[rv a0, rv w_ALL, iv (9 : Int32), iv (2 : Int32), rv w_LEFT] [(.ref w_KSNL3)] _
    refine XS.aloadN X12.here hx rfl (hb hby d3_24) rfl rfl ?_
    exact kg)
   rcases Decidable.em (w_KSNL3 = a0) with hc14 | hc14
   ·
    obtain ⟨fs, hr, hrun, hended, hW, hsame⟩ := X12.leave (v := some (.ref w_LEFT)) (fun h => by rw [Bd.returns] at h; cases h)
    subst hS0
    refine ⟨_, _, pre13 _ ?_, hrun, hended, _, _, rfl, ?_, ⟨_, rfl⟩, hW, hsame.mono (by decide) (by decide)⟩
    ·
     refine Jvm.RoadKit.acmp (g := (mkF m 25 #[rv a0, rv w_ALL, iv (9 : Int32), iv (2 : Int32), rv w_LEFT] [(.ref a0), (.ref w_KSNL3)])) X12 hx rfl rfl rfl (pc0 := 25) (pc' := 28) (same := true) rfl (hb hby d3_25) rfl (decide_eq_true (congrArg Value.ref hc14)) (by decide) (by decide) ?_
     show AT p e below T12 m 28 #[rv a0, rv w_ALL, iv (9 : Int32), iv (2 : Int32), rv w_LEFT] [] _
     refine XS.aload X12.here hx rfl (hb hby d3_28) rfl rfl ?_
     show AT p e below T12 m 30 #[rv a0, rv w_ALL, iv (9 : Int32), iv (2 : Int32), rv w_LEFT] [(.ref w_LEFT)] _
     exact retOut X12 hx (t := (.object "com/example/nudge_knob/nudgeknob/Button")) (i := .areturn) Bd.returns rfl (Or.inr (Or.inr (Or.inr (Or.inr ⟨rfl, rfl, rfl⟩)))) (hb hby d3_30) hr
    ·
     show Q3 Z a0 w_KSNU0 w_UP w_ALL w_KSNR1 w_RIGHT w_DOWN w_KSND2 w_LEFT w_KSNL3 w_KDC4 w_CENTER w_KEYCODE_CALL w_CALL w_BACK w_KEYCODE_BACK w_HOME w_KEYCODE_HOME w_KM5 w_MUSIC k_ALL h0 n0 _ T12.heap _
     rw [e12]
     exact ⟨(by rw [f3, if_neg hc6, if_neg hc10, if_pos hc14]), N0, rfl⟩
   ·
    obtain ⟨cl15, Ar15, q15, S15, N15, H15, G15⟩ := id (V_ALL.ext O0.2)
    have hin15 := own_in (3 : Int32) S15 ⟨by decide, by decide⟩
    have hat15 : cl15.slots[((3 : Int32)).toNatClampNeg]? = some (.ref w_RIGHT) := Has.at H15 hin15 rfl
    obtain ⟨T16, X16, e16, st16⟩ := getF X12 hx hZ hown (host := "") (Or.inl (ow hw 19 rfl)) Via.refl e12 (F_keyCode_RIGHT.ext O0.2) (g := (mkF m 21 #[rv a0, rv w_ALL, iv (9 : Int32), iv (3 : Int32), rv w_RIGHT] [(.ref w_RIGHT)])) rfl rfl (hb hby d3_21)
    have pre17 : ∀ tg, AT p e below T16 m 25 #[rv a0, rv w_ALL, iv (9 : Int32), iv (3 : Int32), rv w_RIGHT] [(.ref a0), (.ref w_KSNR1)] tg → Steps p.tables e below S0 tg := fun tg kg => pre13 tg (by
     refine Jvm.RoadKit.acmp (g := (mkF m 25 #[rv a0, rv w_ALL, iv (9 : Int32), iv (2 : Int32), rv w_LEFT] [(.ref a0), (.ref w_KSNL3)])) X12 hx rfl rfl rfl (pc0 := 25) (pc' := 31) (same := false) rfl (hb hby d3_25) rfl (decide_eq_false fun q => hc14 (Value.ref.inj q)) (by decide) (by decide) ?_
     show AT p e below T12 m 31 #[rv a0, rv w_ALL, iv (9 : Int32), iv (2 : Int32), rv w_LEFT] [] _
     refine XS.iinc X12.here hx rfl (hb hby d3_31) rfl (l' := #[rv a0, rv w_ALL, iv (9 : Int32), iv (3 : Int32), rv w_LEFT]) rfl ?_
     show AT p e below T12 m 34 #[rv a0, rv w_ALL, iv (9 : Int32), iv (3 : Int32), rv w_LEFT] [] _
     refine XS.goto X12.here hx rfl (pc0 := 34) (pc' := 9) rfl (hb hby d3_34) (by decide) (by decide) ?_
     show AT p e below T12 m 9 #[rv a0, rv w_ALL, iv (9 : Int32), iv (3 : Int32), rv w_LEFT] [] _
     refine XS.iloadN X12.here hx rfl (hb hby d3_9) rfl ?_
     show AT p e below T12 m 10 #[rv a0, rv w_ALL, iv (9 : Int32), iv (3 : Int32), rv w_LEFT] [(.int (3 : Int32))] _
     refine XS.iloadN X12.here hx rfl (hb hby d3_10) rfl ?_
     show AT p e below T12 m 11 #[rv a0, rv w_ALL, iv (9 : Int32), iv (3 : Int32), rv w_LEFT] [(.int (9 : Int32)), (.int (3 : Int32))] _
     refine XS.icmpNo X12.here hx rfl (hb hby d3_11) rfl (XT.ii_ge_f ((by decide) : (3 : Int32) < (9 : Int32))) ?_
     show AT p e below T12 m 14 #[rv a0, rv w_ALL, iv (9 : Int32), iv (3 : Int32), rv w_LEFT] [] _
     refine XS.aloadN X12.here hx rfl (hb hby d3_14) rfl rfl ?_
     show AT p e below T12 m 15 #[rv a0, rv w_ALL, iv (9 : Int32), iv (3 : Int32), rv w_LEFT] [(.ref w_ALL)] _
     refine XS.iloadN X12.here hx rfl (hb hby d3_15) rfl ?_
     show AT p e below T12 m 16 #[rv a0, rv w_ALL, iv (9 : Int32), iv (3 : Int32), rv w_LEFT] [(.int (3 : Int32)), (.ref w_ALL)] _
     refine X12.aaload hx (j := (3 : Int32)) (v := (.ref w_RIGHT)) (by rw [e12]; exact Ar15.1) (State.isArrayOf_alike hZ.alike Ar15.2.1) rfl Ar15.2.2 hin15 hat15 (g := (mkF m 16 #[rv a0, rv w_ALL, iv (9 : Int32), iv (3 : Int32), rv w_LEFT] [(.int (3 : Int32)), (.ref w_ALL)])) rfl rfl (hb hby d3_16) _ ?_
     show AT p e below T12 m 17 #[rv a0, rv w_ALL, iv (9 : Int32), iv (3 : Int32), rv w_LEFT] [(.ref w_RIGHT)] _
     refine XS.astore X12.here hx rfl (hb hby d3_17) rfl rfl (l' := #[rv a0, rv w_ALL, iv (9 : Int32), iv (3 : Int32), rv w_RIGHT]) rfl ?_
     show AT p e below T12 m 19 #[rv a0, rv w_ALL, iv (9 : Int32), iv (3 : Int32), rv w_RIGHT] [] _
     refine XS.aload X12.here hx rfl (hb hby d3_19) rfl rfl ?_
     show AT p e below T12 m 21 #[rv a0, rv w_ALL, iv (9 : Int32), iv (3 : Int32), rv w_RIGHT] [(.ref w_RIGHT)] _
     refine st16 _ ?_
     show AT p e below T16 m 24 #[rv a0, rv w_ALL, iv (9 : Int32), iv (3 : Int32), rv w_RIGHT] [(.ref w_KSNR1)] _
     refine XS.aloadN X16.here hx rfl (hb hby d3_24) rfl rfl ?_
     exact kg)
    rcases Decidable.em (w_KSNR1 = a0) with hc18 | hc18
    ·
     obtain ⟨fs, hr, hrun, hended, hW, hsame⟩ := X16.leave (v := some (.ref w_RIGHT)) (fun h => by rw [Bd.returns] at h; cases h)
     subst hS0
     refine ⟨_, _, pre17 _ ?_, hrun, hended, _, _, rfl, ?_, ⟨_, rfl⟩, hW, hsame.mono (by decide) (by decide)⟩
     ·
      refine Jvm.RoadKit.acmp (g := (mkF m 25 #[rv a0, rv w_ALL, iv (9 : Int32), iv (3 : Int32), rv w_RIGHT] [(.ref a0), (.ref w_KSNR1)])) X16 hx rfl rfl rfl (pc0 := 25) (pc' := 28) (same := true) rfl (hb hby d3_25) rfl (decide_eq_true (congrArg Value.ref hc18)) (by decide) (by decide) ?_
      show AT p e below T16 m 28 #[rv a0, rv w_ALL, iv (9 : Int32), iv (3 : Int32), rv w_RIGHT] [] _
      refine XS.aload X16.here hx rfl (hb hby d3_28) rfl rfl ?_
      show AT p e below T16 m 30 #[rv a0, rv w_ALL, iv (9 : Int32), iv (3 : Int32), rv w_RIGHT] [(.ref w_RIGHT)] _
      exact retOut X16 hx (t := (.object "com/example/nudge_knob/nudgeknob/Button")) (i := .areturn) Bd.returns rfl (Or.inr (Or.inr (Or.inr (Or.inr ⟨rfl, rfl, rfl⟩)))) (hb hby d3_30) hr
     ·
      show Q3 Z a0 w_KSNU0 w_UP w_ALL w_KSNR1 w_RIGHT w_DOWN w_KSND2 w_LEFT w_KSNL3 w_KDC4 w_CENTER w_KEYCODE_CALL w_CALL w_BACK w_KEYCODE_BACK w_HOME w_KEYCODE_HOME w_KM5 w_MUSIC k_ALL h0 n0 _ T16.heap _
      rw [e16]
      exact ⟨(by rw [f3, if_neg hc6, if_neg hc10, if_neg hc14, if_pos hc18]), N0, rfl⟩
    ·
     obtain ⟨cl19, Ar19, q19, S19, N19, H19, G19⟩ := id (V_ALL.ext O0.2)
     have hin19 := own_in (4 : Int32) S19 ⟨by decide, by decide⟩
     have hat19 : cl19.slots[((4 : Int32)).toNatClampNeg]? = some (.ref w_CENTER) := Has.at H19 hin19 rfl
     obtain ⟨T20, X20, e20, st20⟩ := getF X16 hx hZ hown (host := "") (Or.inl (ow hw 19 rfl)) Via.refl e16 (F_keyCode_CENTER.ext O0.2) (g := (mkF m 21 #[rv a0, rv w_ALL, iv (9 : Int32), iv (4 : Int32), rv w_CENTER] [(.ref w_CENTER)])) rfl rfl (hb hby d3_21)
     have pre21 : ∀ tg, AT p e below T20 m 25 #[rv a0, rv w_ALL, iv (9 : Int32), iv (4 : Int32), rv w_CENTER] [(.ref a0), (.ref w_KDC4)] tg → Steps p.tables e below S0 tg := fun tg kg => pre17 tg (by
      refine Jvm.RoadKit.acmp (g := (mkF m 25 #[rv a0, rv w_ALL, iv (9 : Int32), iv (3 : Int32), rv w_RIGHT] [(.ref a0), (.ref w_KSNR1)])) X16 hx rfl rfl rfl (pc0 := 25) (pc' := 31) (same := false) rfl (hb hby d3_25) rfl (decide_eq_false fun q => hc18 (Value.ref.inj q)) (by decide) (by decide) ?_
      show AT p e below T16 m 31 #[rv a0, rv w_ALL, iv (9 : Int32), iv (3 : Int32), rv w_RIGHT] [] _
      refine XS.iinc X16.here hx rfl (hb hby d3_31) rfl (l' := #[rv a0, rv w_ALL, iv (9 : Int32), iv (4 : Int32), rv w_RIGHT]) rfl ?_
      show AT p e below T16 m 34 #[rv a0, rv w_ALL, iv (9 : Int32), iv (4 : Int32), rv w_RIGHT] [] _
      refine XS.goto X16.here hx rfl (pc0 := 34) (pc' := 9) rfl (hb hby d3_34) (by decide) (by decide) ?_
      show AT p e below T16 m 9 #[rv a0, rv w_ALL, iv (9 : Int32), iv (4 : Int32), rv w_RIGHT] [] _
      refine XS.iloadN X16.here hx rfl (hb hby d3_9) rfl ?_
      show AT p e below T16 m 10 #[rv a0, rv w_ALL, iv (9 : Int32), iv (4 : Int32), rv w_RIGHT] [(.int (4 : Int32))] _
      refine XS.iloadN X16.here hx rfl (hb hby d3_10) rfl ?_
      show AT p e below T16 m 11 #[rv a0, rv w_ALL, iv (9 : Int32), iv (4 : Int32), rv w_RIGHT] [(.int (9 : Int32)), (.int (4 : Int32))] _
      refine XS.icmpNo X16.here hx rfl (hb hby d3_11) rfl (XT.ii_ge_f ((by decide) : (4 : Int32) < (9 : Int32))) ?_
      show AT p e below T16 m 14 #[rv a0, rv w_ALL, iv (9 : Int32), iv (4 : Int32), rv w_RIGHT] [] _
      refine XS.aloadN X16.here hx rfl (hb hby d3_14) rfl rfl ?_
      show AT p e below T16 m 15 #[rv a0, rv w_ALL, iv (9 : Int32), iv (4 : Int32), rv w_RIGHT] [(.ref w_ALL)] _
      refine XS.iloadN X16.here hx rfl (hb hby d3_15) rfl ?_
      show AT p e below T16 m 16 #[rv a0, rv w_ALL, iv (9 : Int32), iv (4 : Int32), rv w_RIGHT] [(.int (4 : Int32)), (.ref w_ALL)] _
      refine X16.aaload hx (j := (4 : Int32)) (v := (.ref w_CENTER)) (by rw [e16]; exact Ar19.1) (State.isArrayOf_alike hZ.alike Ar19.2.1) rfl Ar19.2.2 hin19 hat19 (g := (mkF m 16 #[rv a0, rv w_ALL, iv (9 : Int32), iv (4 : Int32), rv w_RIGHT] [(.int (4 : Int32)), (.ref w_ALL)])) rfl rfl (hb hby d3_16) _ ?_
      show AT p e below T16 m 17 #[rv a0, rv w_ALL, iv (9 : Int32), iv (4 : Int32), rv w_RIGHT] [(.ref w_CENTER)] _
      refine XS.astore X16.here hx rfl (hb hby d3_17) rfl rfl (l' := #[rv a0, rv w_ALL, iv (9 : Int32), iv (4 : Int32), rv w_CENTER]) rfl ?_
      show AT p e below T16 m 19 #[rv a0, rv w_ALL, iv (9 : Int32), iv (4 : Int32), rv w_CENTER] [] _
      refine XS.aload X16.here hx rfl (hb hby d3_19) rfl rfl ?_
      show AT p e below T16 m 21 #[rv a0, rv w_ALL, iv (9 : Int32), iv (4 : Int32), rv w_CENTER] [(.ref w_CENTER)] _
      refine st20 _ ?_
      show AT p e below T20 m 24 #[rv a0, rv w_ALL, iv (9 : Int32), iv (4 : Int32), rv w_CENTER] [(.ref w_KDC4)] _
      refine XS.aloadN X20.here hx rfl (hb hby d3_24) rfl rfl ?_
      exact kg)
     rcases Decidable.em (w_KDC4 = a0) with hc22 | hc22
     ·
      obtain ⟨fs, hr, hrun, hended, hW, hsame⟩ := X20.leave (v := some (.ref w_CENTER)) (fun h => by rw [Bd.returns] at h; cases h)
      subst hS0
      refine ⟨_, _, pre21 _ ?_, hrun, hended, _, _, rfl, ?_, ⟨_, rfl⟩, hW, hsame.mono (by decide) (by decide)⟩
      ·
       refine Jvm.RoadKit.acmp (g := (mkF m 25 #[rv a0, rv w_ALL, iv (9 : Int32), iv (4 : Int32), rv w_CENTER] [(.ref a0), (.ref w_KDC4)])) X20 hx rfl rfl rfl (pc0 := 25) (pc' := 28) (same := true) rfl (hb hby d3_25) rfl (decide_eq_true (congrArg Value.ref hc22)) (by decide) (by decide) ?_
       show AT p e below T20 m 28 #[rv a0, rv w_ALL, iv (9 : Int32), iv (4 : Int32), rv w_CENTER] [] _
       refine XS.aload X20.here hx rfl (hb hby d3_28) rfl rfl ?_
       show AT p e below T20 m 30 #[rv a0, rv w_ALL, iv (9 : Int32), iv (4 : Int32), rv w_CENTER] [(.ref w_CENTER)] _
       exact retOut X20 hx (t := (.object "com/example/nudge_knob/nudgeknob/Button")) (i := .areturn) Bd.returns rfl (Or.inr (Or.inr (Or.inr (Or.inr ⟨rfl, rfl, rfl⟩)))) (hb hby d3_30) hr
      ·
       show Q3 Z a0 w_KSNU0 w_UP w_ALL w_KSNR1 w_RIGHT w_DOWN w_KSND2 w_LEFT w_KSNL3 w_KDC4 w_CENTER w_KEYCODE_CALL w_CALL w_BACK w_KEYCODE_BACK w_HOME w_KEYCODE_HOME w_KM5 w_MUSIC k_ALL h0 n0 _ T20.heap _
       rw [e20]
       exact ⟨(by rw [f3, if_neg hc6, if_neg hc10, if_neg hc14, if_neg hc18, if_pos hc22]), N0, rfl⟩
     ·
      obtain ⟨cl23, Ar23, q23, S23, N23, H23, G23⟩ := id (V_ALL.ext O0.2)
      have hin23 := own_in (5 : Int32) S23 ⟨by decide, by decide⟩
      have hat23 : cl23.slots[((5 : Int32)).toNatClampNeg]? = some (.ref w_BACK) := Has.at H23 hin23 rfl
      obtain ⟨T24, X24, e24, st24⟩ := getF X20 hx hZ hown (host := "") (Or.inl (ow hw 19 rfl)) Via.refl e20 (F_keyCode_BACK.ext O0.2) (g := (mkF m 21 #[rv a0, rv w_ALL, iv (9 : Int32), iv (5 : Int32), rv w_BACK] [(.ref w_BACK)])) rfl rfl (hb hby d3_21)
      have pre25 : ∀ tg, AT p e below T24 m 25 #[rv a0, rv w_ALL, iv (9 : Int32), iv (5 : Int32), rv w_BACK] [(.ref a0), (.ref w_KEYCODE_BACK)] tg → Steps p.tables e below S0 tg := fun tg kg => pre21 tg (by
       refine Jvm.RoadKit.acmp (g := (mkF m 25 #[rv a0, rv w_ALL, iv (9 : Int32), iv (4 : Int32), rv w_CENTER] [(.ref a0), (.ref w_KDC4)])) X20 hx rfl rfl rfl (pc0 := 25) (pc' := 31) (same := false) rfl (hb hby d3_25) rfl (decide_eq_false fun q => hc22 (Value.ref.inj q)) (by decide) (by decide) ?_
       show AT p e below T20 m 31 #[rv a0, rv w_ALL, iv (9 : Int32), iv (4 : Int32), rv w_CENTER] [] _
       refine XS.iinc X20.here hx rfl (hb hby d3_31) rfl (l' := #[rv a0, rv w_ALL, iv (9 : Int32), iv (5 : Int32), rv w_CENTER]) rfl ?_
       show AT p e below T20 m 34 #[rv a0, rv w_ALL, iv (9 : Int32), iv (5 : Int32), rv w_CENTER] [] _
       refine XS.goto X20.here hx rfl (pc0 := 34) (pc' := 9) rfl (hb hby d3_34) (by decide) (by decide) ?_
       show AT p e below T20 m 9 #[rv a0, rv w_ALL, iv (9 : Int32), iv (5 : Int32), rv w_CENTER] [] _
       refine XS.iloadN X20.here hx rfl (hb hby d3_9) rfl ?_
       show AT p e below T20 m 10 #[rv a0, rv w_ALL, iv (9 : Int32), iv (5 : Int32), rv w_CENTER] [(.int (5 : Int32))] _
       refine XS.iloadN X20.here hx rfl (hb hby d3_10) rfl ?_
       show AT p e below T20 m 11 #[rv a0, rv w_ALL, iv (9 : Int32), iv (5 : Int32), rv w_CENTER] [(.int (9 : Int32)), (.int (5 : Int32))] _
       refine XS.icmpNo X20.here hx rfl (hb hby d3_11) rfl (XT.ii_ge_f ((by decide) : (5 : Int32) < (9 : Int32))) ?_
       show AT p e below T20 m 14 #[rv a0, rv w_ALL, iv (9 : Int32), iv (5 : Int32), rv w_CENTER] [] _
       refine XS.aloadN X20.here hx rfl (hb hby d3_14) rfl rfl ?_
       show AT p e below T20 m 15 #[rv a0, rv w_ALL, iv (9 : Int32), iv (5 : Int32), rv w_CENTER] [(.ref w_ALL)] _
       refine XS.iloadN X20.here hx rfl (hb hby d3_15) rfl ?_
       show AT p e below T20 m 16 #[rv a0, rv w_ALL, iv (9 : Int32), iv (5 : Int32), rv w_CENTER] [(.int (5 : Int32)), (.ref w_ALL)] _
       refine X20.aaload hx (j := (5 : Int32)) (v := (.ref w_BACK)) (by rw [e20]; exact Ar23.1) (State.isArrayOf_alike hZ.alike Ar23.2.1) rfl Ar23.2.2 hin23 hat23 (g := (mkF m 16 #[rv a0, rv w_ALL, iv (9 : Int32), iv (5 : Int32), rv w_CENTER] [(.int (5 : Int32)), (.ref w_ALL)])) rfl rfl (hb hby d3_16) _ ?_
       show AT p e below T20 m 17 #[rv a0, rv w_ALL, iv (9 : Int32), iv (5 : Int32), rv w_CENTER] [(.ref w_BACK)] _
       refine XS.astore X20.here hx rfl (hb hby d3_17) rfl rfl (l' := #[rv a0, rv w_ALL, iv (9 : Int32), iv (5 : Int32), rv w_BACK]) rfl ?_
       show AT p e below T20 m 19 #[rv a0, rv w_ALL, iv (9 : Int32), iv (5 : Int32), rv w_BACK] [] _
       refine XS.aload X20.here hx rfl (hb hby d3_19) rfl rfl ?_
       show AT p e below T20 m 21 #[rv a0, rv w_ALL, iv (9 : Int32), iv (5 : Int32), rv w_BACK] [(.ref w_BACK)] _
       refine st24 _ ?_
       show AT p e below T24 m 24 #[rv a0, rv w_ALL, iv (9 : Int32), iv (5 : Int32), rv w_BACK] [(.ref w_KEYCODE_BACK)] _
       refine XS.aloadN X24.here hx rfl (hb hby d3_24) rfl rfl ?_
       exact kg)
      rcases Decidable.em (w_KEYCODE_BACK = a0) with hc26 | hc26
      ·
       obtain ⟨fs, hr, hrun, hended, hW, hsame⟩ := X24.leave (v := some (.ref w_BACK)) (fun h => by rw [Bd.returns] at h; cases h)
       subst hS0
       refine ⟨_, _, pre25 _ ?_, hrun, hended, _, _, rfl, ?_, ⟨_, rfl⟩, hW, hsame.mono (by decide) (by decide)⟩
       ·
        refine Jvm.RoadKit.acmp (g := (mkF m 25 #[rv a0, rv w_ALL, iv (9 : Int32), iv (5 : Int32), rv w_BACK] [(.ref a0), (.ref w_KEYCODE_BACK)])) X24 hx rfl rfl rfl (pc0 := 25) (pc' := 28) (same := true) rfl (hb hby d3_25) rfl (decide_eq_true (congrArg Value.ref hc26)) (by decide) (by decide) ?_
        show AT p e below T24 m 28 #[rv a0, rv w_ALL, iv (9 : Int32), iv (5 : Int32), rv w_BACK] [] _
        refine XS.aload X24.here hx rfl (hb hby d3_28) rfl rfl ?_
        show AT p e below T24 m 30 #[rv a0, rv w_ALL, iv (9 : Int32), iv (5 : Int32), rv w_BACK] [(.ref w_BACK)] _
        exact retOut X24 hx (t := (.object "com/example/nudge_knob/nudgeknob/Button")) (i := .areturn) Bd.returns rfl (Or.inr (Or.inr (Or.inr (Or.inr ⟨rfl, rfl, rfl⟩)))) (hb hby d3_30) hr
       ·
        show Q3 Z a0 w_KSNU0 w_UP w_ALL w_KSNR1 w_RIGHT w_DOWN w_KSND2 w_LEFT w_KSNL3 w_KDC4 w_CENTER w_KEYCODE_CALL w_CALL w_BACK w_KEYCODE_BACK w_HOME w_KEYCODE_HOME w_KM5 w_MUSIC k_ALL h0 n0 _ T24.heap _
        rw [e24]
        exact ⟨(by rw [f3, if_neg hc6, if_neg hc10, if_neg hc14, if_neg hc18, if_neg hc22, if_pos hc26]), N0, rfl⟩
      ·
       obtain ⟨cl27, Ar27, q27, S27, N27, H27, G27⟩ := id (V_ALL.ext O0.2)
       have hin27 := own_in (6 : Int32) S27 ⟨by decide, by decide⟩
       have hat27 : cl27.slots[((6 : Int32)).toNatClampNeg]? = some (.ref w_HOME) := Has.at H27 hin27 rfl
       obtain ⟨T28, X28, e28, st28⟩ := getF X24 hx hZ hown (host := "") (Or.inl (ow hw 19 rfl)) Via.refl e24 (F_keyCode_HOME.ext O0.2) (g := (mkF m 21 #[rv a0, rv w_ALL, iv (9 : Int32), iv (6 : Int32), rv w_HOME] [(.ref w_HOME)])) rfl rfl (hb hby d3_21)
       have pre29 : ∀ tg, AT p e below T28 m 25 #[rv a0, rv w_ALL, iv (9 : Int32), iv (6 : Int32), rv w_HOME] [(.ref a0), (.ref w_KEYCODE_HOME)] tg → Steps p.tables e below S0 tg := fun tg kg => pre25 tg (by
        refine Jvm.RoadKit.acmp (g := (mkF m 25 #[rv a0, rv w_ALL, iv (9 : Int32), iv (5 : Int32), rv w_BACK] [(.ref a0), (.ref w_KEYCODE_BACK)])) X24 hx rfl rfl rfl (pc0 := 25) (pc' := 31) (same := false) rfl (hb hby d3_25) rfl (decide_eq_false fun q => hc26 (Value.ref.inj q)) (by decide) (by decide) ?_
        show AT p e below T24 m 31 #[rv a0, rv w_ALL, iv (9 : Int32), iv (5 : Int32), rv w_BACK] [] _
        refine XS.iinc X24.here hx rfl (hb hby d3_31) rfl (l' := #[rv a0, rv w_ALL, iv (9 : Int32), iv (6 : Int32), rv w_BACK]) rfl ?_
        show AT p e below T24 m 34 #[rv a0, rv w_ALL, iv (9 : Int32), iv (6 : Int32), rv w_BACK] [] _
        refine XS.goto X24.here hx rfl (pc0 := 34) (pc' := 9) rfl (hb hby d3_34) (by decide) (by decide) ?_
        show AT p e below T24 m 9 #[rv a0, rv w_ALL, iv (9 : Int32), iv (6 : Int32), rv w_BACK] [] _
        refine XS.iloadN X24.here hx rfl (hb hby d3_9) rfl ?_
        show AT p e below T24 m 10 #[rv a0, rv w_ALL, iv (9 : Int32), iv (6 : Int32), rv w_BACK] [(.int (6 : Int32))] _
        refine XS.iloadN X24.here hx rfl (hb hby d3_10) rfl ?_
        show AT p e below T24 m 11 #[rv a0, rv w_ALL, iv (9 : Int32), iv (6 : Int32), rv w_BACK] [(.int (9 : Int32)), (.int (6 : Int32))] _
        refine XS.icmpNo X24.here hx rfl (hb hby d3_11) rfl (XT.ii_ge_f ((by decide) : (6 : Int32) < (9 : Int32))) ?_
        show AT p e below T24 m 14 #[rv a0, rv w_ALL, iv (9 : Int32), iv (6 : Int32), rv w_BACK] [] _
        refine XS.aloadN X24.here hx rfl (hb hby d3_14) rfl rfl ?_
        show AT p e below T24 m 15 #[rv a0, rv w_ALL, iv (9 : Int32), iv (6 : Int32), rv w_BACK] [(.ref w_ALL)] _
        refine XS.iloadN X24.here hx rfl (hb hby d3_15) rfl ?_
        show AT p e below T24 m 16 #[rv a0, rv w_ALL, iv (9 : Int32), iv (6 : Int32), rv w_BACK] [(.int (6 : Int32)), (.ref w_ALL)] _
        refine X24.aaload hx (j := (6 : Int32)) (v := (.ref w_HOME)) (by rw [e24]; exact Ar27.1) (State.isArrayOf_alike hZ.alike Ar27.2.1) rfl Ar27.2.2 hin27 hat27 (g := (mkF m 16 #[rv a0, rv w_ALL, iv (9 : Int32), iv (6 : Int32), rv w_BACK] [(.int (6 : Int32)), (.ref w_ALL)])) rfl rfl (hb hby d3_16) _ ?_
        show AT p e below T24 m 17 #[rv a0, rv w_ALL, iv (9 : Int32), iv (6 : Int32), rv w_BACK] [(.ref w_HOME)] _
        refine XS.astore X24.here hx rfl (hb hby d3_17) rfl rfl (l' := #[rv a0, rv w_ALL, iv (9 : Int32), iv (6 : Int32), rv w_HOME]) rfl ?_
        show AT p e below T24 m 19 #[rv a0, rv w_ALL, iv (9 : Int32), iv (6 : Int32), rv w_HOME] [] _
        refine XS.aload X24.here hx rfl (hb hby d3_19) rfl rfl ?_
        show AT p e below T24 m 21 #[rv a0, rv w_ALL, iv (9 : Int32), iv (6 : Int32), rv w_HOME] [(.ref w_HOME)] _
        refine st28 _ ?_
        show AT p e below T28 m 24 #[rv a0, rv w_ALL, iv (9 : Int32), iv (6 : Int32), rv w_HOME] [(.ref w_KEYCODE_HOME)] _
        refine XS.aloadN X28.here hx rfl (hb hby d3_24) rfl rfl ?_
        exact kg)
       rcases Decidable.em (w_KEYCODE_HOME = a0) with hc30 | hc30
       ·
        obtain ⟨fs, hr, hrun, hended, hW, hsame⟩ := X28.leave (v := some (.ref w_HOME)) (fun h => by rw [Bd.returns] at h; cases h)
        subst hS0
        refine ⟨_, _, pre29 _ ?_, hrun, hended, _, _, rfl, ?_, ⟨_, rfl⟩, hW, hsame.mono (by decide) (by decide)⟩
        ·
         refine Jvm.RoadKit.acmp (g := (mkF m 25 #[rv a0, rv w_ALL, iv (9 : Int32), iv (6 : Int32), rv w_HOME] [(.ref a0), (.ref w_KEYCODE_HOME)])) X28 hx rfl rfl rfl (pc0 := 25) (pc' := 28) (same := true) rfl (hb hby d3_25) rfl (decide_eq_true (congrArg Value.ref hc30)) (by decide) (by decide) ?_
         show AT p e below T28 m 28 #[rv a0, rv w_ALL, iv (9 : Int32), iv (6 : Int32), rv w_HOME] [] _
         refine XS.aload X28.here hx rfl (hb hby d3_28) rfl rfl ?_
         show AT p e below T28 m 30 #[rv a0, rv w_ALL, iv (9 : Int32), iv (6 : Int32), rv w_HOME] [(.ref w_HOME)] _
         exact retOut X28 hx (t := (.object "com/example/nudge_knob/nudgeknob/Button")) (i := .areturn) Bd.returns rfl (Or.inr (Or.inr (Or.inr (Or.inr ⟨rfl, rfl, rfl⟩)))) (hb hby d3_30) hr
        ·
         show Q3 Z a0 w_KSNU0 w_UP w_ALL w_KSNR1 w_RIGHT w_DOWN w_KSND2 w_LEFT w_KSNL3 w_KDC4 w_CENTER w_KEYCODE_CALL w_CALL w_BACK w_KEYCODE_BACK w_HOME w_KEYCODE_HOME w_KM5 w_MUSIC k_ALL h0 n0 _ T28.heap _
         rw [e28]
         exact ⟨(by rw [f3, if_neg hc6, if_neg hc10, if_neg hc14, if_neg hc18, if_neg hc22, if_neg hc26, if_pos hc30]), N0, rfl⟩
       ·
        obtain ⟨cl31, Ar31, q31, S31, N31, H31, G31⟩ := id (V_ALL.ext O0.2)
        have hin31 := own_in (7 : Int32) S31 ⟨by decide, by decide⟩
        have hat31 : cl31.slots[((7 : Int32)).toNatClampNeg]? = some (.ref w_CALL) := Has.at H31 hin31 rfl
        obtain ⟨T32, X32, e32, st32⟩ := getF X28 hx hZ hown (host := "") (Or.inl (ow hw 19 rfl)) Via.refl e28 (F_keyCode_CALL.ext O0.2) (g := (mkF m 21 #[rv a0, rv w_ALL, iv (9 : Int32), iv (7 : Int32), rv w_CALL] [(.ref w_CALL)])) rfl rfl (hb hby d3_21)
        have pre33 : ∀ tg, AT p e below T32 m 25 #[rv a0, rv w_ALL, iv (9 : Int32), iv (7 : Int32), rv w_CALL] [(.ref a0), (.ref w_KEYCODE_CALL)] tg → Steps p.tables e below S0 tg := fun tg kg => pre29 tg (by
         refine Jvm.RoadKit.acmp (g := (mkF m 25 #[rv a0, rv w_ALL, iv (9 : Int32), iv (6 : Int32), rv w_HOME] [(.ref a0), (.ref w_KEYCODE_HOME)])) X28 hx rfl rfl rfl (pc0 := 25) (pc' := 31) (same := false) rfl (hb hby d3_25) rfl (decide_eq_false fun q => hc30 (Value.ref.inj q)) (by decide) (by decide) ?_
         show AT p e below T28 m 31 #[rv a0, rv w_ALL, iv (9 : Int32), iv (6 : Int32), rv w_HOME] [] _
         refine XS.iinc X28.here hx rfl (hb hby d3_31) rfl (l' := #[rv a0, rv w_ALL, iv (9 : Int32), iv (7 : Int32), rv w_HOME]) rfl ?_
         show AT p e below T28 m 34 #[rv a0, rv w_ALL, iv (9 : Int32), iv (7 : Int32), rv w_HOME] [] _
         refine XS.goto X28.here hx rfl (pc0 := 34) (pc' := 9) rfl (hb hby d3_34) (by decide) (by decide) ?_
         show AT p e below T28 m 9 #[rv a0, rv w_ALL, iv (9 : Int32), iv (7 : Int32), rv w_HOME] [] _
         refine XS.iloadN X28.here hx rfl (hb hby d3_9) rfl ?_
         show AT p e below T28 m 10 #[rv a0, rv w_ALL, iv (9 : Int32), iv (7 : Int32), rv w_HOME] [(.int (7 : Int32))] _
         refine XS.iloadN X28.here hx rfl (hb hby d3_10) rfl ?_
         show AT p e below T28 m 11 #[rv a0, rv w_ALL, iv (9 : Int32), iv (7 : Int32), rv w_HOME] [(.int (9 : Int32)), (.int (7 : Int32))] _
         refine XS.icmpNo X28.here hx rfl (hb hby d3_11) rfl (XT.ii_ge_f ((by decide) : (7 : Int32) < (9 : Int32))) ?_
         show AT p e below T28 m 14 #[rv a0, rv w_ALL, iv (9 : Int32), iv (7 : Int32), rv w_HOME] [] _
         refine XS.aloadN X28.here hx rfl (hb hby d3_14) rfl rfl ?_
         show AT p e below T28 m 15 #[rv a0, rv w_ALL, iv (9 : Int32), iv (7 : Int32), rv w_HOME] [(.ref w_ALL)] _
         refine XS.iloadN X28.here hx rfl (hb hby d3_15) rfl ?_
         show AT p e below T28 m 16 #[rv a0, rv w_ALL, iv (9 : Int32), iv (7 : Int32), rv w_HOME] [(.int (7 : Int32)), (.ref w_ALL)] _
         refine X28.aaload hx (j := (7 : Int32)) (v := (.ref w_CALL)) (by rw [e28]; exact Ar31.1) (State.isArrayOf_alike hZ.alike Ar31.2.1) rfl Ar31.2.2 hin31 hat31 (g := (mkF m 16 #[rv a0, rv w_ALL, iv (9 : Int32), iv (7 : Int32), rv w_HOME] [(.int (7 : Int32)), (.ref w_ALL)])) rfl rfl (hb hby d3_16) _ ?_
         show AT p e below T28 m 17 #[rv a0, rv w_ALL, iv (9 : Int32), iv (7 : Int32), rv w_HOME] [(.ref w_CALL)] _
         refine XS.astore X28.here hx rfl (hb hby d3_17) rfl rfl (l' := #[rv a0, rv w_ALL, iv (9 : Int32), iv (7 : Int32), rv w_CALL]) rfl ?_
         show AT p e below T28 m 19 #[rv a0, rv w_ALL, iv (9 : Int32), iv (7 : Int32), rv w_CALL] [] _
         refine XS.aload X28.here hx rfl (hb hby d3_19) rfl rfl ?_
         show AT p e below T28 m 21 #[rv a0, rv w_ALL, iv (9 : Int32), iv (7 : Int32), rv w_CALL] [(.ref w_CALL)] _
         refine st32 _ ?_
         show AT p e below T32 m 24 #[rv a0, rv w_ALL, iv (9 : Int32), iv (7 : Int32), rv w_CALL] [(.ref w_KEYCODE_CALL)] _
         refine XS.aloadN X32.here hx rfl (hb hby d3_24) rfl rfl ?_
         exact kg)
        rcases Decidable.em (w_KEYCODE_CALL = a0) with hc34 | hc34
        ·
         obtain ⟨fs, hr, hrun, hended, hW, hsame⟩ := X32.leave (v := some (.ref w_CALL)) (fun h => by rw [Bd.returns] at h; cases h)
         subst hS0
         refine ⟨_, _, pre33 _ ?_, hrun, hended, _, _, rfl, ?_, ⟨_, rfl⟩, hW, hsame.mono (by decide) (by decide)⟩
         ·
          refine Jvm.RoadKit.acmp (g := (mkF m 25 #[rv a0, rv w_ALL, iv (9 : Int32), iv (7 : Int32), rv w_CALL] [(.ref a0), (.ref w_KEYCODE_CALL)])) X32 hx rfl rfl rfl (pc0 := 25) (pc' := 28) (same := true) rfl (hb hby d3_25) rfl (decide_eq_true (congrArg Value.ref hc34)) (by decide) (by decide) ?_
          show AT p e below T32 m 28 #[rv a0, rv w_ALL, iv (9 : Int32), iv (7 : Int32), rv w_CALL] [] _
          refine XS.aload X32.here hx rfl (hb hby d3_28) rfl rfl ?_
          show AT p e below T32 m 30 #[rv a0, rv w_ALL, iv (9 : Int32), iv (7 : Int32), rv w_CALL] [(.ref w_CALL)] _
          exact retOut X32 hx (t := (.object "com/example/nudge_knob/nudgeknob/Button")) (i := .areturn) Bd.returns rfl (Or.inr (Or.inr (Or.inr (Or.inr ⟨rfl, rfl, rfl⟩)))) (hb hby d3_30) hr
         ·
          show Q3 Z a0 w_KSNU0 w_UP w_ALL w_KSNR1 w_RIGHT w_DOWN w_KSND2 w_LEFT w_KSNL3 w_KDC4 w_CENTER w_KEYCODE_CALL w_CALL w_BACK w_KEYCODE_BACK w_HOME w_KEYCODE_HOME w_KM5 w_MUSIC k_ALL h0 n0 _ T32.heap _
          rw [e32]
          exact ⟨(by rw [f3, if_neg hc6, if_neg hc10, if_neg hc14, if_neg hc18, if_neg hc22, if_neg hc26, if_neg hc30, if_pos hc34]), N0, rfl⟩
        ·
         obtain ⟨cl35, Ar35, q35, S35, N35, H35, G35⟩ := id (V_ALL.ext O0.2)
         have hin35 := own_in (8 : Int32) S35 ⟨by decide, by decide⟩
         have hat35 : cl35.slots[((8 : Int32)).toNatClampNeg]? = some (.ref w_MUSIC) := Has.at H35 hin35 rfl
         obtain ⟨T36, X36, e36, st36⟩ := getF X32 hx hZ hown (host := "") (Or.inl (ow hw 19 rfl)) Via.refl e32 (F_keyCode_MUSIC.ext O0.2) (g := (mkF m 21 #[rv a0, rv w_ALL, iv (9 : Int32), iv (8 : Int32), rv w_MUSIC] [(.ref w_MUSIC)])) rfl rfl (hb hby d3_21)
         have pre37 : ∀ tg, AT p e below T36 m 25 #[rv a0, rv w_ALL, iv (9 : Int32), iv (8 : Int32), rv w_MUSIC] [(.ref a0), (.ref w_KM5)] tg → Steps p.tables e below S0 tg := fun tg kg => pre33 tg (by
          refine Jvm.RoadKit.acmp (g := (mkF m 25 #[rv a0, rv w_ALL, iv (9 : Int32), iv (7 : Int32), rv w_CALL] [(.ref a0), (.ref w_KEYCODE_CALL)])) X32 hx rfl rfl rfl (pc0 := 25) (pc' := 31) (same := false) rfl (hb hby d3_25) rfl (decide_eq_false fun q => hc34 (Value.ref.inj q)) (by decide) (by decide) ?_
          show AT p e below T32 m 31 #[rv a0, rv w_ALL, iv (9 : Int32), iv (7 : Int32), rv w_CALL] [] _
          refine XS.iinc X32.here hx rfl (hb hby d3_31) rfl (l' := #[rv a0, rv w_ALL, iv (9 : Int32), iv (8 : Int32), rv w_CALL]) rfl ?_
          show AT p e below T32 m 34 #[rv a0, rv w_ALL, iv (9 : Int32), iv (8 : Int32), rv w_CALL] [] _
          refine XS.goto X32.here hx rfl (pc0 := 34) (pc' := 9) rfl (hb hby d3_34) (by decide) (by decide) ?_
          show AT p e below T32 m 9 #[rv a0, rv w_ALL, iv (9 : Int32), iv (8 : Int32), rv w_CALL] [] _
          refine XS.iloadN X32.here hx rfl (hb hby d3_9) rfl ?_
          show AT p e below T32 m 10 #[rv a0, rv w_ALL, iv (9 : Int32), iv (8 : Int32), rv w_CALL] [(.int (8 : Int32))] _
          refine XS.iloadN X32.here hx rfl (hb hby d3_10) rfl ?_
          show AT p e below T32 m 11 #[rv a0, rv w_ALL, iv (9 : Int32), iv (8 : Int32), rv w_CALL] [(.int (9 : Int32)), (.int (8 : Int32))] _
          refine XS.icmpNo X32.here hx rfl (hb hby d3_11) rfl (XT.ii_ge_f ((by decide) : (8 : Int32) < (9 : Int32))) ?_
          show AT p e below T32 m 14 #[rv a0, rv w_ALL, iv (9 : Int32), iv (8 : Int32), rv w_CALL] [] _
          refine XS.aloadN X32.here hx rfl (hb hby d3_14) rfl rfl ?_
          show AT p e below T32 m 15 #[rv a0, rv w_ALL, iv (9 : Int32), iv (8 : Int32), rv w_CALL] [(.ref w_ALL)] _
          refine XS.iloadN X32.here hx rfl (hb hby d3_15) rfl ?_
          show AT p e below T32 m 16 #[rv a0, rv w_ALL, iv (9 : Int32), iv (8 : Int32), rv w_CALL] [(.int (8 : Int32)), (.ref w_ALL)] _
          refine X32.aaload hx (j := (8 : Int32)) (v := (.ref w_MUSIC)) (by rw [e32]; exact Ar35.1) (State.isArrayOf_alike hZ.alike Ar35.2.1) rfl Ar35.2.2 hin35 hat35 (g := (mkF m 16 #[rv a0, rv w_ALL, iv (9 : Int32), iv (8 : Int32), rv w_CALL] [(.int (8 : Int32)), (.ref w_ALL)])) rfl rfl (hb hby d3_16) _ ?_
          show AT p e below T32 m 17 #[rv a0, rv w_ALL, iv (9 : Int32), iv (8 : Int32), rv w_CALL] [(.ref w_MUSIC)] _
          refine XS.astore X32.here hx rfl (hb hby d3_17) rfl rfl (l' := #[rv a0, rv w_ALL, iv (9 : Int32), iv (8 : Int32), rv w_MUSIC]) rfl ?_
          show AT p e below T32 m 19 #[rv a0, rv w_ALL, iv (9 : Int32), iv (8 : Int32), rv w_MUSIC] [] _
          refine XS.aload X32.here hx rfl (hb hby d3_19) rfl rfl ?_
          show AT p e below T32 m 21 #[rv a0, rv w_ALL, iv (9 : Int32), iv (8 : Int32), rv w_MUSIC] [(.ref w_MUSIC)] _
          refine st36 _ ?_
          show AT p e below T36 m 24 #[rv a0, rv w_ALL, iv (9 : Int32), iv (8 : Int32), rv w_MUSIC] [(.ref w_KM5)] _
          refine XS.aloadN X36.here hx rfl (hb hby d3_24) rfl rfl ?_
          exact kg)
         rcases Decidable.em (w_KM5 = a0) with hc38 | hc38
         ·
          obtain ⟨fs, hr, hrun, hended, hW, hsame⟩ := X36.leave (v := some (.ref w_MUSIC)) (fun h => by rw [Bd.returns] at h; cases h)
          subst hS0
          refine ⟨_, _, pre37 _ ?_, hrun, hended, _, _, rfl, ?_, ⟨_, rfl⟩, hW, hsame.mono (by decide) (by decide)⟩
          ·
           refine Jvm.RoadKit.acmp (g := (mkF m 25 #[rv a0, rv w_ALL, iv (9 : Int32), iv (8 : Int32), rv w_MUSIC] [(.ref a0), (.ref w_KM5)])) X36 hx rfl rfl rfl (pc0 := 25) (pc' := 28) (same := true) rfl (hb hby d3_25) rfl (decide_eq_true (congrArg Value.ref hc38)) (by decide) (by decide) ?_
           show AT p e below T36 m 28 #[rv a0, rv w_ALL, iv (9 : Int32), iv (8 : Int32), rv w_MUSIC] [] _
           refine XS.aload X36.here hx rfl (hb hby d3_28) rfl rfl ?_
           show AT p e below T36 m 30 #[rv a0, rv w_ALL, iv (9 : Int32), iv (8 : Int32), rv w_MUSIC] [(.ref w_MUSIC)] _
           exact retOut X36 hx (t := (.object "com/example/nudge_knob/nudgeknob/Button")) (i := .areturn) Bd.returns rfl (Or.inr (Or.inr (Or.inr (Or.inr ⟨rfl, rfl, rfl⟩)))) (hb hby d3_30) hr
          ·
           show Q3 Z a0 w_KSNU0 w_UP w_ALL w_KSNR1 w_RIGHT w_DOWN w_KSND2 w_LEFT w_KSNL3 w_KDC4 w_CENTER w_KEYCODE_CALL w_CALL w_BACK w_KEYCODE_BACK w_HOME w_KEYCODE_HOME w_KM5 w_MUSIC k_ALL h0 n0 _ T36.heap _
           rw [e36]
           exact ⟨(by rw [f3, if_neg hc6, if_neg hc10, if_neg hc14, if_neg hc18, if_neg hc22, if_neg hc26, if_neg hc30, if_neg hc34, if_pos hc38]), N0, rfl⟩
         ·
          obtain ⟨fs, hr, hrun, hended, hW, hsame⟩ := X36.leave (v := some .null) (fun h => by rw [Bd.returns] at h; cases h)
          subst hS0
          refine ⟨_, _, pre37 _ ?_, hrun, hended, _, _, rfl, ?_, ⟨_, rfl⟩, hW, hsame.mono (by decide) (by decide)⟩
          ·
           refine Jvm.RoadKit.acmp (g := (mkF m 25 #[rv a0, rv w_ALL, iv (9 : Int32), iv (8 : Int32), rv w_MUSIC] [(.ref a0), (.ref w_KM5)])) X36 hx rfl rfl rfl (pc0 := 25) (pc' := 31) (same := false) rfl (hb hby d3_25) rfl (decide_eq_false fun q => hc38 (Value.ref.inj q)) (by decide) (by decide) ?_
           show AT p e below T36 m 31 #[rv a0, rv w_ALL, iv (9 : Int32), iv (8 : Int32), rv w_MUSIC] [] _
           refine XS.iinc X36.here hx rfl (hb hby d3_31) rfl (l' := #[rv a0, rv w_ALL, iv (9 : Int32), iv (9 : Int32), rv w_MUSIC]) rfl ?_
           show AT p e below T36 m 34 #[rv a0, rv w_ALL, iv (9 : Int32), iv (9 : Int32), rv w_MUSIC] [] _
           refine XS.goto X36.here hx rfl (pc0 := 34) (pc' := 9) rfl (hb hby d3_34) (by decide) (by decide) ?_
           show AT p e below T36 m 9 #[rv a0, rv w_ALL, iv (9 : Int32), iv (9 : Int32), rv w_MUSIC] [] _
           refine XS.iloadN X36.here hx rfl (hb hby d3_9) rfl ?_
           show AT p e below T36 m 10 #[rv a0, rv w_ALL, iv (9 : Int32), iv (9 : Int32), rv w_MUSIC] [(.int (9 : Int32))] _
           refine XS.iloadN X36.here hx rfl (hb hby d3_10) rfl ?_
           show AT p e below T36 m 11 #[rv a0, rv w_ALL, iv (9 : Int32), iv (9 : Int32), rv w_MUSIC] [(.int (9 : Int32)), (.int (9 : Int32))] _
           refine XS.icmpYes X36.here hx rfl (pc0 := 11) (pc' := 37) rfl (hb hby d3_11) rfl (XT.ii_ge_t ((by decide) : ¬ ((9 : Int32) < (9 : Int32)))) (by decide) (by decide) ?_
           show AT p e below T36 m 37 #[rv a0, rv w_ALL, iv (9 : Int32), iv (9 : Int32), rv w_MUSIC] [] _
           refine XS.aconstNull X36.here hx rfl (hb hby d3_37) ?_
           show AT p e below T36 m 38 #[rv a0, rv w_ALL, iv (9 : Int32), iv (9 : Int32), rv w_MUSIC] [.null] _
           exact retOut X36 hx (t := (.object "com/example/nudge_knob/nudgeknob/Button")) (i := .areturn) Bd.returns rfl (Or.inr (Or.inr (Or.inr (Or.inr ⟨rfl, rfl, rfl⟩)))) (hb hby d3_38) hr
          ·
           show Q3 Z a0 w_KSNU0 w_UP w_ALL w_KSNR1 w_RIGHT w_DOWN w_KSND2 w_LEFT w_KSNL3 w_KDC4 w_CENTER w_KEYCODE_CALL w_CALL w_BACK w_KEYCODE_BACK w_HOME w_KEYCODE_HOME w_KM5 w_MUSIC k_ALL h0 n0 _ T36.heap _
           rw [e36]
           exact ⟨(by rw [f3, if_neg hc6, if_neg hc10, if_neg hc14, if_neg hc18, if_neg hc22, if_neg hc26, if_neg hc30, if_neg hc34, if_neg hc38]), N0, rfl⟩

theorem ef_3n (m : MethodId)  : entryFrame m #[.null] 5 = mkF m 0 #[.val .null, un, un, un, un] [] := by first | (simp [entryFrame, mkF, argsToLocals, Value.category]; done) | rfl
def f3n  : Value := .null
def Q3n (Z : State)  (w_KSNU0 : Addr) (w_UP : Addr) (w_ALL : Addr) (w_KSNR1 : Addr) (w_RIGHT : Addr) (w_DOWN : Addr) (w_KSND2 : Addr) (w_LEFT : Addr) (w_KSNL3 : Addr) (w_KDC4 : Addr) (w_CENTER : Addr) (w_KEYCODE_CALL : Addr) (w_CALL : Addr) (w_BACK : Addr) (w_KEYCODE_BACK : Addr) (w_HOME : Addr) (w_KEYCODE_HOME : Addr) (w_KM5 : Addr) (w_MUSIC : Addr) (k_ALL : ClassId) (h0 : Heap) (n0 : Nat) (v : Option Value) (h : Heap) (L : List Loc) : Prop := v = some f3n ∧ Fr n0 L ∧ h = h0
set_option maxRecDepth 65536 in
set_option maxHeartbeats 40000000 in
theorem rm3n (l : Launch) (Z : State) (ar : Array Value) (hw : ∀ d ∈ tables_1, d.before ar Z = true) (ws : List Jvm.Cond)  (w_KSNU0 : Addr) (w_UP : Addr) (w_ALL : Addr) (w_KSNR1 : Addr) (w_RIGHT : Addr) (w_DOWN : Addr) (w_KSND2 : Addr) (w_LEFT : Addr) (w_KSNL3 : Addr) (w_KDC4 : Addr) (w_CENTER : Addr) (w_KEYCODE_CALL : Addr) (w_CALL : Addr) (w_BACK : Addr) (w_KEYCODE_BACK : Addr) (w_HOME : Addr) (w_KEYCODE_HOME : Addr) (w_KM5 : Addr) (w_MUSIC : Addr) (k_ALL : ClassId) (h0 : Heap) (n0 : Nat) (O0 : Old Z n0 h0) (HW : Wd Z w_KSNU0 w_UP w_ALL w_KSNR1 w_RIGHT w_DOWN w_KSND2 w_LEFT w_KSNL3 w_KDC4 w_CENTER w_KEYCODE_CALL w_CALL w_BACK w_KEYCODE_BACK w_HOME w_KEYCODE_HOME w_KM5 w_MUSIC k_ALL) :
    MetFree l y3 (head1 (Jvm.Cond.code y3 prog_8_method_8_code 5 (some (.object "com/example/nudge_knob/nudgeknob/Button")) :: ws) ({ frames := 0, cells := 0, slots := 0, locals := 0 } : Room)) (fun a U => a = #[.null] ∧ Z.Warmed39 U.vm ∧ U.heap = h0) (fun _ _ _ _ _ => True) (fun _ U o U' => ∃ v L, o = .returned v ∧ Q3n Z  w_KSNU0 w_UP w_ALL w_KSNR1 w_RIGHT w_DOWN w_KSND2 w_LEFT w_KSNL3 w_KDC4 w_CENTER w_KEYCODE_CALL w_CALL w_BACK w_KEYCODE_BACK w_HOME w_KEYCODE_HOME w_KM5 w_MUSIC k_ALL h0 n0 v U'.heap L ∧ FrameEnd U o U' L ({ frames := 0, cells := 0, slots := 0, locals := 0 } : Room).cells ({ frames := 0, cells := 0, slots := 0, locals := 0 } : Room).slots) := by
 refine MetFree.of_bodySF (plainFor_of_name pn_1) hisR ?_
 intro p e s m args below meth c s₁ Bd hml0 hP hK
 obtain ⟨rfl, hZ, hh⟩ := hP
 have hx := Bd.exec
 have hby := Bd.bytes
 have hml : c.maxLocals = 5 := hml0
 have hown : s.vm.findClass "com/example/nudge_knob/nudgeknob/Button" = some m.cls := findClass_of_methodNamed Bd.named
 have hnm := (name_of_methodNamed Bd.named Bd.method).1
 have X0 : Stand p l e ({ frames := 0, cells := 0, slots := 0, locals := 0 } : Room) s m #[.null] below meth c s₁ [] 0 0 := Stand.of_body Bd
 have e0 : s₁.heap = h0 := by rw [← hh, Bd.state]; rfl
 have N0 := Fr.nil n0
 have Z0 : n0 ≤ h0.size := Nat.le_trans (Nat.le_of_eq O0.1.symm) O0.2.1
 obtain ⟨S0, hS0⟩ : ∃ z, z = s₁.setTop (entryFrame m #[.null] 5) := ⟨_, rfl⟩
 have pre0 : ∀ tg, AT p e below s₁ m 0 #[.val .null, un, un, un, un] [] tg → Steps p.tables e below S0 tg := fun tg kg => by rw [hS0]; exact castTop (ef_3n m ) kg
 obtain ⟨S_KEYCODE_SYSTEM_NAVIGATION_UP, E_KSNU0, S_UP, E_UP, S_ALL, S_KEYCODE_SYSTEM_NAVIGATION_RIGHT, E_KSNR1, S_RIGHT, E_RIGHT, F_ordinal_KSNU0, F_ordinal_KSNR1, S_DOWN, E_DOWN, S_KEYCODE_SYSTEM_NAVIGATION_DOWN, E_KSND2, F_ordinal_KSND2, S_LEFT, E_LEFT, S_KEYCODE_SYSTEM_NAVIGATION_LEFT, E_KSNL3, F_ordinal_KSNL3, S_KEYCODE_DPAD_CENTER, E_KDC4, S_CENTER, E_CENTER, F_ordinal_KDC4, S_KEYCODE_CALL, E_KEYCODE_CALL, S_CALL, E_CALL, F_ordinal_KEYCODE_CALL, S_BACK, E_BACK, S_KEYCODE_BACK, E_KEYCODE_BACK, F_ordinal_KEYCODE_BACK, S_HOME, E_HOME, S_KEYCODE_HOME, E_KEYCODE_HOME, F_ordinal_KEYCODE_HOME, S_KEYCODE_MUSIC, E_KM5, S_MUSIC, E_MUSIC, F_ordinal_KM5, F_keyCode_UP, F_keyCode_DOWN, F_keyCode_LEFT, F_keyCode_RIGHT, F_keyCode_CENTER, F_keyCode_BACK, F_keyCode_HOME, F_keyCode_CALL, F_keyCode_MUSIC, V_ALL⟩ := id HW
 obtain ⟨T1, X1, e1, st1⟩ := getS2 X0 hx hZ hown (host := "") (Or.inl (ow hw 17 rfl)) Via.refl e0 (S_ALL.ext O0.2) (g := (mkF m 0 #[.val .null, un, un, un, un] [])) rfl (hb hby d3_0)
 obtain ⟨cl2, Ar2, q2, S2, N2, H2, G2⟩ := id (V_ALL.ext O0.2)
 obtain ⟨cl3, Ar3, q3, S3, N3, H3, G3⟩ := id (V_ALL.ext O0.2)
 have hin3 := own_in (0 : Int32) S3 ⟨by decide, by decide⟩
 have hat3 : cl3.slots[((0 : Int32)).toNatClampNeg]? = some (.ref w_UP) := Has.at H3 hin3 rfl
 obtain ⟨T4, X4, e4, st4⟩ := getF X1 hx hZ hown (host := "") (Or.inl (ow hw 19 rfl)) Via.refl e1 (F_keyCode_UP.ext O0.2) (g := (mkF m 21 #[.val .null, rv w_ALL, iv (9 : Int32), iv (0 : Int32), rv w_UP] [(.ref w_UP)])) rfl rfl (hb hby d3_21)
 obtain ⟨cl5, Ar5, q5, S5, N5, H5, G5⟩ := id (V_ALL.ext O0.2)
 have hin5 := own_in (1 : Int32) S5 ⟨by decide, by decide⟩
 have hat5 : cl5.slots[((1 : Int32)).toNatClampNeg]? = some (.ref w_DOWN) := Has.at H5 hin5 rfl
 obtain ⟨T6, X6, e6, st6⟩ := getF X4 hx hZ hown (host := "") (Or.inl (ow hw 19 rfl)) Via.refl e4 (F_keyCode_DOWN.ext O0.2) (g := (mkF m 21 #[.val .null, rv w_ALL, iv (9 : Int32), iv (1 : Int32), rv w_DOWN] [(.ref w_DOWN)])) rfl rfl (hb hby d3_21)
 obtain ⟨cl7, Ar7, q7, S7, N7, H7, G7⟩ := id (V_ALL.ext O0.2)
 have hin7 := own_in (2 : Int32) S7 ⟨by decide, by decide⟩
 have hat7 : cl7.slots[((2 : Int32)).toNatClampNeg]? = some (.ref w_LEFT) := Has.at H7 hin7 rfl
 obtain ⟨T8, X8, e8, st8⟩ := getF X6 hx hZ hown (host := "") (Or.inl (ow hw 19 rfl)) Via.refl e6 (F_keyCode_LEFT.ext O0.2) (g := (mkF m 21 #[.val .null, rv w_ALL, iv (9 : Int32), iv (2 : Int32), rv w_LEFT] [(.ref w_LEFT)])) rfl rfl (hb hby d3_21)
 obtain ⟨cl9, Ar9, q9, S9, N9, H9, G9⟩ := id (V_ALL.ext O0.2)
 have hin9 := own_in (3 : Int32) S9 ⟨by decide, by decide⟩
 have hat9 : cl9.slots[((3 : Int32)).toNatClampNeg]? = some (.ref w_RIGHT) := Has.at H9 hin9 rfl
 obtain ⟨T10, X10, e10, st10⟩ := getF X8 hx hZ hown (host := "") (Or.inl (ow hw 19 rfl)) Via.refl e8 (F_keyCode_RIGHT.ext O0.2) (g := (mkF m 21 #[.val .null, rv w_ALL, iv (9 : Int32), iv (3 : Int32), rv w_RIGHT] [(.ref w_RIGHT)])) rfl rfl (hb hby d3_21)
 obtain ⟨cl11, Ar11, q11, S11, N11, H11, G11⟩ := id (V_ALL.ext O0.2)
 have hin11 := own_in (4 : Int32) S11 ⟨by decide, by decide⟩
 have hat11 : cl11.slots[((4 : Int32)).toNatClampNeg]? = some (.ref w_CENTER) := Has.at H11 hin11 rfl
 obtain ⟨T12, X12, e12, st12⟩ := getF X10 hx hZ hown (host := "") (Or.inl (ow hw 19 rfl)) Via.refl e10 (F_keyCode_CENTER.ext O0.2) (g := (mkF m 21 #[.val .null, rv w_ALL, iv (9 : Int32), iv (4 : Int32), rv w_CENTER] [(.ref w_CENTER)])) rfl rfl (hb hby d3_21)
 obtain ⟨cl13, Ar13, q13, S13, N13, H13, G13⟩ := id (V_ALL.ext O0.2)
 have hin13 := own_in (5 : Int32) S13 ⟨by decide, by decide⟩
 have hat13 : cl13.slots[((5 : Int32)).toNatClampNeg]? = some (.ref w_BACK) := Has.at H13 hin13 rfl
 obtain ⟨T14, X14, e14, st14⟩ := getF X12 hx hZ hown (host := "") (Or.inl (ow hw 19 rfl)) Via.refl e12 (F_keyCode_BACK.ext O0.2) (g := (mkF m 21 #[.val .null, rv w_ALL, iv (9 : Int32), iv (5 : Int32), rv w_BACK] [(.ref w_BACK)])) rfl rfl (hb hby d3_21)
 obtain ⟨cl15, Ar15, q15, S15, N15, H15, G15⟩ := id (V_ALL.ext O0.2)
 have hin15 := own_in (6 : Int32) S15 ⟨by decide, by decide⟩
 have hat15 : cl15.slots[((6 : Int32)).toNatClampNeg]? = some (.ref w_HOME) := Has.at H15 hin15 rfl
 obtain ⟨T16, X16, e16, st16⟩ := getF X14 hx hZ hown (host := "") (Or.inl (ow hw 19 rfl)) Via.refl e14 (F_keyCode_HOME.ext O0.2) (g := (mkF m 21 #[.val .null, rv w_ALL, iv (9 : Int32), iv (6 : Int32), rv w_HOME] [(.ref w_HOME)])) rfl rfl (hb hby d3_21)
 obtain ⟨cl17, Ar17, q17, S17, N17, H17, G17⟩ := id (V_ALL.ext O0.2)
 have hin17 := own_in (7 : Int32) S17 ⟨by decide, by decide⟩
 have hat17 : cl17.slots[((7 : Int32)).toNatClampNeg]? = some (.ref w_CALL) := Has.at H17 hin17 rfl
 obtain ⟨T18, X18, e18, st18⟩ := getF X16 hx hZ hown (host := "") (Or.inl (ow hw 19 rfl)) Via.refl e16 (F_keyCode_CALL.ext O0.2) (g := (mkF m 21 #[.val .null, rv w_ALL, iv (9 : Int32), iv (7 : Int32), rv w_CALL] [(.ref w_CALL)])) rfl rfl (hb hby d3_21)
 obtain ⟨cl19, Ar19, q19, S19, N19, H19, G19⟩ := id (V_ALL.ext O0.2)
 have hin19 := own_in (8 : Int32) S19 ⟨by decide, by decide⟩
 have hat19 : cl19.slots[((8 : Int32)).toNatClampNeg]? = some (.ref w_MUSIC) := Has.at H19 hin19 rfl
 obtain ⟨T20, X20, e20, st20⟩ := getF X18 hx hZ hown (host := "") (Or.inl (ow hw 19 rfl)) Via.refl e18 (F_keyCode_MUSIC.ext O0.2) (g := (mkF m 21 #[.val .null, rv w_ALL, iv (9 : Int32), iv (8 : Int32), rv w_MUSIC] [(.ref w_MUSIC)])) rfl rfl (hb hby d3_21)
 obtain ⟨fs, hr, hrun, hended, hW, hsame⟩ := X20.leave (v := some .null) (fun h => by rw [Bd.returns] at h; cases h)
 subst hS0
 refine ⟨_, _, pre0 _ ?_, hrun, hended, _, _, rfl, ?_, ⟨_, rfl⟩, hW, hsame.mono (by decide) (by decide)⟩
 ·
  refine st1 _ ?_
  show AT p e below T1 m 3 #[.val .null, un, un, un, un] [(.ref w_ALL)] _
  refine XS.astoreN X1.here hx rfl (hb hby d3_3) rfl rfl (l' := #[.val .null, rv w_ALL, un, un, un]) rfl ?_
  show AT p e below T1 m 4 #[.val .null, rv w_ALL, un, un, un] [] _
  refine XS.aloadN X1.here hx rfl (hb hby d3_4) rfl rfl ?_
  show AT p e below T1 m 5 #[.val .null, rv w_ALL, un, un, un] [(.ref w_ALL)] _
  refine X1.arraylength hx (by rw [e1]; exact Ar2.1) (State.isArrayOf_alike hZ.alike Ar2.2.1) (g := (mkF m 5 #[.val .null, rv w_ALL, un, un, un] [(.ref w_ALL)])) rfl rfl (hb hby d3_5) _ ?_
  rw [len_of S2 N2]
  show AT p e below T1 m 6 #[.val .null, rv w_ALL, un, un, un] [(.int (9 : Int32))] _
  refine XS.istoreN X1.here hx rfl (hb hby d3_6) rfl (l' := #[.val .null, rv w_ALL, iv (9 : Int32), un, un]) rfl ?_
  show AT p e below T1 m 7 #[.val .null, rv w_ALL, iv (9 : Int32), un, un] [] _
  refine XS.iconst X1.here hx rfl (hb hby d3_7) ?_
  show AT p e below T1 m 8 #[.val .null, rv w_ALL, iv (9 : Int32), un, un] [(.int (0 : Int32))] _
  refine XS.istoreN X1.here hx rfl (hb hby d3_8) rfl (l' := #[.val .null, rv w_ALL, iv (9 : Int32), iv (0 : Int32), un]) rfl ?_
  show AT p e below T1 m 9 #[.val .null, rv w_ALL, iv (9 : Int32), iv (0 : Int32), un] [] _
  refine XS.iloadN X1.here hx rfl (hb hby d3_9) rfl ?_
  show AT p e below T1 m 10 #[.val .null, rv w_ALL, iv (9 : Int32), iv (0 : Int32), un] [(.int (0 : Int32))] _
  refine XS.iloadN X1.here hx rfl (hb hby d3_10) rfl ?_
  show AT p e below T1 m 11 #[.val .null, rv w_ALL, iv (9 : Int32), iv (0 : Int32), un] [(.int (9 : Int32)), (.int (0 : Int32))] _
  refine XS.icmpNo X1.here hx rfl (hb hby d3_11) rfl (XT.ii_ge_f ((by decide) : (0 : Int32) < (9 : Int32))) ?_
  show AT p e below T1 m 14 #[.val .null, rv w_ALL, iv (9 : Int32), iv (0 : Int32), un] [] _
  refine XS.aloadN X1.here hx rfl (hb hby d3_14) rfl rfl ?_
  show AT p e below T1 m 15 #[.val .null, rv w_ALL, iv (9 : Int32), iv (0 : Int32), un] [(.ref w_ALL)] _
  refine XS.iloadN X1.here hx rfl (hb hby d3_15) rfl ?_
  show AT p e below T1 m 16 #[.val .null, rv w_ALL, iv (9 : Int32), iv (0 : Int32), un] [(.int (0 : Int32)), (.ref w_ALL)] _
  refine X1.aaload hx (j := (0 : Int32)) (v := (.ref w_UP)) (by rw [e1]; exact Ar3.1) (State.isArrayOf_alike hZ.alike Ar3.2.1) rfl Ar3.2.2 hin3 hat3 (g := (mkF m 16 #[.val .null, rv w_ALL, iv (9 : Int32), iv (0 : Int32), un] [(.int (0 : Int32)), (.ref w_ALL)])) rfl rfl (hb hby d3_16) _ ?_
  show AT p e below T1 m 17 #[.val .null, rv w_ALL, iv (9 : Int32), iv (0 : Int32), un] [(.ref w_UP)] _
  refine XS.astore X1.here hx rfl (hb hby d3_17) rfl rfl (l' := #[.val .null, rv w_ALL, iv (9 : Int32), iv (0 : Int32), rv w_UP]) rfl ?_
  show AT p e below T1 m 19 #[.val .null, rv w_ALL, iv (9 : Int32), iv (0 : Int32), rv w_UP] [] _
  refine XS.aload X1.here hx rfl (hb hby d3_19) rfl rfl ?_
  show AT p e below T1 m 21 #[.val .null, rv w_ALL, iv (9 : Int32), iv (0 : Int32), rv w_UP] [(.ref w_UP)] _
  refine st4 _ ?_
  show AT p e below T4 m 24 #[.val .null, rv w_ALL, iv (9 : Int32), iv (0 : Int32), rv w_UP] [(.ref w_KSNU0)] _
  refine XS.aloadN X4.here hx rfl (hb hby d3_24) rfl rfl ?_
  show AT p e below T4 m 25 #[.val .null, rv w_ALL, iv (9 : Int32), iv (0 : Int32), rv w_UP] [.null, (.ref w_KSNU0)] _
  refine Jvm.RoadKit.acmp (g := (mkF m 25 #[.val .null, rv w_ALL, iv (9 : Int32), iv (0 : Int32), rv w_UP] [.null, (.ref w_KSNU0)])) X4 hx rfl rfl rfl (pc0 := 25) (pc' := 31) (same := false) rfl (hb hby d3_25) rfl (decide_eq_false nofun) (by decide) (by decide) ?_
  show AT p e below T4 m 31 #[.val .null, rv w_ALL, iv (9 : Int32), iv (0 : Int32), rv w_UP] [] _
  refine XS.iinc X4.here hx rfl (hb hby d3_31) rfl (l' := #[.val .null, rv w_ALL, iv (9 : Int32), iv (1 : Int32), rv w_UP]) rfl ?_
  show AT p e below T4 m 34 #[.val .null, rv w_ALL, iv (9 : Int32), iv (1 : Int32), rv w_UP] [] _
  refine XS.goto X4.here hx rfl (pc0 := 34) (pc' := 9) rfl (hb hby d3_34) (by decide) (by decide) ?_
  show AT p e below T4 m 9 #[.val .null, rv w_ALL, iv (9 : Int32), iv (1 : Int32), rv w_UP] [] _
  refine XS.iloadN X4.here hx rfl (hb hby d3_9) rfl ?_
  show AT p e below T4 m 10 #[.val .null, rv w_ALL, iv (9 : Int32), iv (1 : Int32), rv w_UP] [(.int (1 : Int32))] _
  refine XS.iloadN X4.here hx rfl (hb hby d3_10) rfl ?_
  show AT p e below T4 m 11 #[.val .null, rv w_ALL, iv (9 : Int32), iv (1 : Int32), rv w_UP] [(.int (9 : Int32)), (.int (1 : Int32))] _
  refine XS.icmpNo X4.here hx rfl (hb hby d3_11) rfl (XT.ii_ge_f ((by decide) : (1 : Int32) < (9 : Int32))) ?_
  show AT p e below T4 m 14 #[.val .null, rv w_ALL, iv (9 : Int32), iv (1 : Int32), rv w_UP] [] _
  refine XS.aloadN X4.here hx rfl (hb hby d3_14) rfl rfl ?_
  show AT p e below T4 m 15 #[.val .null, rv w_ALL, iv (9 : Int32), iv (1 : Int32), rv w_UP] [(.ref w_ALL)] _
  refine XS.iloadN X4.here hx rfl (hb hby d3_15) rfl ?_
  show AT p e below T4 m 16 #[.val .null, rv w_ALL, iv (9 : Int32), iv (1 : Int32), rv w_UP] [(.int (1 : Int32)), (.ref w_ALL)] _
  refine X4.aaload hx (j := (1 : Int32)) (v := (.ref w_DOWN)) (by rw [e4]; exact Ar5.1) (State.isArrayOf_alike hZ.alike Ar5.2.1) rfl Ar5.2.2 hin5 hat5 (g := (mkF m 16 #[.val .null, rv w_ALL, iv (9 : Int32), iv (1 : Int32), rv w_UP] [(.int (1 : Int32)), (.ref w_ALL)])) rfl rfl (hb hby d3_16) _ ?_
  show AT p e below T4 m 17 #[.val .null, rv w_ALL, iv (9 : Int32), iv (1 : Int32), rv w_UP] [(.ref w_DOWN)] _
  refine XS.astore X4.here hx rfl (hb hby d3_17) rfl rfl (l' := #[.val .null, rv w_ALL, iv (9 : Int32), iv (1 : Int32), rv w_DOWN]) rfl ?_
  show AT p e below T4 m 19 #[.val .null, rv w_ALL, iv (9 : Int32), iv (1 : Int32), rv w_DOWN] [] _
  refine XS.aload X4.here hx rfl (hb hby d3_19) rfl rfl ?_
  show AT p e below T4 m 21 #[.val .null, rv w_ALL, iv (9 : Int32), iv (1 : Int32), rv w_DOWN] [(.ref w_DOWN)] _
  refine st6 _ ?_
  show AT p e below T6 m 24 #[.val .null, rv w_ALL, iv (9 : Int32), iv (1 : Int32), rv w_DOWN] [(.ref w_KSND2)] _
  refine XS.aloadN X6.here hx rfl (hb hby d3_24) rfl rfl ?_
  show AT p e below T6 m 25 #[.val .null, rv w_ALL, iv (9 : Int32), iv (1 : Int32), rv w_DOWN] [.null, (.ref w_KSND2)] _
  refine Jvm.RoadKit.acmp (g := (mkF m 25 #[.val .null, rv w_ALL, iv (9 : Int32), iv (1 : Int32), rv w_DOWN] [.null, (.ref w_KSND2)])) X6 hx rfl rfl rfl (pc0 := 25) (pc' := 31) (same := false) rfl (hb hby d3_25) rfl (decide_eq_false nofun) (by decide) (by decide) ?_
  show AT p e below T6 m 31 #[.val .null, rv w_ALL, iv (9 : Int32), iv (1 : Int32), rv w_DOWN] [] _
  refine XS.iinc X6.here hx rfl (hb hby d3_31) rfl (l' := #[.val .null, rv w_ALL, iv (9 : Int32), iv (2 : Int32), rv w_DOWN]) rfl ?_
  show AT p e below T6 m 34 #[.val .null, rv w_ALL, iv (9 : Int32), iv (2 : Int32), rv w_DOWN] [] _
  refine XS.goto X6.here hx rfl (pc0 := 34) (pc' := 9) rfl (hb hby d3_34) (by decide) (by decide) ?_
  show AT p e below T6 m 9 #[.val .null, rv w_ALL, iv (9 : Int32), iv (2 : Int32), rv w_DOWN] [] _
  refine XS.iloadN X6.here hx rfl (hb hby d3_9) rfl ?_
  show AT p e below T6 m 10 #[.val .null, rv w_ALL, iv (9 : Int32), iv (2 : Int32), rv w_DOWN] [(.int (2 : Int32))] _
  refine XS.iloadN X6.here hx rfl (hb hby d3_10) rfl ?_
  show AT p e below T6 m 11 #[.val .null, rv w_ALL, iv (9 : Int32), iv (2 : Int32), rv w_DOWN] [(.int (9 : Int32)), (.int (2 : Int32))] _
  refine XS.icmpNo X6.here hx rfl (hb hby d3_11) rfl (XT.ii_ge_f ((by decide) : (2 : Int32) < (9 : Int32))) ?_
  show AT p e below T6 m 14 #[.val .null, rv w_ALL, iv (9 : Int32), iv (2 : Int32), rv w_DOWN] [] _
  refine XS.aloadN X6.here hx rfl (hb hby d3_14) rfl rfl ?_
  show AT p e below T6 m 15 #[.val .null, rv w_ALL, iv (9 : Int32), iv (2 : Int32), rv w_DOWN] [(.ref w_ALL)] _
  refine XS.iloadN X6.here hx rfl (hb hby d3_15) rfl ?_
  show AT p e below T6 m 16 #[.val .null, rv w_ALL, iv (9 : Int32), iv (2 : Int32), rv w_DOWN] [(.int (2 : Int32)), (.ref w_ALL)] _
  refine X6.aaload hx (j := (2 : Int32)) (v := (.ref w_LEFT)) (by rw [e6]; exact Ar7.1) (State.isArrayOf_alike hZ.alike Ar7.2.1) rfl Ar7.2.2 hin7 hat7 (g := (mkF m 16 #[.val .null, rv w_ALL, iv (9 : Int32), iv (2 : Int32), rv w_DOWN] [(.int (2 : Int32)), (.ref w_ALL)])) rfl rfl (hb hby d3_16) _ ?_
  show AT p e below T6 m 17 #[.val .null, rv w_ALL, iv (9 : Int32), iv (2 : Int32), rv w_DOWN] [(.ref w_LEFT)] _
  refine XS.astore X6.here hx rfl (hb hby d3_17) rfl rfl (l' := #[.val .null, rv w_ALL, iv (9 : Int32), iv (2 : Int32), rv w_LEFT]) rfl ?_
  show AT p e below T6 m 19 #[.val .null, rv w_ALL, iv (9 : Int32), iv (2 : Int32), rv w_LEFT] [] _
  refine XS.aload X6.here hx rfl (hb hby d3_19) rfl rfl ?_
  show AT p e below T6 m 21 #[.val .null, rv w_ALL, iv (9 : Int32), iv (2 : Int32), rv w_LEFT] [(.ref w_LEFT)] _
  refine st8 _ ?_
  show AT p e below T8 m 24 #[.val .null, rv w_ALL, iv (9 : Int32), iv (2 : Int32), rv w_LEFT] [(.ref w_KSNL3)] _
  refine XS.aloadN X8.here hx rfl (hb hby d3_24) rfl rfl ?_
  show AT p e below T8 m 25 #[.val .null, rv w_ALL, iv (9 : Int32), iv (2 : Int32), rv w_LEFT] [.null, (.ref w_KSNL3)] _
  refine Jvm.RoadKit.acmp (g := (mkF m 25 #[.val .null, rv w_ALL, iv (9 : Int32), iv (2 : Int32), rv w_LEFT] [.null, (.ref w_KSNL3)])) X8 hx rfl rfl rfl (pc0 := 25) (pc' := 31) (same := false) rfl (hb hby d3_25) rfl (decide_eq_false nofun) (by decide) (by decide) ?_
  show AT p e below T8 m 31 #[.val .null, rv w_ALL, iv (9 : Int32), iv (2 : Int32), rv w_LEFT] [] _
  refine XS.iinc X8.here hx rfl (hb hby d3_31) rfl (l' := #[.val .null, rv w_ALL, iv (9 : Int32), iv (3 : Int32), rv w_LEFT]) rfl ?_
  show AT p e below T8 m 34 #[.val .null, rv w_ALL, iv (9 : Int32), iv (3 : Int32), rv w_LEFT] [] _
  refine XS.goto X8.here hx rfl (pc0 := 34) (pc' := 9) rfl (hb hby d3_34) (by decide) (by decide) ?_
  show AT p e below T8 m 9 #[.val .null, rv w_ALL, iv (9 : Int32), iv (3 : Int32), rv w_LEFT] [] _
  refine XS.iloadN X8.here hx rfl (hb hby d3_9) rfl ?_
  show AT p e below T8 m 10 #[.val .null, rv w_ALL, iv (9 : Int32), iv (3 : Int32), rv w_LEFT] [(.int (3 : Int32))] _
  refine XS.iloadN X8.here hx rfl (hb hby d3_10) rfl ?_
  show AT p e below T8 m 11 #[.val .null, rv w_ALL, iv (9 : Int32), iv (3 : Int32), rv w_LEFT] [(.int (9 : Int32)), (.int (3 : Int32))] _
  refine XS.icmpNo X8.here hx rfl (hb hby d3_11) rfl (XT.ii_ge_f ((by decide) : (3 : Int32) < (9 : Int32))) ?_
  show AT p e below T8 m 14 #[.val .null, rv w_ALL, iv (9 : Int32), iv (3 : Int32), rv w_LEFT] [] _
  refine XS.aloadN X8.here hx rfl (hb hby d3_14) rfl rfl ?_
  show AT p e below T8 m 15 #[.val .null, rv w_ALL, iv (9 : Int32), iv (3 : Int32), rv w_LEFT] [(.ref w_ALL)] _
  refine XS.iloadN X8.here hx rfl (hb hby d3_15) rfl ?_
  show AT p e below T8 m 16 #[.val .null, rv w_ALL, iv (9 : Int32), iv (3 : Int32), rv w_LEFT] [(.int (3 : Int32)), (.ref w_ALL)] _
  refine X8.aaload hx (j := (3 : Int32)) (v := (.ref w_RIGHT)) (by rw [e8]; exact Ar9.1) (State.isArrayOf_alike hZ.alike Ar9.2.1) rfl Ar9.2.2 hin9 hat9 (g := (mkF m 16 #[.val .null, rv w_ALL, iv (9 : Int32), iv (3 : Int32), rv w_LEFT] [(.int (3 : Int32)), (.ref w_ALL)])) rfl rfl (hb hby d3_16) _ ?_
  show AT p e below T8 m 17 #[.val .null, rv w_ALL, iv (9 : Int32), iv (3 : Int32), rv w_LEFT] [(.ref w_RIGHT)] _
  refine XS.astore X8.here hx rfl (hb hby d3_17) rfl rfl (l' := #[.val .null, rv w_ALL, iv (9 : Int32), iv (3 : Int32), rv w_RIGHT]) rfl ?_
  show AT p e below T8 m 19 #[.val .null, rv w_ALL, iv (9 : Int32), iv (3 : Int32), rv w_RIGHT] [] _
  refine XS.aload X8.here hx rfl (hb hby d3_19) rfl rfl ?_
  show AT p e below T8 m 21 #[.val .null, rv w_ALL, iv (9 : Int32), iv (3 : Int32), rv w_RIGHT] [(.ref w_RIGHT)] _
  refine st10 _ ?_
  show AT p e below T10 m 24 #[.val .null, rv w_ALL, iv (9 : Int32), iv (3 : Int32), rv w_RIGHT] [(.ref w_KSNR1)] _
  refine XS.aloadN X10.here hx rfl (hb hby d3_24) rfl rfl ?_
  show AT p e below T10 m 25 #[.val .null, rv w_ALL, iv (9 : Int32), iv (3 : Int32), rv w_RIGHT] [.null, (.ref w_KSNR1)] _
  refine Jvm.RoadKit.acmp (g := (mkF m 25 #[.val .null, rv w_ALL, iv (9 : Int32), iv (3 : Int32), rv w_RIGHT] [.null, (.ref w_KSNR1)])) X10 hx rfl rfl rfl (pc0 := 25) (pc' := 31) (same := false) rfl (hb hby d3_25) rfl (decide_eq_false nofun) (by decide) (by decide) ?_
  show AT p e below T10 m 31 #[.val .null, rv w_ALL, iv (9 : Int32), iv (3 : Int32), rv w_RIGHT] [] _
  refine XS.iinc X10.here hx rfl (hb hby d3_31) rfl (l' := #[.val .null, rv w_ALL, iv (9 : Int32), iv (4 : Int32), rv w_RIGHT]) rfl ?_
  show AT p e below T10 m 34 #[.val .null, rv w_ALL, iv (9 : Int32), iv (4 : Int32), rv w_RIGHT] [] _
  refine XS.goto X10.here hx rfl (pc0 := 34) (pc' := 9) rfl (hb hby d3_34) (by decide) (by decide) ?_
  show AT p e below T10 m 9 #[.val .null, rv w_ALL, iv (9 : Int32), iv (4 : Int32), rv w_RIGHT] [] _
  refine XS.iloadN X10.here hx rfl (hb hby d3_9) rfl ?_
  show AT p e below T10 m 10 #[.val .null, rv w_ALL, iv (9 : Int32), iv (4 : Int32), rv w_RIGHT] [(.int (4 : Int32))] _
  refine XS.iloadN X10.here hx rfl (hb hby d3_10) rfl ?_
  show AT p e below T10 m 11 #[.val .null, rv w_ALL, iv (9 : Int32), iv (4 : Int32), rv w_RIGHT] [(.int (9 : Int32)), (.int (4 : Int32))] _
  refine XS.icmpNo X10.here hx rfl (hb hby d3_11) rfl (XT.ii_ge_f ((by decide) : (4 : Int32) < (9 : Int32))) ?_
  show AT p e below T10 m 14 #[.val .null, rv w_ALL, iv (9 : Int32), iv (4 : Int32), rv w_RIGHT] [] _
  refine XS.aloadN X10.here hx rfl (hb hby d3_14) rfl rfl ?_
  show AT p e below T10 m 15 #[.val .null, rv w_ALL, iv (9 : Int32), iv (4 : Int32), rv w_RIGHT] [(.ref w_ALL)] _
  refine XS.iloadN X10.here hx rfl (hb hby d3_15) rfl ?_
  show AT p e below T10 m 16 #[.val .null, rv w_ALL, iv (9 : Int32), iv (4 : Int32), rv w_RIGHT] [(.int (4 : Int32)), (.ref w_ALL)] _
  refine X10.aaload hx (j := (4 : Int32)) (v := (.ref w_CENTER)) (by rw [e10]; exact Ar11.1) (State.isArrayOf_alike hZ.alike Ar11.2.1) rfl Ar11.2.2 hin11 hat11 (g := (mkF m 16 #[.val .null, rv w_ALL, iv (9 : Int32), iv (4 : Int32), rv w_RIGHT] [(.int (4 : Int32)), (.ref w_ALL)])) rfl rfl (hb hby d3_16) _ ?_
  show AT p e below T10 m 17 #[.val .null, rv w_ALL, iv (9 : Int32), iv (4 : Int32), rv w_RIGHT] [(.ref w_CENTER)] _
  refine XS.astore X10.here hx rfl (hb hby d3_17) rfl rfl (l' := #[.val .null, rv w_ALL, iv (9 : Int32), iv (4 : Int32), rv w_CENTER]) rfl ?_
  show AT p e below T10 m 19 #[.val .null, rv w_ALL, iv (9 : Int32), iv (4 : Int32), rv w_CENTER] [] _
  refine XS.aload X10.here hx rfl (hb hby d3_19) rfl rfl ?_
  show AT p e below T10 m 21 #[.val .null, rv w_ALL, iv (9 : Int32), iv (4 : Int32), rv w_CENTER] [(.ref w_CENTER)] _
  refine st12 _ ?_
  show AT p e below T12 m 24 #[.val .null, rv w_ALL, iv (9 : Int32), iv (4 : Int32), rv w_CENTER] [(.ref w_KDC4)] _
  refine XS.aloadN X12.here hx rfl (hb hby d3_24) rfl rfl ?_
  show AT p e below T12 m 25 #[.val .null, rv w_ALL, iv (9 : Int32), iv (4 : Int32), rv w_CENTER] [.null, (.ref w_KDC4)] _
  refine Jvm.RoadKit.acmp (g := (mkF m 25 #[.val .null, rv w_ALL, iv (9 : Int32), iv (4 : Int32), rv w_CENTER] [.null, (.ref w_KDC4)])) X12 hx rfl rfl rfl (pc0 := 25) (pc' := 31) (same := false) rfl (hb hby d3_25) rfl (decide_eq_false nofun) (by decide) (by decide) ?_
  show AT p e below T12 m 31 #[.val .null, rv w_ALL, iv (9 : Int32), iv (4 : Int32), rv w_CENTER] [] _
  refine XS.iinc X12.here hx rfl (hb hby d3_31) rfl (l' := #[.val .null, rv w_ALL, iv (9 : Int32), iv (5 : Int32), rv w_CENTER]) rfl ?_
  show AT p e below T12 m 34 #[.val .null, rv w_ALL, iv (9 : Int32), iv (5 : Int32), rv w_CENTER] [] _
  refine XS.goto X12.here hx rfl (pc0 := 34) (pc' := 9) rfl (hb hby d3_34) (by decide) (by decide) ?_
  show AT p e below T12 m 9 #[.val .null, rv w_ALL, iv (9 : Int32), iv (5 : Int32), rv w_CENTER] [] _
  refine XS.iloadN X12.here hx rfl (hb hby d3_9) rfl ?_
  show AT p e below T12 m 10 #[.val .null, rv w_ALL, iv (9 : Int32), iv (5 : Int32), rv w_CENTER] [(.int (5 : Int32))] _
  refine XS.iloadN X12.here hx rfl (hb hby d3_10) rfl ?_
  show AT p e below T12 m 11 #[.val .null, rv w_ALL, iv (9 : Int32), iv (5 : Int32), rv w_CENTER] [(.int (9 : Int32)), (.int (5 : Int32))] _
  refine XS.icmpNo X12.here hx rfl (hb hby d3_11) rfl (XT.ii_ge_f ((by decide) : (5 : Int32) < (9 : Int32))) ?_
  show AT p e below T12 m 14 #[.val .null, rv w_ALL, iv (9 : Int32), iv (5 : Int32), rv w_CENTER] [] _
  refine XS.aloadN X12.here hx rfl (hb hby d3_14) rfl rfl ?_
  show AT p e below T12 m 15 #[.val .null, rv w_ALL, iv (9 : Int32), iv (5 : Int32), rv w_CENTER] [(.ref w_ALL)] _
  refine XS.iloadN X12.here hx rfl (hb hby d3_15) rfl ?_
  show AT p e below T12 m 16 #[.val .null, rv w_ALL, iv (9 : Int32), iv (5 : Int32), rv w_CENTER] [(.int (5 : Int32)), (.ref w_ALL)] _
  refine X12.aaload hx (j := (5 : Int32)) (v := (.ref w_BACK)) (by rw [e12]; exact Ar13.1) (State.isArrayOf_alike hZ.alike Ar13.2.1) rfl Ar13.2.2 hin13 hat13 (g := (mkF m 16 #[.val .null, rv w_ALL, iv (9 : Int32), iv (5 : Int32), rv w_CENTER] [(.int (5 : Int32)), (.ref w_ALL)])) rfl rfl (hb hby d3_16) _ ?_
  show AT p e below T12 m 17 #[.val .null, rv w_ALL, iv (9 : Int32), iv (5 : Int32), rv w_CENTER] [(.ref w_BACK)] _
  refine XS.astore X12.here hx rfl (hb hby d3_17) rfl rfl (l' := #[.val .null, rv w_ALL, iv (9 : Int32), iv (5 : Int32), rv w_BACK]) rfl ?_
  show AT p e below T12 m 19 #[.val .null, rv w_ALL, iv (9 : Int32), iv (5 : Int32), rv w_BACK] [] _
  refine XS.aload X12.here hx rfl (hb hby d3_19) rfl rfl ?_
  show AT p e below T12 m 21 #[.val .null, rv w_ALL, iv (9 : Int32), iv (5 : Int32), rv w_BACK] [(.ref w_BACK)] _
  refine st14 _ ?_
  show AT p e below T14 m 24 #[.val .null, rv w_ALL, iv (9 : Int32), iv (5 : Int32), rv w_BACK] [(.ref w_KEYCODE_BACK)] _
  refine XS.aloadN X14.here hx rfl (hb hby d3_24) rfl rfl ?_
  show AT p e below T14 m 25 #[.val .null, rv w_ALL, iv (9 : Int32), iv (5 : Int32), rv w_BACK] [.null, (.ref w_KEYCODE_BACK)] _
  refine Jvm.RoadKit.acmp (g := (mkF m 25 #[.val .null, rv w_ALL, iv (9 : Int32), iv (5 : Int32), rv w_BACK] [.null, (.ref w_KEYCODE_BACK)])) X14 hx rfl rfl rfl (pc0 := 25) (pc' := 31) (same := false) rfl (hb hby d3_25) rfl (decide_eq_false nofun) (by decide) (by decide) ?_
  show AT p e below T14 m 31 #[.val .null, rv w_ALL, iv (9 : Int32), iv (5 : Int32), rv w_BACK] [] _
  refine XS.iinc X14.here hx rfl (hb hby d3_31) rfl (l' := #[.val .null, rv w_ALL, iv (9 : Int32), iv (6 : Int32), rv w_BACK]) rfl ?_
  show AT p e below T14 m 34 #[.val .null, rv w_ALL, iv (9 : Int32), iv (6 : Int32), rv w_BACK] [] _
  refine XS.goto X14.here hx rfl (pc0 := 34) (pc' := 9) rfl (hb hby d3_34) (by decide) (by decide) ?_
  show AT p e below T14 m 9 #[.val .null, rv w_ALL, iv (9 : Int32), iv (6 : Int32), rv w_BACK] [] _
  refine XS.iloadN X14.here hx rfl (hb hby d3_9) rfl ?_
  show AT p e below T14 m 10 #[.val .null, rv w_ALL, iv (9 : Int32), iv (6 : Int32), rv w_BACK] [(.int (6 : Int32))] _
  refine XS.iloadN X14.here hx rfl (hb hby d3_10) rfl ?_
  show AT p e below T14 m 11 #[.val .null, rv w_ALL, iv (9 : Int32), iv (6 : Int32), rv w_BACK] [(.int (9 : Int32)), (.int (6 : Int32))] _
  refine XS.icmpNo X14.here hx rfl (hb hby d3_11) rfl (XT.ii_ge_f ((by decide) : (6 : Int32) < (9 : Int32))) ?_
  show AT p e below T14 m 14 #[.val .null, rv w_ALL, iv (9 : Int32), iv (6 : Int32), rv w_BACK] [] _
  refine XS.aloadN X14.here hx rfl (hb hby d3_14) rfl rfl ?_
  show AT p e below T14 m 15 #[.val .null, rv w_ALL, iv (9 : Int32), iv (6 : Int32), rv w_BACK] [(.ref w_ALL)] _
  refine XS.iloadN X14.here hx rfl (hb hby d3_15) rfl ?_
  show AT p e below T14 m 16 #[.val .null, rv w_ALL, iv (9 : Int32), iv (6 : Int32), rv w_BACK] [(.int (6 : Int32)), (.ref w_ALL)] _
  refine X14.aaload hx (j := (6 : Int32)) (v := (.ref w_HOME)) (by rw [e14]; exact Ar15.1) (State.isArrayOf_alike hZ.alike Ar15.2.1) rfl Ar15.2.2 hin15 hat15 (g := (mkF m 16 #[.val .null, rv w_ALL, iv (9 : Int32), iv (6 : Int32), rv w_BACK] [(.int (6 : Int32)), (.ref w_ALL)])) rfl rfl (hb hby d3_16) _ ?_
  show AT p e below T14 m 17 #[.val .null, rv w_ALL, iv (9 : Int32), iv (6 : Int32), rv w_BACK] [(.ref w_HOME)] _
  refine XS.astore X14.here hx rfl (hb hby d3_17) rfl rfl (l' := #[.val .null, rv w_ALL, iv (9 : Int32), iv (6 : Int32), rv w_HOME]) rfl ?_
  show AT p e below T14 m 19 #[.val .null, rv w_ALL, iv (9 : Int32), iv (6 : Int32), rv w_HOME] [] _
  refine XS.aload X14.here hx rfl (hb hby d3_19) rfl rfl ?_
  show AT p e below T14 m 21 #[.val .null, rv w_ALL, iv (9 : Int32), iv (6 : Int32), rv w_HOME] [(.ref w_HOME)] _
  refine st16 _ ?_
  show AT p e below T16 m 24 #[.val .null, rv w_ALL, iv (9 : Int32), iv (6 : Int32), rv w_HOME] [(.ref w_KEYCODE_HOME)] _
  refine XS.aloadN X16.here hx rfl (hb hby d3_24) rfl rfl ?_
  show AT p e below T16 m 25 #[.val .null, rv w_ALL, iv (9 : Int32), iv (6 : Int32), rv w_HOME] [.null, (.ref w_KEYCODE_HOME)] _
  refine Jvm.RoadKit.acmp (g := (mkF m 25 #[.val .null, rv w_ALL, iv (9 : Int32), iv (6 : Int32), rv w_HOME] [.null, (.ref w_KEYCODE_HOME)])) X16 hx rfl rfl rfl (pc0 := 25) (pc' := 31) (same := false) rfl (hb hby d3_25) rfl (decide_eq_false nofun) (by decide) (by decide) ?_
  show AT p e below T16 m 31 #[.val .null, rv w_ALL, iv (9 : Int32), iv (6 : Int32), rv w_HOME] [] _
  refine XS.iinc X16.here hx rfl (hb hby d3_31) rfl (l' := #[.val .null, rv w_ALL, iv (9 : Int32), iv (7 : Int32), rv w_HOME]) rfl ?_
  show AT p e below T16 m 34 #[.val .null, rv w_ALL, iv (9 : Int32), iv (7 : Int32), rv w_HOME] [] _
  refine XS.goto X16.here hx rfl (pc0 := 34) (pc' := 9) rfl (hb hby d3_34) (by decide) (by decide) ?_
  show AT p e below T16 m 9 #[.val .null, rv w_ALL, iv (9 : Int32), iv (7 : Int32), rv w_HOME] [] _
  refine XS.iloadN X16.here hx rfl (hb hby d3_9) rfl ?_
  show AT p e below T16 m 10 #[.val .null, rv w_ALL, iv (9 : Int32), iv (7 : Int32), rv w_HOME] [(.int (7 : Int32))] _
  refine XS.iloadN X16.here hx rfl (hb hby d3_10) rfl ?_
  show AT p e below T16 m 11 #[.val .null, rv w_ALL, iv (9 : Int32), iv (7 : Int32), rv w_HOME] [(.int (9 : Int32)), (.int (7 : Int32))] _
  refine XS.icmpNo X16.here hx rfl (hb hby d3_11) rfl (XT.ii_ge_f ((by decide) : (7 : Int32) < (9 : Int32))) ?_
  show AT p e below T16 m 14 #[.val .null, rv w_ALL, iv (9 : Int32), iv (7 : Int32), rv w_HOME] [] _
  refine XS.aloadN X16.here hx rfl (hb hby d3_14) rfl rfl ?_
  show AT p e below T16 m 15 #[.val .null, rv w_ALL, iv (9 : Int32), iv (7 : Int32), rv w_HOME] [(.ref w_ALL)] _
  refine XS.iloadN X16.here hx rfl (hb hby d3_15) rfl ?_
  show AT p e below T16 m 16 #[.val .null, rv w_ALL, iv (9 : Int32), iv (7 : Int32), rv w_HOME] [(.int (7 : Int32)), (.ref w_ALL)] _
  refine X16.aaload hx (j := (7 : Int32)) (v := (.ref w_CALL)) (by rw [e16]; exact Ar17.1) (State.isArrayOf_alike hZ.alike Ar17.2.1) rfl Ar17.2.2 hin17 hat17 (g := (mkF m 16 #[.val .null, rv w_ALL, iv (9 : Int32), iv (7 : Int32), rv w_HOME] [(.int (7 : Int32)), (.ref w_ALL)])) rfl rfl (hb hby d3_16) _ ?_
  show AT p e below T16 m 17 #[.val .null, rv w_ALL, iv (9 : Int32), iv (7 : Int32), rv w_HOME] [(.ref w_CALL)] _
  refine XS.astore X16.here hx rfl (hb hby d3_17) rfl rfl (l' := #[.val .null, rv w_ALL, iv (9 : Int32), iv (7 : Int32), rv w_CALL]) rfl ?_
  show AT p e below T16 m 19 #[.val .null, rv w_ALL, iv (9 : Int32), iv (7 : Int32), rv w_CALL] [] _
  refine XS.aload X16.here hx rfl (hb hby d3_19) rfl rfl ?_
  show AT p e below T16 m 21 #[.val .null, rv w_ALL, iv (9 : Int32), iv (7 : Int32), rv w_CALL] [(.ref w_CALL)] _
  refine st18 _ ?_
  show AT p e below T18 m 24 #[.val .null, rv w_ALL, iv (9 : Int32), iv (7 : Int32), rv w_CALL] [(.ref w_KEYCODE_CALL)] _
  refine XS.aloadN X18.here hx rfl (hb hby d3_24) rfl rfl ?_
  show AT p e below T18 m 25 #[.val .null, rv w_ALL, iv (9 : Int32), iv (7 : Int32), rv w_CALL] [.null, (.ref w_KEYCODE_CALL)] _
  refine Jvm.RoadKit.acmp (g := (mkF m 25 #[.val .null, rv w_ALL, iv (9 : Int32), iv (7 : Int32), rv w_CALL] [.null, (.ref w_KEYCODE_CALL)])) X18 hx rfl rfl rfl (pc0 := 25) (pc' := 31) (same := false) rfl (hb hby d3_25) rfl (decide_eq_false nofun) (by decide) (by decide) ?_
  show AT p e below T18 m 31 #[.val .null, rv w_ALL, iv (9 : Int32), iv (7 : Int32), rv w_CALL] [] _
  refine XS.iinc X18.here hx rfl (hb hby d3_31) rfl (l' := #[.val .null, rv w_ALL, iv (9 : Int32), iv (8 : Int32), rv w_CALL]) rfl ?_
  show AT p e below T18 m 34 #[.val .null, rv w_ALL, iv (9 : Int32), iv (8 : Int32), rv w_CALL] [] _
  refine XS.goto X18.here hx rfl (pc0 := 34) (pc' := 9) rfl (hb hby d3_34) (by decide) (by decide) ?_
  show AT p e below T18 m 9 #[.val .null, rv w_ALL, iv (9 : Int32), iv (8 : Int32), rv w_CALL] [] _
  refine XS.iloadN X18.here hx rfl (hb hby d3_9) rfl ?_
  show AT p e below T18 m 10 #[.val .null, rv w_ALL, iv (9 : Int32), iv (8 : Int32), rv w_CALL] [(.int (8 : Int32))] _
  refine XS.iloadN X18.here hx rfl (hb hby d3_10) rfl ?_
  show AT p e below T18 m 11 #[.val .null, rv w_ALL, iv (9 : Int32), iv (8 : Int32), rv w_CALL] [(.int (9 : Int32)), (.int (8 : Int32))] _
  refine XS.icmpNo X18.here hx rfl (hb hby d3_11) rfl (XT.ii_ge_f ((by decide) : (8 : Int32) < (9 : Int32))) ?_
  show AT p e below T18 m 14 #[.val .null, rv w_ALL, iv (9 : Int32), iv (8 : Int32), rv w_CALL] [] _
  refine XS.aloadN X18.here hx rfl (hb hby d3_14) rfl rfl ?_
  show AT p e below T18 m 15 #[.val .null, rv w_ALL, iv (9 : Int32), iv (8 : Int32), rv w_CALL] [(.ref w_ALL)] _
  refine XS.iloadN X18.here hx rfl (hb hby d3_15) rfl ?_
  show AT p e below T18 m 16 #[.val .null, rv w_ALL, iv (9 : Int32), iv (8 : Int32), rv w_CALL] [(.int (8 : Int32)), (.ref w_ALL)] _
  refine X18.aaload hx (j := (8 : Int32)) (v := (.ref w_MUSIC)) (by rw [e18]; exact Ar19.1) (State.isArrayOf_alike hZ.alike Ar19.2.1) rfl Ar19.2.2 hin19 hat19 (g := (mkF m 16 #[.val .null, rv w_ALL, iv (9 : Int32), iv (8 : Int32), rv w_CALL] [(.int (8 : Int32)), (.ref w_ALL)])) rfl rfl (hb hby d3_16) _ ?_
  show AT p e below T18 m 17 #[.val .null, rv w_ALL, iv (9 : Int32), iv (8 : Int32), rv w_CALL] [(.ref w_MUSIC)] _
  refine XS.astore X18.here hx rfl (hb hby d3_17) rfl rfl (l' := #[.val .null, rv w_ALL, iv (9 : Int32), iv (8 : Int32), rv w_MUSIC]) rfl ?_
  show AT p e below T18 m 19 #[.val .null, rv w_ALL, iv (9 : Int32), iv (8 : Int32), rv w_MUSIC] [] _
  refine XS.aload X18.here hx rfl (hb hby d3_19) rfl rfl ?_
  show AT p e below T18 m 21 #[.val .null, rv w_ALL, iv (9 : Int32), iv (8 : Int32), rv w_MUSIC] [(.ref w_MUSIC)] _
  refine st20 _ ?_
  show AT p e below T20 m 24 #[.val .null, rv w_ALL, iv (9 : Int32), iv (8 : Int32), rv w_MUSIC] [(.ref w_KM5)] _
  refine XS.aloadN X20.here hx rfl (hb hby d3_24) rfl rfl ?_
  show AT p e below T20 m 25 #[.val .null, rv w_ALL, iv (9 : Int32), iv (8 : Int32), rv w_MUSIC] [.null, (.ref w_KM5)] _
  refine Jvm.RoadKit.acmp (g := (mkF m 25 #[.val .null, rv w_ALL, iv (9 : Int32), iv (8 : Int32), rv w_MUSIC] [.null, (.ref w_KM5)])) X20 hx rfl rfl rfl (pc0 := 25) (pc' := 31) (same := false) rfl (hb hby d3_25) rfl (decide_eq_false nofun) (by decide) (by decide) ?_
  show AT p e below T20 m 31 #[.val .null, rv w_ALL, iv (9 : Int32), iv (8 : Int32), rv w_MUSIC] [] _
  refine XS.iinc X20.here hx rfl (hb hby d3_31) rfl (l' := #[.val .null, rv w_ALL, iv (9 : Int32), iv (9 : Int32), rv w_MUSIC]) rfl ?_
  show AT p e below T20 m 34 #[.val .null, rv w_ALL, iv (9 : Int32), iv (9 : Int32), rv w_MUSIC] [] _
  refine XS.goto X20.here hx rfl (pc0 := 34) (pc' := 9) rfl (hb hby d3_34) (by decide) (by decide) ?_
  show AT p e below T20 m 9 #[.val .null, rv w_ALL, iv (9 : Int32), iv (9 : Int32), rv w_MUSIC] [] _
  refine XS.iloadN X20.here hx rfl (hb hby d3_9) rfl ?_
  show AT p e below T20 m 10 #[.val .null, rv w_ALL, iv (9 : Int32), iv (9 : Int32), rv w_MUSIC] [(.int (9 : Int32))] _
  refine XS.iloadN X20.here hx rfl (hb hby d3_10) rfl ?_
  show AT p e below T20 m 11 #[.val .null, rv w_ALL, iv (9 : Int32), iv (9 : Int32), rv w_MUSIC] [(.int (9 : Int32)), (.int (9 : Int32))] _
  refine XS.icmpYes X20.here hx rfl (pc0 := 11) (pc' := 37) rfl (hb hby d3_11) rfl (XT.ii_ge_t ((by decide) : ¬ ((9 : Int32) < (9 : Int32)))) (by decide) (by decide) ?_
  show AT p e below T20 m 37 #[.val .null, rv w_ALL, iv (9 : Int32), iv (9 : Int32), rv w_MUSIC] [] _
  refine XS.aconstNull X20.here hx rfl (hb hby d3_37) ?_
  show AT p e below T20 m 38 #[.val .null, rv w_ALL, iv (9 : Int32), iv (9 : Int32), rv w_MUSIC] [.null] _
  exact retOut X20 hx (t := (.object "com/example/nudge_knob/nudgeknob/Button")) (i := .areturn) Bd.returns rfl (Or.inr (Or.inr (Or.inr (Or.inr ⟨rfl, rfl, rfl⟩)))) (hb hby d3_38) hr
 ·
  show Q3n Z  w_KSNU0 w_UP w_ALL w_KSNR1 w_RIGHT w_DOWN w_KSND2 w_LEFT w_KSNL3 w_KDC4 w_CENTER w_KEYCODE_CALL w_CALL w_BACK w_KEYCODE_BACK w_HOME w_KEYCODE_HOME w_KM5 w_MUSIC k_ALL h0 n0 _ T20.heap _
  rw [e20]
  exact ⟨rfl, N0, rfl⟩

theorem ef_0 (m : MethodId) (p0 : Int32) : entryFrame m #[(.int p0)] maxLocals = mkF m 0 #[iv p0, un, un, un, un] [] := by first | (simp [entryFrame, mkF, argsToLocals, Value.category, maxLocals]; done) | rfl
def Q0 (Z : State) (p0 : Int32) (w_KSNU0 : Addr) (w_UP : Addr) (w_ALL : Addr) (w_KSNR1 : Addr) (w_RIGHT : Addr) (w_DOWN : Addr) (w_KSND2 : Addr) (w_LEFT : Addr) (w_KSNL3 : Addr) (w_KDC4 : Addr) (w_CENTER : Addr) (w_KEYCODE_CALL : Addr) (w_CALL : Addr) (w_BACK : Addr) (w_KEYCODE_BACK : Addr) (w_HOME : Addr) (w_KEYCODE_HOME : Addr) (w_KM5 : Addr) (w_MUSIC : Addr) (k_ALL : ClassId) (h0 : Heap) (n0 : Nat) (v : Option Value) (h : Heap) (L : List Loc) : Prop := v = some (.int 1) ∧ Fr n0 L
set_option maxRecDepth 65536 in
set_option maxHeartbeats 40000000 in
theorem rm0 (l : Launch) (Z : State) (ar : Array Value) (hw : ∀ d ∈ tables_1, d.before ar Z = true) (ws : List Jvm.Cond) (p0 : Int32) (w_KSNU0 : Addr) (w_UP : Addr) (w_ALL : Addr) (w_KSNR1 : Addr) (w_RIGHT : Addr) (w_DOWN : Addr) (w_KSND2 : Addr) (w_LEFT : Addr) (w_KSNL3 : Addr) (w_KDC4 : Addr) (w_CENTER : Addr) (w_KEYCODE_CALL : Addr) (w_CALL : Addr) (w_BACK : Addr) (w_KEYCODE_BACK : Addr) (w_HOME : Addr) (w_KEYCODE_HOME : Addr) (w_KM5 : Addr) (w_MUSIC : Addr) (k_ALL : ClassId) (h0 : Heap) (n0 : Nat) (O0 : Old Z n0 h0) (HW : Wd Z w_KSNU0 w_UP w_ALL w_KSNR1 w_RIGHT w_DOWN w_KSND2 w_LEFT w_KSNL3 w_KDC4 w_CENTER w_KEYCODE_CALL w_CALL w_BACK w_KEYCODE_BACK w_HOME w_KEYCODE_HOME w_KM5 w_MUSIC k_ALL) :
    MetFree l x (head1 (Jvm.Cond.code x code maxLocals ret :: ws) room_1) (fun a U => a = #[(.int p0)] ∧ Z.Warmed39 U.vm ∧ U.heap = h0) (fun _ _ _ _ _ => True) (fun _ U o U' => ∃ v L, o = .returned v ∧ Q0 Z p0 w_KSNU0 w_UP w_ALL w_KSNR1 w_RIGHT w_DOWN w_KSND2 w_LEFT w_KSNL3 w_KDC4 w_CENTER w_KEYCODE_CALL w_CALL w_BACK w_KEYCODE_BACK w_HOME w_KEYCODE_HOME w_KM5 w_MUSIC k_ALL h0 n0 v U'.heap L ∧ FrameEnd U o U' L 0 0) := by
 refine MetFree.of_bodySF (plainFor_of_name pn_0) hisR ?_
 intro p e s m args below meth c s₁ Bd hml0 hP hK
 obtain ⟨rfl, hZ, hh⟩ := hP
 have hx := Bd.exec
 have hby := Bd.bytes
 have hml : c.maxLocals = 5 := hml0
 have hown : s.vm.findClass "com/example/nudge_knob/nudgeknob/ButtonOfKeyCodePinLaw" = some m.cls := findClass_of_methodNamed Bd.named
 have hnm := (name_of_methodNamed Bd.named Bd.method).1
 have X0 : Stand p l e room_1 s m #[(.int p0)] below meth c s₁ [] 0 0 := Stand.of_body Bd
 have e0 : s₁.heap = h0 := by rw [← hh, Bd.state]; rfl
 have N0 := Fr.nil n0
 have Z0 : n0 ≤ h0.size := Nat.le_trans (Nat.le_of_eq O0.1.symm) O0.2.1
 obtain ⟨S0, hS0⟩ : ∃ z, z = s₁.setTop (entryFrame m #[(.int p0)] maxLocals) := ⟨_, rfl⟩
 have pre0 : ∀ tg, AT p e below s₁ m 0 #[iv p0, un, un, un, un] [] tg → Steps p.tables e below S0 tg := fun tg kg => by rw [hS0]; exact castTop (ef_0 m p0) kg
 obtain ⟨S_KEYCODE_SYSTEM_NAVIGATION_UP, E_KSNU0, S_UP, E_UP, S_ALL, S_KEYCODE_SYSTEM_NAVIGATION_RIGHT, E_KSNR1, S_RIGHT, E_RIGHT, F_ordinal_KSNU0, F_ordinal_KSNR1, S_DOWN, E_DOWN, S_KEYCODE_SYSTEM_NAVIGATION_DOWN, E_KSND2, F_ordinal_KSND2, S_LEFT, E_LEFT, S_KEYCODE_SYSTEM_NAVIGATION_LEFT, E_KSNL3, F_ordinal_KSNL3, S_KEYCODE_DPAD_CENTER, E_KDC4, S_CENTER, E_CENTER, F_ordinal_KDC4, S_KEYCODE_CALL, E_KEYCODE_CALL, S_CALL, E_CALL, F_ordinal_KEYCODE_CALL, S_BACK, E_BACK, S_KEYCODE_BACK, E_KEYCODE_BACK, F_ordinal_KEYCODE_BACK, S_HOME, E_HOME, S_KEYCODE_HOME, E_KEYCODE_HOME, F_ordinal_KEYCODE_HOME, S_KEYCODE_MUSIC, E_KM5, S_MUSIC, E_MUSIC, F_ordinal_KM5, F_keyCode_UP, F_keyCode_DOWN, F_keyCode_LEFT, F_keyCode_RIGHT, F_keyCode_CENTER, F_keyCode_BACK, F_keyCode_HOME, F_keyCode_CALL, F_keyCode_MUSIC, V_ALL⟩ := id HW
 have pre1 : ∀ tg, AT p e below s₁ m 8 #[iv p0, iv ((p0 &&& (2147483647 : Int32)) % (10 : Int32)), un, un, un] [] tg → Steps p.tables e below S0 tg := fun tg kg => pre0 tg (by
  refine XS.iloadN X0.here hx rfl (hb hby at_0) rfl ?_
  show AT p e below s₁ m 1 #[iv p0, un, un, un, un] [(.int p0)] _
  refine X0.ldcInt hx hown (mvT hZ (ow hw 0 rfl)) (g := (mkF m 1 #[iv p0, un, un, un, un] [(.int p0)])) rfl (hb hby at_1) _ ?_
  show AT p e below s₁ m 3 #[iv p0, un, un, un, un] [(.int (2147483647 : Int32)), (.int p0)] _
  refine XS.iand X0.here hx rfl (hb hby at_3) rfl ?_
  show AT p e below s₁ m 4 #[iv p0, un, un, un, un] [(.int (p0 &&& (2147483647 : Int32)))] _
  refine XS.bipush X0.here hx rfl (hb hby at_4) ?_
  show AT p e below s₁ m 6 #[iv p0, un, un, un, un] [(.int (10 : Int32)), (.int (p0 &&& (2147483647 : Int32)))] _
  refine iremM X0 hx rfl (hb hby at_6) rfl (by decide) ?_
  show AT p e below s₁ m 7 #[iv p0, un, un, un, un] [(.int ((p0 &&& (2147483647 : Int32)) % (10 : Int32)))] _
  refine XS.istoreN X0.here hx rfl (hb hby at_7) rfl (l' := #[iv p0, iv ((p0 &&& (2147483647 : Int32)) % (10 : Int32)), un, un, un]) rfl ?_
  exact kg)
 obtain ⟨k, hk⟩ : ∃ z, z = ((p0 &&& (2147483647 : Int32)) % (10 : Int32)) := ⟨_, rfl⟩
 have pre2 : ∀ tg, AT p e below s₁ m 8 #[iv p0, iv k, un, un, un] [] tg → Steps p.tables e below S0 tg := by rw [hk]; exact pre1
 have hsk : k = (0 : Int32) ∨ k = (1 : Int32) ∨ k = (2 : Int32) ∨ k = (3 : Int32) ∨ k = (4 : Int32) ∨ k = (5 : Int32) ∨ k = (6 : Int32) ∨ k = (7 : Int32) ∨ k = (8 : Int32) ∨ k = (9 : Int32) := by rw [hk]; exact own_k p0
 rcases hsk with rfl | rfl | rfl | rfl | rfl | rfl | rfl | rfl | rfl | rfl
 ·
  obtain ⟨_, _, ⟨T3, L3, k3, n3⟩, -, X3, ⟨Lc3, hQ3, l3, y3, z3⟩, st3⟩ := Jvm.LawKit.callS X0 hx (y := y1) hown (mvT hZ (ow hw 1 rfl)) (mvT hZ (ow hw 2 rfl)) (mvT hZ (ow hw 3 rfl)) (mvT hZ (ow hw 4 rfl)) (by decide) (backOf (W := 0) (rm1 l Z ar hw [] (0 : Int32) w_KSNU0 w_UP w_ALL w_KSNR1 w_RIGHT w_DOWN w_KSND2 w_LEFT w_KSNL3 w_KDC4 w_CENTER w_KEYCODE_CALL w_CALL w_BACK w_KEYCODE_BACK w_HOME w_KEYCODE_HOME w_KM5 w_MUSIC k_ALL h0 n0 O0 HW) hZ (ow hw 4 rfl) (ow hw 3 rfl) (by decide) (by decide)) (g := (mkF m 9 #[iv p0, iv (0 : Int32), un, un, un] [(.int (0 : Int32))])) rfl (by rw [hml]; rfl) (argsL := [(.int (0 : Int32))]) (rest := []) (lenOf pd_0 rfl) rfl (by show 2 * 0 + _ ≤ _; exact Nat.le_of_eq rfl) (hb hby at_9) (fun _ _ => ⟨rfl, e0, (by decide : 0 + 0 ≤ _), (by decide : 0 + 0 ≤ _)⟩)
  dsimp only [Pt.U, Pt.locs, Pt.cells, Pt.slots] at X3 l3 y3 z3 st3 hQ3
  subst l3 y3 z3
  obtain ⟨rfl, N3q, e3⟩ := hQ3
  have N3 := Fr.app N0 N3q
  have r3 : (f1 (0 : Int32) w_KSNU0 w_KSNR1 w_KSND2 w_KSNL3 w_KDC4 w_KEYCODE_CALL w_KEYCODE_BACK w_KEYCODE_HOME w_KM5) = (.ref w_KSNU0) := by rw [f1, if_pos ((by decide) : (0 : Int32) = (0 : Int32))] <;> decide
  rw [r3] at st3
  obtain ⟨_, _, ⟨T4, L4, k4, n4⟩, -, X4, ⟨Lc4, hQ4, l4, y4, z4⟩, st4⟩ := Jvm.LawKit.callS X3 hx (y := y2) hown (mvT hZ (ow hw 8 rfl)) (mvT hZ (ow hw 9 rfl)) (mvT hZ (ow hw 3 rfl)) (mvT hZ (ow hw 10 rfl)) (by decide) (backOf (W := 0) (rm2 l Z ar hw [] (0 : Int32) w_KSNU0 w_UP w_ALL w_KSNR1 w_RIGHT w_DOWN w_KSND2 w_LEFT w_KSNL3 w_KDC4 w_CENTER w_KEYCODE_CALL w_CALL w_BACK w_KEYCODE_BACK w_HOME w_KEYCODE_HOME w_KM5 w_MUSIC k_ALL h0 n0 O0 HW) hZ (ow hw 10 rfl) (ow hw 3 rfl) (by decide) (by decide)) (g := (mkF m 14 #[iv p0, iv (0 : Int32), rv w_KSNU0, un, un] [(.int (0 : Int32))])) rfl (by rw [hml]; rfl) (argsL := [(.int (0 : Int32))]) (rest := []) (lenOf pd_1 rfl) rfl (by show 2 * 0 + _ ≤ _; exact Nat.le_of_eq rfl) (hb hby at_14) (fun _ _ => ⟨rfl, e3, (by decide : 0 + 0 ≤ _), (by decide : 0 + 0 ≤ _)⟩)
  dsimp only [Pt.U, Pt.locs, Pt.cells, Pt.slots] at X4 l4 y4 z4 st4 hQ4
  subst l4 y4 z4
  obtain ⟨rfl, N4q, e4⟩ := hQ4
  have N4 := Fr.app N3 N4q
  have r4 : (f2 (0 : Int32) w_UP w_RIGHT w_DOWN w_LEFT w_CENTER w_CALL w_BACK w_HOME w_MUSIC) = (.ref w_UP) := by rw [f2, if_pos ((by decide) : (0 : Int32) = (0 : Int32))] <;> decide
  rw [r4] at st4
  obtain ⟨_, _, ⟨T5, L5, k5, n5⟩, -, X5, ⟨Lc5, hQ5, l5, y5, z5⟩, st5⟩ := Jvm.LawKit.callS X4 hx (y := y3) hown (mvT hZ (ow hw 14 rfl)) (mvT hZ (ow hw 15 rfl)) (mvT hZ (ow hw 12 rfl)) (mvT hZ (ow hw 16 rfl)) (by decide) (backOf (W := 0) (rm3 l Z ar hw [] w_KSNU0 w_KSNU0 w_UP w_ALL w_KSNR1 w_RIGHT w_DOWN w_KSND2 w_LEFT w_KSNL3 w_KDC4 w_CENTER w_KEYCODE_CALL w_CALL w_BACK w_KEYCODE_BACK w_HOME w_KEYCODE_HOME w_KM5 w_MUSIC k_ALL h0 n0 O0 HW) hZ (ow hw 16 rfl) (ow hw 12 rfl) (by decide) (by decide)) (g := (mkF m 19 #[iv p0, iv (0 : Int32), rv w_KSNU0, rv w_UP, un] [(.ref w_KSNU0)])) rfl (by rw [hml]; rfl) (argsL := [(.ref w_KSNU0)]) (rest := []) (lenOf pd_2 rfl) rfl (by show 2 * 0 + _ ≤ _; exact Nat.le_of_eq rfl) (hb hby at_19) (fun _ _ => ⟨rfl, e4, (by decide : 0 + 0 ≤ _), (by decide : 0 + 0 ≤ _)⟩)
  dsimp only [Pt.U, Pt.locs, Pt.cells, Pt.slots] at X5 l5 y5 z5 st5 hQ5
  subst l5 y5 z5
  obtain ⟨rfl, N5q, e5⟩ := hQ5
  have N5 := Fr.app N4 N5q
  have r5 : (f3 w_KSNU0 w_KSNU0 w_UP w_KSNR1 w_RIGHT w_DOWN w_KSND2 w_LEFT w_KSNL3 w_KDC4 w_CENTER w_KEYCODE_CALL w_CALL w_BACK w_KEYCODE_BACK w_HOME w_KEYCODE_HOME w_KM5 w_MUSIC) = (.ref w_UP) := by rw [f3, if_pos (rfl : w_KSNU0 = w_KSNU0)] <;> decide
  rw [r5] at st5
  obtain ⟨fs, hr, hrun, hended, hW, hsame⟩ := X5.leave (v := some (.int (1 : Int32))) (fun h => by rw [Bd.returns] at h; cases h)
  subst hS0
  refine ⟨_, _, pre2 _ ?_, hrun, hended, _, _, rfl, ?_, ⟨_, rfl⟩, hW, hsame.mono (by decide) (by decide)⟩
  ·
   refine XS.iloadN X0.here hx rfl (hb hby at_8) rfl ?_
   show AT p e below s₁ m 9 #[iv p0, iv (0 : Int32), un, un, un] [(.int (0 : Int32))] _
   refine st3 _ ?_
   show AT p e below T3 m 12 #[iv p0, iv (0 : Int32), un, un, un] [(.ref w_KSNU0)] _
   refine XS.astoreN X3.here hx rfl (hb hby at_12) rfl rfl (l' := #[iv p0, iv (0 : Int32), rv w_KSNU0, un, un]) rfl ?_
   show AT p e below T3 m 13 #[iv p0, iv (0 : Int32), rv w_KSNU0, un, un] [] _
   refine XS.iloadN X3.here hx rfl (hb hby at_13) rfl ?_
   show AT p e below T3 m 14 #[iv p0, iv (0 : Int32), rv w_KSNU0, un, un] [(.int (0 : Int32))] _
   refine st4 _ ?_
   show AT p e below T4 m 17 #[iv p0, iv (0 : Int32), rv w_KSNU0, un, un] [(.ref w_UP)] _
   refine XS.astoreN X4.here hx rfl (hb hby at_17) rfl rfl (l' := #[iv p0, iv (0 : Int32), rv w_KSNU0, rv w_UP, un]) rfl ?_
   show AT p e below T4 m 18 #[iv p0, iv (0 : Int32), rv w_KSNU0, rv w_UP, un] [] _
   refine XS.aloadN X4.here hx rfl (hb hby at_18) rfl rfl ?_
   show AT p e below T4 m 19 #[iv p0, iv (0 : Int32), rv w_KSNU0, rv w_UP, un] [(.ref w_KSNU0)] _
   refine st5 _ ?_
   show AT p e below T5 m 22 #[iv p0, iv (0 : Int32), rv w_KSNU0, rv w_UP, un] [(.ref w_UP)] _
   refine XS.astore X5.here hx rfl (hb hby at_22) rfl rfl (l' := #[iv p0, iv (0 : Int32), rv w_KSNU0, rv w_UP, rv w_UP]) rfl ?_
   show AT p e below T5 m 24 #[iv p0, iv (0 : Int32), rv w_KSNU0, rv w_UP, rv w_UP] [] _
   refine XS.aload X5.here hx rfl (hb hby at_24) rfl rfl ?_
   show AT p e below T5 m 26 #[iv p0, iv (0 : Int32), rv w_KSNU0, rv w_UP, rv w_UP] [(.ref w_UP)] _
   refine XS.aloadN X5.here hx rfl (hb hby at_26) rfl rfl ?_
   show AT p e below T5 m 27 #[iv p0, iv (0 : Int32), rv w_KSNU0, rv w_UP, rv w_UP] [(.ref w_UP), (.ref w_UP)] _
   refine Jvm.RoadKit.acmp (g := (mkF m 27 #[iv p0, iv (0 : Int32), rv w_KSNU0, rv w_UP, rv w_UP] [(.ref w_UP), (.ref w_UP)])) X5 hx rfl rfl rfl (pc0 := 27) (pc' := 30) (same := true) rfl (hb hby at_27) rfl (decide_eq_true rfl) (by decide) (by decide) ?_
   show AT p e below T5 m 30 #[iv p0, iv (0 : Int32), rv w_KSNU0, rv w_UP, rv w_UP] [] _
   refine XS.iconst X5.here hx rfl (hb hby at_30) ?_
   show AT p e below T5 m 31 #[iv p0, iv (0 : Int32), rv w_KSNU0, rv w_UP, rv w_UP] [(.int (1 : Int32))] _
   refine XS.goto X5.here hx rfl (pc0 := 31) (pc' := 35) rfl (hb hby at_31) (by decide) (by decide) ?_
   show AT p e below T5 m 35 #[iv p0, iv (0 : Int32), rv w_KSNU0, rv w_UP, rv w_UP] [(.int (1 : Int32))] _
   exact retN X5 hx (t := .boolean) Bd.returns (by simp) (hb hby at_35) hr
  ·
   show Q0 Z p0 w_KSNU0 w_UP w_ALL w_KSNR1 w_RIGHT w_DOWN w_KSND2 w_LEFT w_KSNL3 w_KDC4 w_CENTER w_KEYCODE_CALL w_CALL w_BACK w_KEYCODE_BACK w_HOME w_KEYCODE_HOME w_KM5 w_MUSIC k_ALL h0 n0 _ T5.heap _
   rw [e5]
   exact ⟨rfl, N5⟩
 ·
  obtain ⟨_, _, ⟨T6, L6, k6, n6⟩, -, X6, ⟨Lc6, hQ6, l6, y6, z6⟩, st6⟩ := Jvm.LawKit.callS X0 hx (y := y1) hown (mvT hZ (ow hw 1 rfl)) (mvT hZ (ow hw 2 rfl)) (mvT hZ (ow hw 3 rfl)) (mvT hZ (ow hw 4 rfl)) (by decide) (backOf (W := 0) (rm1 l Z ar hw [] (1 : Int32) w_KSNU0 w_UP w_ALL w_KSNR1 w_RIGHT w_DOWN w_KSND2 w_LEFT w_KSNL3 w_KDC4 w_CENTER w_KEYCODE_CALL w_CALL w_BACK w_KEYCODE_BACK w_HOME w_KEYCODE_HOME w_KM5 w_MUSIC k_ALL h0 n0 O0 HW) hZ (ow hw 4 rfl) (ow hw 3 rfl) (by decide) (by decide)) (g := (mkF m 9 #[iv p0, iv (1 : Int32), un, un, un] [(.int (1 : Int32))])) rfl (by rw [hml]; rfl) (argsL := [(.int (1 : Int32))]) (rest := []) (lenOf pd_0 rfl) rfl (by show 2 * 0 + _ ≤ _; exact Nat.le_of_eq rfl) (hb hby at_9) (fun _ _ => ⟨rfl, e0, (by decide : 0 + 0 ≤ _), (by decide : 0 + 0 ≤ _)⟩)
  dsimp only [Pt.U, Pt.locs, Pt.cells, Pt.slots] at X6 l6 y6 z6 st6 hQ6
  subst l6 y6 z6
  obtain ⟨rfl, N6q, e6⟩ := hQ6
  have N6 := Fr.app N0 N6q
  have r6 : (f1 (1 : Int32) w_KSNU0 w_KSNR1 w_KSND2 w_KSNL3 w_KDC4 w_KEYCODE_CALL w_KEYCODE_BACK w_KEYCODE_HOME w_KM5) = (.ref w_KSND2) := by rw [f1, if_neg ((by decide) : ¬ ((1 : Int32) = (0 : Int32))), if_pos ((by decide) : (1 : Int32) = (1 : Int32))] <;> decide
  rw [r6] at st6
  obtain ⟨_, _, ⟨T7, L7, k7, n7⟩, -, X7, ⟨Lc7, hQ7, l7, y7, z7⟩, st7⟩ := Jvm.LawKit.callS X6 hx (y := y2) hown (mvT hZ (ow hw 8 rfl)) (mvT hZ (ow hw 9 rfl)) (mvT hZ (ow hw 3 rfl)) (mvT hZ (ow hw 10 rfl)) (by decide) (backOf (W := 0) (rm2 l Z ar hw [] (1 : Int32) w_KSNU0 w_UP w_ALL w_KSNR1 w_RIGHT w_DOWN w_KSND2 w_LEFT w_KSNL3 w_KDC4 w_CENTER w_KEYCODE_CALL w_CALL w_BACK w_KEYCODE_BACK w_HOME w_KEYCODE_HOME w_KM5 w_MUSIC k_ALL h0 n0 O0 HW) hZ (ow hw 10 rfl) (ow hw 3 rfl) (by decide) (by decide)) (g := (mkF m 14 #[iv p0, iv (1 : Int32), rv w_KSND2, un, un] [(.int (1 : Int32))])) rfl (by rw [hml]; rfl) (argsL := [(.int (1 : Int32))]) (rest := []) (lenOf pd_1 rfl) rfl (by show 2 * 0 + _ ≤ _; exact Nat.le_of_eq rfl) (hb hby at_14) (fun _ _ => ⟨rfl, e6, (by decide : 0 + 0 ≤ _), (by decide : 0 + 0 ≤ _)⟩)
  dsimp only [Pt.U, Pt.locs, Pt.cells, Pt.slots] at X7 l7 y7 z7 st7 hQ7
  subst l7 y7 z7
  obtain ⟨rfl, N7q, e7⟩ := hQ7
  have N7 := Fr.app N6 N7q
  have r7 : (f2 (1 : Int32) w_UP w_RIGHT w_DOWN w_LEFT w_CENTER w_CALL w_BACK w_HOME w_MUSIC) = (.ref w_DOWN) := by rw [f2, if_neg ((by decide) : ¬ ((1 : Int32) = (0 : Int32))), if_pos ((by decide) : (1 : Int32) = (1 : Int32))] <;> decide
  rw [r7] at st7
  obtain ⟨_, _, ⟨T8, L8, k8, n8⟩, -, X8, ⟨Lc8, hQ8, l8, y8, z8⟩, st8⟩ := Jvm.LawKit.callS X7 hx (y := y3) hown (mvT hZ (ow hw 14 rfl)) (mvT hZ (ow hw 15 rfl)) (mvT hZ (ow hw 12 rfl)) (mvT hZ (ow hw 16 rfl)) (by decide) (backOf (W := 0) (rm3 l Z ar hw [] w_KSND2 w_KSNU0 w_UP w_ALL w_KSNR1 w_RIGHT w_DOWN w_KSND2 w_LEFT w_KSNL3 w_KDC4 w_CENTER w_KEYCODE_CALL w_CALL w_BACK w_KEYCODE_BACK w_HOME w_KEYCODE_HOME w_KM5 w_MUSIC k_ALL h0 n0 O0 HW) hZ (ow hw 16 rfl) (ow hw 12 rfl) (by decide) (by decide)) (g := (mkF m 19 #[iv p0, iv (1 : Int32), rv w_KSND2, rv w_DOWN, un] [(.ref w_KSND2)])) rfl (by rw [hml]; rfl) (argsL := [(.ref w_KSND2)]) (rest := []) (lenOf pd_2 rfl) rfl (by show 2 * 0 + _ ≤ _; exact Nat.le_of_eq rfl) (hb hby at_19) (fun _ _ => ⟨rfl, e7, (by decide : 0 + 0 ≤ _), (by decide : 0 + 0 ≤ _)⟩)
  dsimp only [Pt.U, Pt.locs, Pt.cells, Pt.slots] at X8 l8 y8 z8 st8 hQ8
  subst l8 y8 z8
  obtain ⟨rfl, N8q, e8⟩ := hQ8
  have N8 := Fr.app N7 N8q
  have r8 : (f3 w_KSND2 w_KSNU0 w_UP w_KSNR1 w_RIGHT w_DOWN w_KSND2 w_LEFT w_KSNL3 w_KDC4 w_CENTER w_KEYCODE_CALL w_CALL w_BACK w_KEYCODE_BACK w_HOME w_KEYCODE_HOME w_KM5 w_MUSIC) = (.ref w_DOWN) := by rw [f3, if_neg ((Fld.ne F_ordinal_KSNU0 F_ordinal_KSND2 (by decide)) : ¬ (w_KSNU0 = w_KSND2)), if_pos (rfl : w_KSND2 = w_KSND2)] <;> decide
  rw [r8] at st8
  obtain ⟨fs, hr, hrun, hended, hW, hsame⟩ := X8.leave (v := some (.int (1 : Int32))) (fun h => by rw [Bd.returns] at h; cases h)
  subst hS0
  refine ⟨_, _, pre2 _ ?_, hrun, hended, _, _, rfl, ?_, ⟨_, rfl⟩, hW, hsame.mono (by decide) (by decide)⟩
  ·
   refine XS.iloadN X0.here hx rfl (hb hby at_8) rfl ?_
   show AT p e below s₁ m 9 #[iv p0, iv (1 : Int32), un, un, un] [(.int (1 : Int32))] _
   refine st6 _ ?_
   show AT p e below T6 m 12 #[iv p0, iv (1 : Int32), un, un, un] [(.ref w_KSND2)] _
   refine XS.astoreN X6.here hx rfl (hb hby at_12) rfl rfl (l' := #[iv p0, iv (1 : Int32), rv w_KSND2, un, un]) rfl ?_
   show AT p e below T6 m 13 #[iv p0, iv (1 : Int32), rv w_KSND2, un, un] [] _
   refine XS.iloadN X6.here hx rfl (hb hby at_13) rfl ?_
   show AT p e below T6 m 14 #[iv p0, iv (1 : Int32), rv w_KSND2, un, un] [(.int (1 : Int32))] _
   refine st7 _ ?_
   show AT p e below T7 m 17 #[iv p0, iv (1 : Int32), rv w_KSND2, un, un] [(.ref w_DOWN)] _
   refine XS.astoreN X7.here hx rfl (hb hby at_17) rfl rfl (l' := #[iv p0, iv (1 : Int32), rv w_KSND2, rv w_DOWN, un]) rfl ?_
   show AT p e below T7 m 18 #[iv p0, iv (1 : Int32), rv w_KSND2, rv w_DOWN, un] [] _
   refine XS.aloadN X7.here hx rfl (hb hby at_18) rfl rfl ?_
   show AT p e below T7 m 19 #[iv p0, iv (1 : Int32), rv w_KSND2, rv w_DOWN, un] [(.ref w_KSND2)] _
   refine st8 _ ?_
   show AT p e below T8 m 22 #[iv p0, iv (1 : Int32), rv w_KSND2, rv w_DOWN, un] [(.ref w_DOWN)] _
   refine XS.astore X8.here hx rfl (hb hby at_22) rfl rfl (l' := #[iv p0, iv (1 : Int32), rv w_KSND2, rv w_DOWN, rv w_DOWN]) rfl ?_
   show AT p e below T8 m 24 #[iv p0, iv (1 : Int32), rv w_KSND2, rv w_DOWN, rv w_DOWN] [] _
   refine XS.aload X8.here hx rfl (hb hby at_24) rfl rfl ?_
   show AT p e below T8 m 26 #[iv p0, iv (1 : Int32), rv w_KSND2, rv w_DOWN, rv w_DOWN] [(.ref w_DOWN)] _
   refine XS.aloadN X8.here hx rfl (hb hby at_26) rfl rfl ?_
   show AT p e below T8 m 27 #[iv p0, iv (1 : Int32), rv w_KSND2, rv w_DOWN, rv w_DOWN] [(.ref w_DOWN), (.ref w_DOWN)] _
   refine Jvm.RoadKit.acmp (g := (mkF m 27 #[iv p0, iv (1 : Int32), rv w_KSND2, rv w_DOWN, rv w_DOWN] [(.ref w_DOWN), (.ref w_DOWN)])) X8 hx rfl rfl rfl (pc0 := 27) (pc' := 30) (same := true) rfl (hb hby at_27) rfl (decide_eq_true rfl) (by decide) (by decide) ?_
   show AT p e below T8 m 30 #[iv p0, iv (1 : Int32), rv w_KSND2, rv w_DOWN, rv w_DOWN] [] _
   refine XS.iconst X8.here hx rfl (hb hby at_30) ?_
   show AT p e below T8 m 31 #[iv p0, iv (1 : Int32), rv w_KSND2, rv w_DOWN, rv w_DOWN] [(.int (1 : Int32))] _
   refine XS.goto X8.here hx rfl (pc0 := 31) (pc' := 35) rfl (hb hby at_31) (by decide) (by decide) ?_
   show AT p e below T8 m 35 #[iv p0, iv (1 : Int32), rv w_KSND2, rv w_DOWN, rv w_DOWN] [(.int (1 : Int32))] _
   exact retN X8 hx (t := .boolean) Bd.returns (by simp) (hb hby at_35) hr
  ·
   show Q0 Z p0 w_KSNU0 w_UP w_ALL w_KSNR1 w_RIGHT w_DOWN w_KSND2 w_LEFT w_KSNL3 w_KDC4 w_CENTER w_KEYCODE_CALL w_CALL w_BACK w_KEYCODE_BACK w_HOME w_KEYCODE_HOME w_KM5 w_MUSIC k_ALL h0 n0 _ T8.heap _
   rw [e8]
   exact ⟨rfl, N8⟩
 ·
  obtain ⟨_, _, ⟨T9, L9, k9, n9⟩, -, X9, ⟨Lc9, hQ9, l9, y9, z9⟩, st9⟩ := Jvm.LawKit.callS X0 hx (y := y1) hown (mvT hZ (ow hw 1 rfl)) (mvT hZ (ow hw 2 rfl)) (mvT hZ (ow hw 3 rfl)) (mvT hZ (ow hw 4 rfl)) (by decide) (backOf (W := 0) (rm1 l Z ar hw [] (2 : Int32) w_KSNU0 w_UP w_ALL w_KSNR1 w_RIGHT w_DOWN w_KSND2 w_LEFT w_KSNL3 w_KDC4 w_CENTER w_KEYCODE_CALL w_CALL w_BACK w_KEYCODE_BACK w_HOME w_KEYCODE_HOME w_KM5 w_MUSIC k_ALL h0 n0 O0 HW) hZ (ow hw 4 rfl) (ow hw 3 rfl) (by decide) (by decide)) (g := (mkF m 9 #[iv p0, iv (2 : Int32), un, un, un] [(.int (2 : Int32))])) rfl (by rw [hml]; rfl) (argsL := [(.int (2 : Int32))]) (rest := []) (lenOf pd_0 rfl) rfl (by show 2 * 0 + _ ≤ _; exact Nat.le_of_eq rfl) (hb hby at_9) (fun _ _ => ⟨rfl, e0, (by decide : 0 + 0 ≤ _), (by decide : 0 + 0 ≤ _)⟩)
  dsimp only [Pt.U, Pt.locs, Pt.cells, Pt.slots] at X9 l9 y9 z9 st9 hQ9
  subst l9 y9 z9
  obtain ⟨rfl, N9q, e9⟩ := hQ9
  have N9 := Fr.app N0 N9q
  have r9 : (f1 (2 : Int32) w_KSNU0 w_KSNR1 w_KSND2 w_KSNL3 w_KDC4 w_KEYCODE_CALL w_KEYCODE_BACK w_KEYCODE_HOME w_KM5) = (.ref w_KSNL3) := by rw [f1, if_neg ((by decide) : ¬ ((2 : Int32) = (0 : Int32))), if_neg ((by decide) : ¬ ((2 : Int32) = (1 : Int32))), if_pos ((by decide) : (2 : Int32) = (2 : Int32))] <;> decide
  rw [r9] at st9
  obtain ⟨_, _, ⟨T10, L10, k10, n10⟩, -, X10, ⟨Lc10, hQ10, l10, y10, z10⟩, st10⟩ := Jvm.LawKit.callS X9 hx (y := y2) hown (mvT hZ (ow hw 8 rfl)) (mvT hZ (ow hw 9 rfl)) (mvT hZ (ow hw 3 rfl)) (mvT hZ (ow hw 10 rfl)) (by decide) (backOf (W := 0) (rm2 l Z ar hw [] (2 : Int32) w_KSNU0 w_UP w_ALL w_KSNR1 w_RIGHT w_DOWN w_KSND2 w_LEFT w_KSNL3 w_KDC4 w_CENTER w_KEYCODE_CALL w_CALL w_BACK w_KEYCODE_BACK w_HOME w_KEYCODE_HOME w_KM5 w_MUSIC k_ALL h0 n0 O0 HW) hZ (ow hw 10 rfl) (ow hw 3 rfl) (by decide) (by decide)) (g := (mkF m 14 #[iv p0, iv (2 : Int32), rv w_KSNL3, un, un] [(.int (2 : Int32))])) rfl (by rw [hml]; rfl) (argsL := [(.int (2 : Int32))]) (rest := []) (lenOf pd_1 rfl) rfl (by show 2 * 0 + _ ≤ _; exact Nat.le_of_eq rfl) (hb hby at_14) (fun _ _ => ⟨rfl, e9, (by decide : 0 + 0 ≤ _), (by decide : 0 + 0 ≤ _)⟩)
  dsimp only [Pt.U, Pt.locs, Pt.cells, Pt.slots] at X10 l10 y10 z10 st10 hQ10
  subst l10 y10 z10
  obtain ⟨rfl, N10q, e10⟩ := hQ10
  have N10 := Fr.app N9 N10q
  have r10 : (f2 (2 : Int32) w_UP w_RIGHT w_DOWN w_LEFT w_CENTER w_CALL w_BACK w_HOME w_MUSIC) = (.ref w_LEFT) := by rw [f2, if_neg ((by decide) : ¬ ((2 : Int32) = (0 : Int32))), if_neg ((by decide) : ¬ ((2 : Int32) = (1 : Int32))), if_pos ((by decide) : (2 : Int32) = (2 : Int32))] <;> decide
  rw [r10] at st10
  obtain ⟨_, _, ⟨T11, L11, k11, n11⟩, -, X11, ⟨Lc11, hQ11, l11, y11, z11⟩, st11⟩ := Jvm.LawKit.callS X10 hx (y := y3) hown (mvT hZ (ow hw 14 rfl)) (mvT hZ (ow hw 15 rfl)) (mvT hZ (ow hw 12 rfl)) (mvT hZ (ow hw 16 rfl)) (by decide) (backOf (W := 0) (rm3 l Z ar hw [] w_KSNL3 w_KSNU0 w_UP w_ALL w_KSNR1 w_RIGHT w_DOWN w_KSND2 w_LEFT w_KSNL3 w_KDC4 w_CENTER w_KEYCODE_CALL w_CALL w_BACK w_KEYCODE_BACK w_HOME w_KEYCODE_HOME w_KM5 w_MUSIC k_ALL h0 n0 O0 HW) hZ (ow hw 16 rfl) (ow hw 12 rfl) (by decide) (by decide)) (g := (mkF m 19 #[iv p0, iv (2 : Int32), rv w_KSNL3, rv w_LEFT, un] [(.ref w_KSNL3)])) rfl (by rw [hml]; rfl) (argsL := [(.ref w_KSNL3)]) (rest := []) (lenOf pd_2 rfl) rfl (by show 2 * 0 + _ ≤ _; exact Nat.le_of_eq rfl) (hb hby at_19) (fun _ _ => ⟨rfl, e10, (by decide : 0 + 0 ≤ _), (by decide : 0 + 0 ≤ _)⟩)
  dsimp only [Pt.U, Pt.locs, Pt.cells, Pt.slots] at X11 l11 y11 z11 st11 hQ11
  subst l11 y11 z11
  obtain ⟨rfl, N11q, e11⟩ := hQ11
  have N11 := Fr.app N10 N11q
  have r11 : (f3 w_KSNL3 w_KSNU0 w_UP w_KSNR1 w_RIGHT w_DOWN w_KSND2 w_LEFT w_KSNL3 w_KDC4 w_CENTER w_KEYCODE_CALL w_CALL w_BACK w_KEYCODE_BACK w_HOME w_KEYCODE_HOME w_KM5 w_MUSIC) = (.ref w_LEFT) := by rw [f3, if_neg ((Fld.ne F_ordinal_KSNU0 F_ordinal_KSNL3 (by decide)) : ¬ (w_KSNU0 = w_KSNL3)), if_neg ((Fld.ne F_ordinal_KSND2 F_ordinal_KSNL3 (by decide)) : ¬ (w_KSND2 = w_KSNL3)), if_pos (rfl : w_KSNL3 = w_KSNL3)] <;> decide
  rw [r11] at st11
  obtain ⟨fs, hr, hrun, hended, hW, hsame⟩ := X11.leave (v := some (.int (1 : Int32))) (fun h => by rw [Bd.returns] at h; cases h)
  subst hS0
  refine ⟨_, _, pre2 _ ?_, hrun, hended, _, _, rfl, ?_, ⟨_, rfl⟩, hW, hsame.mono (by decide) (by decide)⟩
  ·
   refine XS.iloadN X0.here hx rfl (hb hby at_8) rfl ?_
   show AT p e below s₁ m 9 #[iv p0, iv (2 : Int32), un, un, un] [(.int (2 : Int32))] _
   refine st9 _ ?_
   show AT p e below T9 m 12 #[iv p0, iv (2 : Int32), un, un, un] [(.ref w_KSNL3)] _
   refine XS.astoreN X9.here hx rfl (hb hby at_12) rfl rfl (l' := #[iv p0, iv (2 : Int32), rv w_KSNL3, un, un]) rfl ?_
   show AT p e below T9 m 13 #[iv p0, iv (2 : Int32), rv w_KSNL3, un, un] [] _
   refine XS.iloadN X9.here hx rfl (hb hby at_13) rfl ?_
   show AT p e below T9 m 14 #[iv p0, iv (2 : Int32), rv w_KSNL3, un, un] [(.int (2 : Int32))] _
   refine st10 _ ?_
   show AT p e below T10 m 17 #[iv p0, iv (2 : Int32), rv w_KSNL3, un, un] [(.ref w_LEFT)] _
   refine XS.astoreN X10.here hx rfl (hb hby at_17) rfl rfl (l' := #[iv p0, iv (2 : Int32), rv w_KSNL3, rv w_LEFT, un]) rfl ?_
   show AT p e below T10 m 18 #[iv p0, iv (2 : Int32), rv w_KSNL3, rv w_LEFT, un] [] _
   refine XS.aloadN X10.here hx rfl (hb hby at_18) rfl rfl ?_
   show AT p e below T10 m 19 #[iv p0, iv (2 : Int32), rv w_KSNL3, rv w_LEFT, un] [(.ref w_KSNL3)] _
   refine st11 _ ?_
   show AT p e below T11 m 22 #[iv p0, iv (2 : Int32), rv w_KSNL3, rv w_LEFT, un] [(.ref w_LEFT)] _
   refine XS.astore X11.here hx rfl (hb hby at_22) rfl rfl (l' := #[iv p0, iv (2 : Int32), rv w_KSNL3, rv w_LEFT, rv w_LEFT]) rfl ?_
   show AT p e below T11 m 24 #[iv p0, iv (2 : Int32), rv w_KSNL3, rv w_LEFT, rv w_LEFT] [] _
   refine XS.aload X11.here hx rfl (hb hby at_24) rfl rfl ?_
   show AT p e below T11 m 26 #[iv p0, iv (2 : Int32), rv w_KSNL3, rv w_LEFT, rv w_LEFT] [(.ref w_LEFT)] _
   refine XS.aloadN X11.here hx rfl (hb hby at_26) rfl rfl ?_
   show AT p e below T11 m 27 #[iv p0, iv (2 : Int32), rv w_KSNL3, rv w_LEFT, rv w_LEFT] [(.ref w_LEFT), (.ref w_LEFT)] _
   refine Jvm.RoadKit.acmp (g := (mkF m 27 #[iv p0, iv (2 : Int32), rv w_KSNL3, rv w_LEFT, rv w_LEFT] [(.ref w_LEFT), (.ref w_LEFT)])) X11 hx rfl rfl rfl (pc0 := 27) (pc' := 30) (same := true) rfl (hb hby at_27) rfl (decide_eq_true rfl) (by decide) (by decide) ?_
   show AT p e below T11 m 30 #[iv p0, iv (2 : Int32), rv w_KSNL3, rv w_LEFT, rv w_LEFT] [] _
   refine XS.iconst X11.here hx rfl (hb hby at_30) ?_
   show AT p e below T11 m 31 #[iv p0, iv (2 : Int32), rv w_KSNL3, rv w_LEFT, rv w_LEFT] [(.int (1 : Int32))] _
   refine XS.goto X11.here hx rfl (pc0 := 31) (pc' := 35) rfl (hb hby at_31) (by decide) (by decide) ?_
   show AT p e below T11 m 35 #[iv p0, iv (2 : Int32), rv w_KSNL3, rv w_LEFT, rv w_LEFT] [(.int (1 : Int32))] _
   exact retN X11 hx (t := .boolean) Bd.returns (by simp) (hb hby at_35) hr
  ·
   show Q0 Z p0 w_KSNU0 w_UP w_ALL w_KSNR1 w_RIGHT w_DOWN w_KSND2 w_LEFT w_KSNL3 w_KDC4 w_CENTER w_KEYCODE_CALL w_CALL w_BACK w_KEYCODE_BACK w_HOME w_KEYCODE_HOME w_KM5 w_MUSIC k_ALL h0 n0 _ T11.heap _
   rw [e11]
   exact ⟨rfl, N11⟩
 ·
  obtain ⟨_, _, ⟨T12, L12, k12, n12⟩, -, X12, ⟨Lc12, hQ12, l12, y12, z12⟩, st12⟩ := Jvm.LawKit.callS X0 hx (y := y1) hown (mvT hZ (ow hw 1 rfl)) (mvT hZ (ow hw 2 rfl)) (mvT hZ (ow hw 3 rfl)) (mvT hZ (ow hw 4 rfl)) (by decide) (backOf (W := 0) (rm1 l Z ar hw [] (3 : Int32) w_KSNU0 w_UP w_ALL w_KSNR1 w_RIGHT w_DOWN w_KSND2 w_LEFT w_KSNL3 w_KDC4 w_CENTER w_KEYCODE_CALL w_CALL w_BACK w_KEYCODE_BACK w_HOME w_KEYCODE_HOME w_KM5 w_MUSIC k_ALL h0 n0 O0 HW) hZ (ow hw 4 rfl) (ow hw 3 rfl) (by decide) (by decide)) (g := (mkF m 9 #[iv p0, iv (3 : Int32), un, un, un] [(.int (3 : Int32))])) rfl (by rw [hml]; rfl) (argsL := [(.int (3 : Int32))]) (rest := []) (lenOf pd_0 rfl) rfl (by show 2 * 0 + _ ≤ _; exact Nat.le_of_eq rfl) (hb hby at_9) (fun _ _ => ⟨rfl, e0, (by decide : 0 + 0 ≤ _), (by decide : 0 + 0 ≤ _)⟩)
  dsimp only [Pt.U, Pt.locs, Pt.cells, Pt.slots] at X12 l12 y12 z12 st12 hQ12
  subst l12 y12 z12
  obtain ⟨rfl, N12q, e12⟩ := hQ12
  have N12 := Fr.app N0 N12q
  have r12 : (f1 (3 : Int32) w_KSNU0 w_KSNR1 w_KSND2 w_KSNL3 w_KDC4 w_KEYCODE_CALL w_KEYCODE_BACK w_KEYCODE_HOME w_KM5) = (.ref w_KSNR1) := by rw [f1, if_neg ((by decide) : ¬ ((3 : Int32) = (0 : Int32))), if_neg ((by decide) : ¬ ((3 : Int32) = (1 : Int32))), if_neg ((by decide) : ¬ ((3 : Int32) = (2 : Int32))), if_pos ((by decide) : (3 : Int32) = (3 : Int32))] <;> decide
  rw [r12] at st12
  obtain ⟨_, _, ⟨T13, L13, k13, n13⟩, -, X13, ⟨Lc13, hQ13, l13, y13, z13⟩, st13⟩ := Jvm.LawKit.callS X12 hx (y := y2) hown (mvT hZ (ow hw 8 rfl)) (mvT hZ (ow hw 9 rfl)) (mvT hZ (ow hw 3 rfl)) (mvT hZ (ow hw 10 rfl)) (by decide) (backOf (W := 0) (rm2 l Z ar hw [] (3 : Int32) w_KSNU0 w_UP w_ALL w_KSNR1 w_RIGHT w_DOWN w_KSND2 w_LEFT w_KSNL3 w_KDC4 w_CENTER w_KEYCODE_CALL w_CALL w_BACK w_KEYCODE_BACK w_HOME w_KEYCODE_HOME w_KM5 w_MUSIC k_ALL h0 n0 O0 HW) hZ (ow hw 10 rfl) (ow hw 3 rfl) (by decide) (by decide)) (g := (mkF m 14 #[iv p0, iv (3 : Int32), rv w_KSNR1, un, un] [(.int (3 : Int32))])) rfl (by rw [hml]; rfl) (argsL := [(.int (3 : Int32))]) (rest := []) (lenOf pd_1 rfl) rfl (by show 2 * 0 + _ ≤ _; exact Nat.le_of_eq rfl) (hb hby at_14) (fun _ _ => ⟨rfl, e12, (by decide : 0 + 0 ≤ _), (by decide : 0 + 0 ≤ _)⟩)
  dsimp only [Pt.U, Pt.locs, Pt.cells, Pt.slots] at X13 l13 y13 z13 st13 hQ13
  subst l13 y13 z13
  obtain ⟨rfl, N13q, e13⟩ := hQ13
  have N13 := Fr.app N12 N13q
  have r13 : (f2 (3 : Int32) w_UP w_RIGHT w_DOWN w_LEFT w_CENTER w_CALL w_BACK w_HOME w_MUSIC) = (.ref w_RIGHT) := by rw [f2, if_neg ((by decide) : ¬ ((3 : Int32) = (0 : Int32))), if_neg ((by decide) : ¬ ((3 : Int32) = (1 : Int32))), if_neg ((by decide) : ¬ ((3 : Int32) = (2 : Int32))), if_pos ((by decide) : (3 : Int32) = (3 : Int32))] <;> decide
  rw [r13] at st13
  obtain ⟨_, _, ⟨T14, L14, k14, n14⟩, -, X14, ⟨Lc14, hQ14, l14, y14, z14⟩, st14⟩ := Jvm.LawKit.callS X13 hx (y := y3) hown (mvT hZ (ow hw 14 rfl)) (mvT hZ (ow hw 15 rfl)) (mvT hZ (ow hw 12 rfl)) (mvT hZ (ow hw 16 rfl)) (by decide) (backOf (W := 0) (rm3 l Z ar hw [] w_KSNR1 w_KSNU0 w_UP w_ALL w_KSNR1 w_RIGHT w_DOWN w_KSND2 w_LEFT w_KSNL3 w_KDC4 w_CENTER w_KEYCODE_CALL w_CALL w_BACK w_KEYCODE_BACK w_HOME w_KEYCODE_HOME w_KM5 w_MUSIC k_ALL h0 n0 O0 HW) hZ (ow hw 16 rfl) (ow hw 12 rfl) (by decide) (by decide)) (g := (mkF m 19 #[iv p0, iv (3 : Int32), rv w_KSNR1, rv w_RIGHT, un] [(.ref w_KSNR1)])) rfl (by rw [hml]; rfl) (argsL := [(.ref w_KSNR1)]) (rest := []) (lenOf pd_2 rfl) rfl (by show 2 * 0 + _ ≤ _; exact Nat.le_of_eq rfl) (hb hby at_19) (fun _ _ => ⟨rfl, e13, (by decide : 0 + 0 ≤ _), (by decide : 0 + 0 ≤ _)⟩)
  dsimp only [Pt.U, Pt.locs, Pt.cells, Pt.slots] at X14 l14 y14 z14 st14 hQ14
  subst l14 y14 z14
  obtain ⟨rfl, N14q, e14⟩ := hQ14
  have N14 := Fr.app N13 N14q
  have r14 : (f3 w_KSNR1 w_KSNU0 w_UP w_KSNR1 w_RIGHT w_DOWN w_KSND2 w_LEFT w_KSNL3 w_KDC4 w_CENTER w_KEYCODE_CALL w_CALL w_BACK w_KEYCODE_BACK w_HOME w_KEYCODE_HOME w_KM5 w_MUSIC) = (.ref w_RIGHT) := by rw [f3, if_neg ((Fld.ne F_ordinal_KSNU0 F_ordinal_KSNR1 (by decide)) : ¬ (w_KSNU0 = w_KSNR1)), if_neg ((Fld.ne F_ordinal_KSND2 F_ordinal_KSNR1 (by decide)) : ¬ (w_KSND2 = w_KSNR1)), if_neg ((Fld.ne F_ordinal_KSNL3 F_ordinal_KSNR1 (by decide)) : ¬ (w_KSNL3 = w_KSNR1)), if_pos (rfl : w_KSNR1 = w_KSNR1)] <;> decide
  rw [r14] at st14
  obtain ⟨fs, hr, hrun, hended, hW, hsame⟩ := X14.leave (v := some (.int (1 : Int32))) (fun h => by rw [Bd.returns] at h; cases h)
  subst hS0
  refine ⟨_, _, pre2 _ ?_, hrun, hended, _, _, rfl, ?_, ⟨_, rfl⟩, hW, hsame.mono (by decide) (by decide)⟩
  ·
   refine XS.iloadN X0.here hx rfl (hb hby at_8) rfl ?_
   show AT p e below s₁ m 9 #[iv p0, iv (3 : Int32), un, un, un] [(.int (3 : Int32))] _
   refine st12 _ ?_
   show AT p e below T12 m 12 #[iv p0, iv (3 : Int32), un, un, un] [(.ref w_KSNR1)] _
   refine XS.astoreN X12.here hx rfl (hb hby at_12) rfl rfl (l' := #[iv p0, iv (3 : Int32), rv w_KSNR1, un, un]) rfl ?_
   show AT p e below T12 m 13 #[iv p0, iv (3 : Int32), rv w_KSNR1, un, un] [] _
   refine XS.iloadN X12.here hx rfl (hb hby at_13) rfl ?_
   show AT p e below T12 m 14 #[iv p0, iv (3 : Int32), rv w_KSNR1, un, un] [(.int (3 : Int32))] _
   refine st13 _ ?_
   show AT p e below T13 m 17 #[iv p0, iv (3 : Int32), rv w_KSNR1, un, un] [(.ref w_RIGHT)] _
   refine XS.astoreN X13.here hx rfl (hb hby at_17) rfl rfl (l' := #[iv p0, iv (3 : Int32), rv w_KSNR1, rv w_RIGHT, un]) rfl ?_
   show AT p e below T13 m 18 #[iv p0, iv (3 : Int32), rv w_KSNR1, rv w_RIGHT, un] [] _
   refine XS.aloadN X13.here hx rfl (hb hby at_18) rfl rfl ?_
   show AT p e below T13 m 19 #[iv p0, iv (3 : Int32), rv w_KSNR1, rv w_RIGHT, un] [(.ref w_KSNR1)] _
   refine st14 _ ?_
   show AT p e below T14 m 22 #[iv p0, iv (3 : Int32), rv w_KSNR1, rv w_RIGHT, un] [(.ref w_RIGHT)] _
   refine XS.astore X14.here hx rfl (hb hby at_22) rfl rfl (l' := #[iv p0, iv (3 : Int32), rv w_KSNR1, rv w_RIGHT, rv w_RIGHT]) rfl ?_
   show AT p e below T14 m 24 #[iv p0, iv (3 : Int32), rv w_KSNR1, rv w_RIGHT, rv w_RIGHT] [] _
   refine XS.aload X14.here hx rfl (hb hby at_24) rfl rfl ?_
   show AT p e below T14 m 26 #[iv p0, iv (3 : Int32), rv w_KSNR1, rv w_RIGHT, rv w_RIGHT] [(.ref w_RIGHT)] _
   refine XS.aloadN X14.here hx rfl (hb hby at_26) rfl rfl ?_
   show AT p e below T14 m 27 #[iv p0, iv (3 : Int32), rv w_KSNR1, rv w_RIGHT, rv w_RIGHT] [(.ref w_RIGHT), (.ref w_RIGHT)] _
   refine Jvm.RoadKit.acmp (g := (mkF m 27 #[iv p0, iv (3 : Int32), rv w_KSNR1, rv w_RIGHT, rv w_RIGHT] [(.ref w_RIGHT), (.ref w_RIGHT)])) X14 hx rfl rfl rfl (pc0 := 27) (pc' := 30) (same := true) rfl (hb hby at_27) rfl (decide_eq_true rfl) (by decide) (by decide) ?_
   show AT p e below T14 m 30 #[iv p0, iv (3 : Int32), rv w_KSNR1, rv w_RIGHT, rv w_RIGHT] [] _
   refine XS.iconst X14.here hx rfl (hb hby at_30) ?_
   show AT p e below T14 m 31 #[iv p0, iv (3 : Int32), rv w_KSNR1, rv w_RIGHT, rv w_RIGHT] [(.int (1 : Int32))] _
   refine XS.goto X14.here hx rfl (pc0 := 31) (pc' := 35) rfl (hb hby at_31) (by decide) (by decide) ?_
   show AT p e below T14 m 35 #[iv p0, iv (3 : Int32), rv w_KSNR1, rv w_RIGHT, rv w_RIGHT] [(.int (1 : Int32))] _
   exact retN X14 hx (t := .boolean) Bd.returns (by simp) (hb hby at_35) hr
  ·
   show Q0 Z p0 w_KSNU0 w_UP w_ALL w_KSNR1 w_RIGHT w_DOWN w_KSND2 w_LEFT w_KSNL3 w_KDC4 w_CENTER w_KEYCODE_CALL w_CALL w_BACK w_KEYCODE_BACK w_HOME w_KEYCODE_HOME w_KM5 w_MUSIC k_ALL h0 n0 _ T14.heap _
   rw [e14]
   exact ⟨rfl, N14⟩
 ·
  obtain ⟨_, _, ⟨T15, L15, k15, n15⟩, -, X15, ⟨Lc15, hQ15, l15, y15, z15⟩, st15⟩ := Jvm.LawKit.callS X0 hx (y := y1) hown (mvT hZ (ow hw 1 rfl)) (mvT hZ (ow hw 2 rfl)) (mvT hZ (ow hw 3 rfl)) (mvT hZ (ow hw 4 rfl)) (by decide) (backOf (W := 0) (rm1 l Z ar hw [] (4 : Int32) w_KSNU0 w_UP w_ALL w_KSNR1 w_RIGHT w_DOWN w_KSND2 w_LEFT w_KSNL3 w_KDC4 w_CENTER w_KEYCODE_CALL w_CALL w_BACK w_KEYCODE_BACK w_HOME w_KEYCODE_HOME w_KM5 w_MUSIC k_ALL h0 n0 O0 HW) hZ (ow hw 4 rfl) (ow hw 3 rfl) (by decide) (by decide)) (g := (mkF m 9 #[iv p0, iv (4 : Int32), un, un, un] [(.int (4 : Int32))])) rfl (by rw [hml]; rfl) (argsL := [(.int (4 : Int32))]) (rest := []) (lenOf pd_0 rfl) rfl (by show 2 * 0 + _ ≤ _; exact Nat.le_of_eq rfl) (hb hby at_9) (fun _ _ => ⟨rfl, e0, (by decide : 0 + 0 ≤ _), (by decide : 0 + 0 ≤ _)⟩)
  dsimp only [Pt.U, Pt.locs, Pt.cells, Pt.slots] at X15 l15 y15 z15 st15 hQ15
  subst l15 y15 z15
  obtain ⟨rfl, N15q, e15⟩ := hQ15
  have N15 := Fr.app N0 N15q
  have r15 : (f1 (4 : Int32) w_KSNU0 w_KSNR1 w_KSND2 w_KSNL3 w_KDC4 w_KEYCODE_CALL w_KEYCODE_BACK w_KEYCODE_HOME w_KM5) = (.ref w_KDC4) := by rw [f1, if_neg ((by decide) : ¬ ((4 : Int32) = (0 : Int32))), if_neg ((by decide) : ¬ ((4 : Int32) = (1 : Int32))), if_neg ((by decide) : ¬ ((4 : Int32) = (2 : Int32))), if_neg ((by decide) : ¬ ((4 : Int32) = (3 : Int32))), if_pos ((by decide) : (4 : Int32) = (4 : Int32))] <;> decide
  rw [r15] at st15
  obtain ⟨_, _, ⟨T16, L16, k16, n16⟩, -, X16, ⟨Lc16, hQ16, l16, y16, z16⟩, st16⟩ := Jvm.LawKit.callS X15 hx (y := y2) hown (mvT hZ (ow hw 8 rfl)) (mvT hZ (ow hw 9 rfl)) (mvT hZ (ow hw 3 rfl)) (mvT hZ (ow hw 10 rfl)) (by decide) (backOf (W := 0) (rm2 l Z ar hw [] (4 : Int32) w_KSNU0 w_UP w_ALL w_KSNR1 w_RIGHT w_DOWN w_KSND2 w_LEFT w_KSNL3 w_KDC4 w_CENTER w_KEYCODE_CALL w_CALL w_BACK w_KEYCODE_BACK w_HOME w_KEYCODE_HOME w_KM5 w_MUSIC k_ALL h0 n0 O0 HW) hZ (ow hw 10 rfl) (ow hw 3 rfl) (by decide) (by decide)) (g := (mkF m 14 #[iv p0, iv (4 : Int32), rv w_KDC4, un, un] [(.int (4 : Int32))])) rfl (by rw [hml]; rfl) (argsL := [(.int (4 : Int32))]) (rest := []) (lenOf pd_1 rfl) rfl (by show 2 * 0 + _ ≤ _; exact Nat.le_of_eq rfl) (hb hby at_14) (fun _ _ => ⟨rfl, e15, (by decide : 0 + 0 ≤ _), (by decide : 0 + 0 ≤ _)⟩)
  dsimp only [Pt.U, Pt.locs, Pt.cells, Pt.slots] at X16 l16 y16 z16 st16 hQ16
  subst l16 y16 z16
  obtain ⟨rfl, N16q, e16⟩ := hQ16
  have N16 := Fr.app N15 N16q
  have r16 : (f2 (4 : Int32) w_UP w_RIGHT w_DOWN w_LEFT w_CENTER w_CALL w_BACK w_HOME w_MUSIC) = (.ref w_CENTER) := by rw [f2, if_neg ((by decide) : ¬ ((4 : Int32) = (0 : Int32))), if_neg ((by decide) : ¬ ((4 : Int32) = (1 : Int32))), if_neg ((by decide) : ¬ ((4 : Int32) = (2 : Int32))), if_neg ((by decide) : ¬ ((4 : Int32) = (3 : Int32))), if_pos ((by decide) : (4 : Int32) = (4 : Int32))] <;> decide
  rw [r16] at st16
  obtain ⟨_, _, ⟨T17, L17, k17, n17⟩, -, X17, ⟨Lc17, hQ17, l17, y17, z17⟩, st17⟩ := Jvm.LawKit.callS X16 hx (y := y3) hown (mvT hZ (ow hw 14 rfl)) (mvT hZ (ow hw 15 rfl)) (mvT hZ (ow hw 12 rfl)) (mvT hZ (ow hw 16 rfl)) (by decide) (backOf (W := 0) (rm3 l Z ar hw [] w_KDC4 w_KSNU0 w_UP w_ALL w_KSNR1 w_RIGHT w_DOWN w_KSND2 w_LEFT w_KSNL3 w_KDC4 w_CENTER w_KEYCODE_CALL w_CALL w_BACK w_KEYCODE_BACK w_HOME w_KEYCODE_HOME w_KM5 w_MUSIC k_ALL h0 n0 O0 HW) hZ (ow hw 16 rfl) (ow hw 12 rfl) (by decide) (by decide)) (g := (mkF m 19 #[iv p0, iv (4 : Int32), rv w_KDC4, rv w_CENTER, un] [(.ref w_KDC4)])) rfl (by rw [hml]; rfl) (argsL := [(.ref w_KDC4)]) (rest := []) (lenOf pd_2 rfl) rfl (by show 2 * 0 + _ ≤ _; exact Nat.le_of_eq rfl) (hb hby at_19) (fun _ _ => ⟨rfl, e16, (by decide : 0 + 0 ≤ _), (by decide : 0 + 0 ≤ _)⟩)
  dsimp only [Pt.U, Pt.locs, Pt.cells, Pt.slots] at X17 l17 y17 z17 st17 hQ17
  subst l17 y17 z17
  obtain ⟨rfl, N17q, e17⟩ := hQ17
  have N17 := Fr.app N16 N17q
  have r17 : (f3 w_KDC4 w_KSNU0 w_UP w_KSNR1 w_RIGHT w_DOWN w_KSND2 w_LEFT w_KSNL3 w_KDC4 w_CENTER w_KEYCODE_CALL w_CALL w_BACK w_KEYCODE_BACK w_HOME w_KEYCODE_HOME w_KM5 w_MUSIC) = (.ref w_CENTER) := by rw [f3, if_neg ((Fld.ne F_ordinal_KSNU0 F_ordinal_KDC4 (by decide)) : ¬ (w_KSNU0 = w_KDC4)), if_neg ((Fld.ne F_ordinal_KSND2 F_ordinal_KDC4 (by decide)) : ¬ (w_KSND2 = w_KDC4)), if_neg ((Fld.ne F_ordinal_KSNL3 F_ordinal_KDC4 (by decide)) : ¬ (w_KSNL3 = w_KDC4)), if_neg ((Fld.ne F_ordinal_KSNR1 F_ordinal_KDC4 (by decide)) : ¬ (w_KSNR1 = w_KDC4)), if_pos (rfl : w_KDC4 = w_KDC4)] <;> decide
  rw [r17] at st17
  obtain ⟨fs, hr, hrun, hended, hW, hsame⟩ := X17.leave (v := some (.int (1 : Int32))) (fun h => by rw [Bd.returns] at h; cases h)
  subst hS0
  refine ⟨_, _, pre2 _ ?_, hrun, hended, _, _, rfl, ?_, ⟨_, rfl⟩, hW, hsame.mono (by decide) (by decide)⟩
  ·
   refine XS.iloadN X0.here hx rfl (hb hby at_8) rfl ?_
   show AT p e below s₁ m 9 #[iv p0, iv (4 : Int32), un, un, un] [(.int (4 : Int32))] _
   refine st15 _ ?_
   show AT p e below T15 m 12 #[iv p0, iv (4 : Int32), un, un, un] [(.ref w_KDC4)] _
   refine XS.astoreN X15.here hx rfl (hb hby at_12) rfl rfl (l' := #[iv p0, iv (4 : Int32), rv w_KDC4, un, un]) rfl ?_
   show AT p e below T15 m 13 #[iv p0, iv (4 : Int32), rv w_KDC4, un, un] [] _
   refine XS.iloadN X15.here hx rfl (hb hby at_13) rfl ?_
   show AT p e below T15 m 14 #[iv p0, iv (4 : Int32), rv w_KDC4, un, un] [(.int (4 : Int32))] _
   refine st16 _ ?_
   show AT p e below T16 m 17 #[iv p0, iv (4 : Int32), rv w_KDC4, un, un] [(.ref w_CENTER)] _
   refine XS.astoreN X16.here hx rfl (hb hby at_17) rfl rfl (l' := #[iv p0, iv (4 : Int32), rv w_KDC4, rv w_CENTER, un]) rfl ?_
   show AT p e below T16 m 18 #[iv p0, iv (4 : Int32), rv w_KDC4, rv w_CENTER, un] [] _
   refine XS.aloadN X16.here hx rfl (hb hby at_18) rfl rfl ?_
   show AT p e below T16 m 19 #[iv p0, iv (4 : Int32), rv w_KDC4, rv w_CENTER, un] [(.ref w_KDC4)] _
   refine st17 _ ?_
   show AT p e below T17 m 22 #[iv p0, iv (4 : Int32), rv w_KDC4, rv w_CENTER, un] [(.ref w_CENTER)] _
   refine XS.astore X17.here hx rfl (hb hby at_22) rfl rfl (l' := #[iv p0, iv (4 : Int32), rv w_KDC4, rv w_CENTER, rv w_CENTER]) rfl ?_
   show AT p e below T17 m 24 #[iv p0, iv (4 : Int32), rv w_KDC4, rv w_CENTER, rv w_CENTER] [] _
   refine XS.aload X17.here hx rfl (hb hby at_24) rfl rfl ?_
   show AT p e below T17 m 26 #[iv p0, iv (4 : Int32), rv w_KDC4, rv w_CENTER, rv w_CENTER] [(.ref w_CENTER)] _
   refine XS.aloadN X17.here hx rfl (hb hby at_26) rfl rfl ?_
   show AT p e below T17 m 27 #[iv p0, iv (4 : Int32), rv w_KDC4, rv w_CENTER, rv w_CENTER] [(.ref w_CENTER), (.ref w_CENTER)] _
   refine Jvm.RoadKit.acmp (g := (mkF m 27 #[iv p0, iv (4 : Int32), rv w_KDC4, rv w_CENTER, rv w_CENTER] [(.ref w_CENTER), (.ref w_CENTER)])) X17 hx rfl rfl rfl (pc0 := 27) (pc' := 30) (same := true) rfl (hb hby at_27) rfl (decide_eq_true rfl) (by decide) (by decide) ?_
   show AT p e below T17 m 30 #[iv p0, iv (4 : Int32), rv w_KDC4, rv w_CENTER, rv w_CENTER] [] _
   refine XS.iconst X17.here hx rfl (hb hby at_30) ?_
   show AT p e below T17 m 31 #[iv p0, iv (4 : Int32), rv w_KDC4, rv w_CENTER, rv w_CENTER] [(.int (1 : Int32))] _
   refine XS.goto X17.here hx rfl (pc0 := 31) (pc' := 35) rfl (hb hby at_31) (by decide) (by decide) ?_
   show AT p e below T17 m 35 #[iv p0, iv (4 : Int32), rv w_KDC4, rv w_CENTER, rv w_CENTER] [(.int (1 : Int32))] _
   exact retN X17 hx (t := .boolean) Bd.returns (by simp) (hb hby at_35) hr
  ·
   show Q0 Z p0 w_KSNU0 w_UP w_ALL w_KSNR1 w_RIGHT w_DOWN w_KSND2 w_LEFT w_KSNL3 w_KDC4 w_CENTER w_KEYCODE_CALL w_CALL w_BACK w_KEYCODE_BACK w_HOME w_KEYCODE_HOME w_KM5 w_MUSIC k_ALL h0 n0 _ T17.heap _
   rw [e17]
   exact ⟨rfl, N17⟩
 ·
  obtain ⟨_, _, ⟨T18, L18, k18, n18⟩, -, X18, ⟨Lc18, hQ18, l18, y18, z18⟩, st18⟩ := Jvm.LawKit.callS X0 hx (y := y1) hown (mvT hZ (ow hw 1 rfl)) (mvT hZ (ow hw 2 rfl)) (mvT hZ (ow hw 3 rfl)) (mvT hZ (ow hw 4 rfl)) (by decide) (backOf (W := 0) (rm1 l Z ar hw [] (5 : Int32) w_KSNU0 w_UP w_ALL w_KSNR1 w_RIGHT w_DOWN w_KSND2 w_LEFT w_KSNL3 w_KDC4 w_CENTER w_KEYCODE_CALL w_CALL w_BACK w_KEYCODE_BACK w_HOME w_KEYCODE_HOME w_KM5 w_MUSIC k_ALL h0 n0 O0 HW) hZ (ow hw 4 rfl) (ow hw 3 rfl) (by decide) (by decide)) (g := (mkF m 9 #[iv p0, iv (5 : Int32), un, un, un] [(.int (5 : Int32))])) rfl (by rw [hml]; rfl) (argsL := [(.int (5 : Int32))]) (rest := []) (lenOf pd_0 rfl) rfl (by show 2 * 0 + _ ≤ _; exact Nat.le_of_eq rfl) (hb hby at_9) (fun _ _ => ⟨rfl, e0, (by decide : 0 + 0 ≤ _), (by decide : 0 + 0 ≤ _)⟩)
  dsimp only [Pt.U, Pt.locs, Pt.cells, Pt.slots] at X18 l18 y18 z18 st18 hQ18
  subst l18 y18 z18
  obtain ⟨rfl, N18q, e18⟩ := hQ18
  have N18 := Fr.app N0 N18q
  have r18 : (f1 (5 : Int32) w_KSNU0 w_KSNR1 w_KSND2 w_KSNL3 w_KDC4 w_KEYCODE_CALL w_KEYCODE_BACK w_KEYCODE_HOME w_KM5) = (.ref w_KEYCODE_BACK) := by rw [f1, if_neg ((by decide) : ¬ ((5 : Int32) = (0 : Int32))), if_neg ((by decide) : ¬ ((5 : Int32) = (1 : Int32))), if_neg ((by decide) : ¬ ((5 : Int32) = (2 : Int32))), if_neg ((by decide) : ¬ ((5 : Int32) = (3 : Int32))), if_neg ((by decide) : ¬ ((5 : Int32) = (4 : Int32))), if_pos ((by decide) : (5 : Int32) = (5 : Int32))] <;> decide
  rw [r18] at st18
  obtain ⟨_, _, ⟨T19, L19, k19, n19⟩, -, X19, ⟨Lc19, hQ19, l19, y19, z19⟩, st19⟩ := Jvm.LawKit.callS X18 hx (y := y2) hown (mvT hZ (ow hw 8 rfl)) (mvT hZ (ow hw 9 rfl)) (mvT hZ (ow hw 3 rfl)) (mvT hZ (ow hw 10 rfl)) (by decide) (backOf (W := 0) (rm2 l Z ar hw [] (5 : Int32) w_KSNU0 w_UP w_ALL w_KSNR1 w_RIGHT w_DOWN w_KSND2 w_LEFT w_KSNL3 w_KDC4 w_CENTER w_KEYCODE_CALL w_CALL w_BACK w_KEYCODE_BACK w_HOME w_KEYCODE_HOME w_KM5 w_MUSIC k_ALL h0 n0 O0 HW) hZ (ow hw 10 rfl) (ow hw 3 rfl) (by decide) (by decide)) (g := (mkF m 14 #[iv p0, iv (5 : Int32), rv w_KEYCODE_BACK, un, un] [(.int (5 : Int32))])) rfl (by rw [hml]; rfl) (argsL := [(.int (5 : Int32))]) (rest := []) (lenOf pd_1 rfl) rfl (by show 2 * 0 + _ ≤ _; exact Nat.le_of_eq rfl) (hb hby at_14) (fun _ _ => ⟨rfl, e18, (by decide : 0 + 0 ≤ _), (by decide : 0 + 0 ≤ _)⟩)
  dsimp only [Pt.U, Pt.locs, Pt.cells, Pt.slots] at X19 l19 y19 z19 st19 hQ19
  subst l19 y19 z19
  obtain ⟨rfl, N19q, e19⟩ := hQ19
  have N19 := Fr.app N18 N19q
  have r19 : (f2 (5 : Int32) w_UP w_RIGHT w_DOWN w_LEFT w_CENTER w_CALL w_BACK w_HOME w_MUSIC) = (.ref w_BACK) := by rw [f2, if_neg ((by decide) : ¬ ((5 : Int32) = (0 : Int32))), if_neg ((by decide) : ¬ ((5 : Int32) = (1 : Int32))), if_neg ((by decide) : ¬ ((5 : Int32) = (2 : Int32))), if_neg ((by decide) : ¬ ((5 : Int32) = (3 : Int32))), if_neg ((by decide) : ¬ ((5 : Int32) = (4 : Int32))), if_pos ((by decide) : (5 : Int32) = (5 : Int32))] <;> decide
  rw [r19] at st19
  obtain ⟨_, _, ⟨T20, L20, k20, n20⟩, -, X20, ⟨Lc20, hQ20, l20, y20, z20⟩, st20⟩ := Jvm.LawKit.callS X19 hx (y := y3) hown (mvT hZ (ow hw 14 rfl)) (mvT hZ (ow hw 15 rfl)) (mvT hZ (ow hw 12 rfl)) (mvT hZ (ow hw 16 rfl)) (by decide) (backOf (W := 0) (rm3 l Z ar hw [] w_KEYCODE_BACK w_KSNU0 w_UP w_ALL w_KSNR1 w_RIGHT w_DOWN w_KSND2 w_LEFT w_KSNL3 w_KDC4 w_CENTER w_KEYCODE_CALL w_CALL w_BACK w_KEYCODE_BACK w_HOME w_KEYCODE_HOME w_KM5 w_MUSIC k_ALL h0 n0 O0 HW) hZ (ow hw 16 rfl) (ow hw 12 rfl) (by decide) (by decide)) (g := (mkF m 19 #[iv p0, iv (5 : Int32), rv w_KEYCODE_BACK, rv w_BACK, un] [(.ref w_KEYCODE_BACK)])) rfl (by rw [hml]; rfl) (argsL := [(.ref w_KEYCODE_BACK)]) (rest := []) (lenOf pd_2 rfl) rfl (by show 2 * 0 + _ ≤ _; exact Nat.le_of_eq rfl) (hb hby at_19) (fun _ _ => ⟨rfl, e19, (by decide : 0 + 0 ≤ _), (by decide : 0 + 0 ≤ _)⟩)
  dsimp only [Pt.U, Pt.locs, Pt.cells, Pt.slots] at X20 l20 y20 z20 st20 hQ20
  subst l20 y20 z20
  obtain ⟨rfl, N20q, e20⟩ := hQ20
  have N20 := Fr.app N19 N20q
  have r20 : (f3 w_KEYCODE_BACK w_KSNU0 w_UP w_KSNR1 w_RIGHT w_DOWN w_KSND2 w_LEFT w_KSNL3 w_KDC4 w_CENTER w_KEYCODE_CALL w_CALL w_BACK w_KEYCODE_BACK w_HOME w_KEYCODE_HOME w_KM5 w_MUSIC) = (.ref w_BACK) := by rw [f3, if_neg ((Fld.ne F_ordinal_KSNU0 F_ordinal_KEYCODE_BACK (by decide)) : ¬ (w_KSNU0 = w_KEYCODE_BACK)), if_neg ((Fld.ne F_ordinal_KSND2 F_ordinal_KEYCODE_BACK (by decide)) : ¬ (w_KSND2 = w_KEYCODE_BACK)), if_neg ((Fld.ne F_ordinal_KSNL3 F_ordinal_KEYCODE_BACK (by decide)) : ¬ (w_KSNL3 = w_KEYCODE_BACK)), if_neg ((Fld.ne F_ordinal_KSNR1 F_ordinal_KEYCODE_BACK (by decide)) : ¬ (w_KSNR1 = w_KEYCODE_BACK)), if_neg ((Fld.ne F_ordinal_KDC4 F_ordinal_KEYCODE_BACK (by decide)) : ¬ (w_KDC4 = w_KEYCODE_BACK)), if_pos (rfl : w_KEYCODE_BACK = w_KEYCODE_BACK)] <;> decide
  rw [r20] at st20
  obtain ⟨fs, hr, hrun, hended, hW, hsame⟩ := X20.leave (v := some (.int (1 : Int32))) (fun h => by rw [Bd.returns] at h; cases h)
  subst hS0
  refine ⟨_, _, pre2 _ ?_, hrun, hended, _, _, rfl, ?_, ⟨_, rfl⟩, hW, hsame.mono (by decide) (by decide)⟩
  ·
   refine XS.iloadN X0.here hx rfl (hb hby at_8) rfl ?_
   show AT p e below s₁ m 9 #[iv p0, iv (5 : Int32), un, un, un] [(.int (5 : Int32))] _
   refine st18 _ ?_
   show AT p e below T18 m 12 #[iv p0, iv (5 : Int32), un, un, un] [(.ref w_KEYCODE_BACK)] _
   refine XS.astoreN X18.here hx rfl (hb hby at_12) rfl rfl (l' := #[iv p0, iv (5 : Int32), rv w_KEYCODE_BACK, un, un]) rfl ?_
   show AT p e below T18 m 13 #[iv p0, iv (5 : Int32), rv w_KEYCODE_BACK, un, un] [] _
   refine XS.iloadN X18.here hx rfl (hb hby at_13) rfl ?_
   show AT p e below T18 m 14 #[iv p0, iv (5 : Int32), rv w_KEYCODE_BACK, un, un] [(.int (5 : Int32))] _
   refine st19 _ ?_
   show AT p e below T19 m 17 #[iv p0, iv (5 : Int32), rv w_KEYCODE_BACK, un, un] [(.ref w_BACK)] _
   refine XS.astoreN X19.here hx rfl (hb hby at_17) rfl rfl (l' := #[iv p0, iv (5 : Int32), rv w_KEYCODE_BACK, rv w_BACK, un]) rfl ?_
   show AT p e below T19 m 18 #[iv p0, iv (5 : Int32), rv w_KEYCODE_BACK, rv w_BACK, un] [] _
   refine XS.aloadN X19.here hx rfl (hb hby at_18) rfl rfl ?_
   show AT p e below T19 m 19 #[iv p0, iv (5 : Int32), rv w_KEYCODE_BACK, rv w_BACK, un] [(.ref w_KEYCODE_BACK)] _
   refine st20 _ ?_
   show AT p e below T20 m 22 #[iv p0, iv (5 : Int32), rv w_KEYCODE_BACK, rv w_BACK, un] [(.ref w_BACK)] _
   refine XS.astore X20.here hx rfl (hb hby at_22) rfl rfl (l' := #[iv p0, iv (5 : Int32), rv w_KEYCODE_BACK, rv w_BACK, rv w_BACK]) rfl ?_
   show AT p e below T20 m 24 #[iv p0, iv (5 : Int32), rv w_KEYCODE_BACK, rv w_BACK, rv w_BACK] [] _
   refine XS.aload X20.here hx rfl (hb hby at_24) rfl rfl ?_
   show AT p e below T20 m 26 #[iv p0, iv (5 : Int32), rv w_KEYCODE_BACK, rv w_BACK, rv w_BACK] [(.ref w_BACK)] _
   refine XS.aloadN X20.here hx rfl (hb hby at_26) rfl rfl ?_
   show AT p e below T20 m 27 #[iv p0, iv (5 : Int32), rv w_KEYCODE_BACK, rv w_BACK, rv w_BACK] [(.ref w_BACK), (.ref w_BACK)] _
   refine Jvm.RoadKit.acmp (g := (mkF m 27 #[iv p0, iv (5 : Int32), rv w_KEYCODE_BACK, rv w_BACK, rv w_BACK] [(.ref w_BACK), (.ref w_BACK)])) X20 hx rfl rfl rfl (pc0 := 27) (pc' := 30) (same := true) rfl (hb hby at_27) rfl (decide_eq_true rfl) (by decide) (by decide) ?_
   show AT p e below T20 m 30 #[iv p0, iv (5 : Int32), rv w_KEYCODE_BACK, rv w_BACK, rv w_BACK] [] _
   refine XS.iconst X20.here hx rfl (hb hby at_30) ?_
   show AT p e below T20 m 31 #[iv p0, iv (5 : Int32), rv w_KEYCODE_BACK, rv w_BACK, rv w_BACK] [(.int (1 : Int32))] _
   refine XS.goto X20.here hx rfl (pc0 := 31) (pc' := 35) rfl (hb hby at_31) (by decide) (by decide) ?_
   show AT p e below T20 m 35 #[iv p0, iv (5 : Int32), rv w_KEYCODE_BACK, rv w_BACK, rv w_BACK] [(.int (1 : Int32))] _
   exact retN X20 hx (t := .boolean) Bd.returns (by simp) (hb hby at_35) hr
  ·
   show Q0 Z p0 w_KSNU0 w_UP w_ALL w_KSNR1 w_RIGHT w_DOWN w_KSND2 w_LEFT w_KSNL3 w_KDC4 w_CENTER w_KEYCODE_CALL w_CALL w_BACK w_KEYCODE_BACK w_HOME w_KEYCODE_HOME w_KM5 w_MUSIC k_ALL h0 n0 _ T20.heap _
   rw [e20]
   exact ⟨rfl, N20⟩
 ·
  obtain ⟨_, _, ⟨T21, L21, k21, n21⟩, -, X21, ⟨Lc21, hQ21, l21, y21, z21⟩, st21⟩ := Jvm.LawKit.callS X0 hx (y := y1) hown (mvT hZ (ow hw 1 rfl)) (mvT hZ (ow hw 2 rfl)) (mvT hZ (ow hw 3 rfl)) (mvT hZ (ow hw 4 rfl)) (by decide) (backOf (W := 0) (rm1 l Z ar hw [] (6 : Int32) w_KSNU0 w_UP w_ALL w_KSNR1 w_RIGHT w_DOWN w_KSND2 w_LEFT w_KSNL3 w_KDC4 w_CENTER w_KEYCODE_CALL w_CALL w_BACK w_KEYCODE_BACK w_HOME w_KEYCODE_HOME w_KM5 w_MUSIC k_ALL h0 n0 O0 HW) hZ (ow hw 4 rfl) (ow hw 3 rfl) (by decide) (by decide)) (g := (mkF m 9 #[iv p0, iv (6 : Int32), un, un, un] [(.int (6 : Int32))])) rfl (by rw [hml]; rfl) (argsL := [(.int (6 : Int32))]) (rest := []) (lenOf pd_0 rfl) rfl (by show 2 * 0 + _ ≤ _; exact Nat.le_of_eq rfl) (hb hby at_9) (fun _ _ => ⟨rfl, e0, (by decide : 0 + 0 ≤ _), (by decide : 0 + 0 ≤ _)⟩)
  dsimp only [Pt.U, Pt.locs, Pt.cells, Pt.slots] at X21 l21 y21 z21 st21 hQ21
  subst l21 y21 z21
  obtain ⟨rfl, N21q, e21⟩ := hQ21
  have N21 := Fr.app N0 N21q
  have r21 : (f1 (6 : Int32) w_KSNU0 w_KSNR1 w_KSND2 w_KSNL3 w_KDC4 w_KEYCODE_CALL w_KEYCODE_BACK w_KEYCODE_HOME w_KM5) = (.ref w_KEYCODE_HOME) := by rw [f1, if_neg ((by decide) : ¬ ((6 : Int32) = (0 : Int32))), if_neg ((by decide) : ¬ ((6 : Int32) = (1 : Int32))), if_neg ((by decide) : ¬ ((6 : Int32) = (2 : Int32))), if_neg ((by decide) : ¬ ((6 : Int32) = (3 : Int32))), if_neg ((by decide) : ¬ ((6 : Int32) = (4 : Int32))), if_neg ((by decide) : ¬ ((6 : Int32) = (5 : Int32))), if_pos ((by decide) : (6 : Int32) = (6 : Int32))] <;> decide
  rw [r21] at st21
  obtain ⟨_, _, ⟨T22, L22, k22, n22⟩, -, X22, ⟨Lc22, hQ22, l22, y22, z22⟩, st22⟩ := Jvm.LawKit.callS X21 hx (y := y2) hown (mvT hZ (ow hw 8 rfl)) (mvT hZ (ow hw 9 rfl)) (mvT hZ (ow hw 3 rfl)) (mvT hZ (ow hw 10 rfl)) (by decide) (backOf (W := 0) (rm2 l Z ar hw [] (6 : Int32) w_KSNU0 w_UP w_ALL w_KSNR1 w_RIGHT w_DOWN w_KSND2 w_LEFT w_KSNL3 w_KDC4 w_CENTER w_KEYCODE_CALL w_CALL w_BACK w_KEYCODE_BACK w_HOME w_KEYCODE_HOME w_KM5 w_MUSIC k_ALL h0 n0 O0 HW) hZ (ow hw 10 rfl) (ow hw 3 rfl) (by decide) (by decide)) (g := (mkF m 14 #[iv p0, iv (6 : Int32), rv w_KEYCODE_HOME, un, un] [(.int (6 : Int32))])) rfl (by rw [hml]; rfl) (argsL := [(.int (6 : Int32))]) (rest := []) (lenOf pd_1 rfl) rfl (by show 2 * 0 + _ ≤ _; exact Nat.le_of_eq rfl) (hb hby at_14) (fun _ _ => ⟨rfl, e21, (by decide : 0 + 0 ≤ _), (by decide : 0 + 0 ≤ _)⟩)
  dsimp only [Pt.U, Pt.locs, Pt.cells, Pt.slots] at X22 l22 y22 z22 st22 hQ22
  subst l22 y22 z22
  obtain ⟨rfl, N22q, e22⟩ := hQ22
  have N22 := Fr.app N21 N22q
  have r22 : (f2 (6 : Int32) w_UP w_RIGHT w_DOWN w_LEFT w_CENTER w_CALL w_BACK w_HOME w_MUSIC) = (.ref w_HOME) := by rw [f2, if_neg ((by decide) : ¬ ((6 : Int32) = (0 : Int32))), if_neg ((by decide) : ¬ ((6 : Int32) = (1 : Int32))), if_neg ((by decide) : ¬ ((6 : Int32) = (2 : Int32))), if_neg ((by decide) : ¬ ((6 : Int32) = (3 : Int32))), if_neg ((by decide) : ¬ ((6 : Int32) = (4 : Int32))), if_neg ((by decide) : ¬ ((6 : Int32) = (5 : Int32))), if_pos ((by decide) : (6 : Int32) = (6 : Int32))] <;> decide
  rw [r22] at st22
  obtain ⟨_, _, ⟨T23, L23, k23, n23⟩, -, X23, ⟨Lc23, hQ23, l23, y23, z23⟩, st23⟩ := Jvm.LawKit.callS X22 hx (y := y3) hown (mvT hZ (ow hw 14 rfl)) (mvT hZ (ow hw 15 rfl)) (mvT hZ (ow hw 12 rfl)) (mvT hZ (ow hw 16 rfl)) (by decide) (backOf (W := 0) (rm3 l Z ar hw [] w_KEYCODE_HOME w_KSNU0 w_UP w_ALL w_KSNR1 w_RIGHT w_DOWN w_KSND2 w_LEFT w_KSNL3 w_KDC4 w_CENTER w_KEYCODE_CALL w_CALL w_BACK w_KEYCODE_BACK w_HOME w_KEYCODE_HOME w_KM5 w_MUSIC k_ALL h0 n0 O0 HW) hZ (ow hw 16 rfl) (ow hw 12 rfl) (by decide) (by decide)) (g := (mkF m 19 #[iv p0, iv (6 : Int32), rv w_KEYCODE_HOME, rv w_HOME, un] [(.ref w_KEYCODE_HOME)])) rfl (by rw [hml]; rfl) (argsL := [(.ref w_KEYCODE_HOME)]) (rest := []) (lenOf pd_2 rfl) rfl (by show 2 * 0 + _ ≤ _; exact Nat.le_of_eq rfl) (hb hby at_19) (fun _ _ => ⟨rfl, e22, (by decide : 0 + 0 ≤ _), (by decide : 0 + 0 ≤ _)⟩)
  dsimp only [Pt.U, Pt.locs, Pt.cells, Pt.slots] at X23 l23 y23 z23 st23 hQ23
  subst l23 y23 z23
  obtain ⟨rfl, N23q, e23⟩ := hQ23
  have N23 := Fr.app N22 N23q
  have r23 : (f3 w_KEYCODE_HOME w_KSNU0 w_UP w_KSNR1 w_RIGHT w_DOWN w_KSND2 w_LEFT w_KSNL3 w_KDC4 w_CENTER w_KEYCODE_CALL w_CALL w_BACK w_KEYCODE_BACK w_HOME w_KEYCODE_HOME w_KM5 w_MUSIC) = (.ref w_HOME) := by rw [f3, if_neg ((Fld.ne F_ordinal_KSNU0 F_ordinal_KEYCODE_HOME (by decide)) : ¬ (w_KSNU0 = w_KEYCODE_HOME)), if_neg ((Fld.ne F_ordinal_KSND2 F_ordinal_KEYCODE_HOME (by decide)) : ¬ (w_KSND2 = w_KEYCODE_HOME)), if_neg ((Fld.ne F_ordinal_KSNL3 F_ordinal_KEYCODE_HOME (by decide)) : ¬ (w_KSNL3 = w_KEYCODE_HOME)), if_neg ((Fld.ne F_ordinal_KSNR1 F_ordinal_KEYCODE_HOME (by decide)) : ¬ (w_KSNR1 = w_KEYCODE_HOME)), if_neg ((Fld.ne F_ordinal_KDC4 F_ordinal_KEYCODE_HOME (by decide)) : ¬ (w_KDC4 = w_KEYCODE_HOME)), if_neg ((Fld.ne F_ordinal_KEYCODE_BACK F_ordinal_KEYCODE_HOME (by decide)) : ¬ (w_KEYCODE_BACK = w_KEYCODE_HOME)), if_pos (rfl : w_KEYCODE_HOME = w_KEYCODE_HOME)] <;> decide
  rw [r23] at st23
  obtain ⟨fs, hr, hrun, hended, hW, hsame⟩ := X23.leave (v := some (.int (1 : Int32))) (fun h => by rw [Bd.returns] at h; cases h)
  subst hS0
  refine ⟨_, _, pre2 _ ?_, hrun, hended, _, _, rfl, ?_, ⟨_, rfl⟩, hW, hsame.mono (by decide) (by decide)⟩
  ·
   refine XS.iloadN X0.here hx rfl (hb hby at_8) rfl ?_
   show AT p e below s₁ m 9 #[iv p0, iv (6 : Int32), un, un, un] [(.int (6 : Int32))] _
   refine st21 _ ?_
   show AT p e below T21 m 12 #[iv p0, iv (6 : Int32), un, un, un] [(.ref w_KEYCODE_HOME)] _
   refine XS.astoreN X21.here hx rfl (hb hby at_12) rfl rfl (l' := #[iv p0, iv (6 : Int32), rv w_KEYCODE_HOME, un, un]) rfl ?_
   show AT p e below T21 m 13 #[iv p0, iv (6 : Int32), rv w_KEYCODE_HOME, un, un] [] _
   refine XS.iloadN X21.here hx rfl (hb hby at_13) rfl ?_
   show AT p e below T21 m 14 #[iv p0, iv (6 : Int32), rv w_KEYCODE_HOME, un, un] [(.int (6 : Int32))] _
   refine st22 _ ?_
   show AT p e below T22 m 17 #[iv p0, iv (6 : Int32), rv w_KEYCODE_HOME, un, un] [(.ref w_HOME)] _
   refine XS.astoreN X22.here hx rfl (hb hby at_17) rfl rfl (l' := #[iv p0, iv (6 : Int32), rv w_KEYCODE_HOME, rv w_HOME, un]) rfl ?_
   show AT p e below T22 m 18 #[iv p0, iv (6 : Int32), rv w_KEYCODE_HOME, rv w_HOME, un] [] _
   refine XS.aloadN X22.here hx rfl (hb hby at_18) rfl rfl ?_
   show AT p e below T22 m 19 #[iv p0, iv (6 : Int32), rv w_KEYCODE_HOME, rv w_HOME, un] [(.ref w_KEYCODE_HOME)] _
   refine st23 _ ?_
   show AT p e below T23 m 22 #[iv p0, iv (6 : Int32), rv w_KEYCODE_HOME, rv w_HOME, un] [(.ref w_HOME)] _
   refine XS.astore X23.here hx rfl (hb hby at_22) rfl rfl (l' := #[iv p0, iv (6 : Int32), rv w_KEYCODE_HOME, rv w_HOME, rv w_HOME]) rfl ?_
   show AT p e below T23 m 24 #[iv p0, iv (6 : Int32), rv w_KEYCODE_HOME, rv w_HOME, rv w_HOME] [] _
   refine XS.aload X23.here hx rfl (hb hby at_24) rfl rfl ?_
   show AT p e below T23 m 26 #[iv p0, iv (6 : Int32), rv w_KEYCODE_HOME, rv w_HOME, rv w_HOME] [(.ref w_HOME)] _
   refine XS.aloadN X23.here hx rfl (hb hby at_26) rfl rfl ?_
   show AT p e below T23 m 27 #[iv p0, iv (6 : Int32), rv w_KEYCODE_HOME, rv w_HOME, rv w_HOME] [(.ref w_HOME), (.ref w_HOME)] _
   refine Jvm.RoadKit.acmp (g := (mkF m 27 #[iv p0, iv (6 : Int32), rv w_KEYCODE_HOME, rv w_HOME, rv w_HOME] [(.ref w_HOME), (.ref w_HOME)])) X23 hx rfl rfl rfl (pc0 := 27) (pc' := 30) (same := true) rfl (hb hby at_27) rfl (decide_eq_true rfl) (by decide) (by decide) ?_
   show AT p e below T23 m 30 #[iv p0, iv (6 : Int32), rv w_KEYCODE_HOME, rv w_HOME, rv w_HOME] [] _
   refine XS.iconst X23.here hx rfl (hb hby at_30) ?_
   show AT p e below T23 m 31 #[iv p0, iv (6 : Int32), rv w_KEYCODE_HOME, rv w_HOME, rv w_HOME] [(.int (1 : Int32))] _
   refine XS.goto X23.here hx rfl (pc0 := 31) (pc' := 35) rfl (hb hby at_31) (by decide) (by decide) ?_
   show AT p e below T23 m 35 #[iv p0, iv (6 : Int32), rv w_KEYCODE_HOME, rv w_HOME, rv w_HOME] [(.int (1 : Int32))] _
   exact retN X23 hx (t := .boolean) Bd.returns (by simp) (hb hby at_35) hr
  ·
   show Q0 Z p0 w_KSNU0 w_UP w_ALL w_KSNR1 w_RIGHT w_DOWN w_KSND2 w_LEFT w_KSNL3 w_KDC4 w_CENTER w_KEYCODE_CALL w_CALL w_BACK w_KEYCODE_BACK w_HOME w_KEYCODE_HOME w_KM5 w_MUSIC k_ALL h0 n0 _ T23.heap _
   rw [e23]
   exact ⟨rfl, N23⟩
 ·
  obtain ⟨_, _, ⟨T24, L24, k24, n24⟩, -, X24, ⟨Lc24, hQ24, l24, y24, z24⟩, st24⟩ := Jvm.LawKit.callS X0 hx (y := y1) hown (mvT hZ (ow hw 1 rfl)) (mvT hZ (ow hw 2 rfl)) (mvT hZ (ow hw 3 rfl)) (mvT hZ (ow hw 4 rfl)) (by decide) (backOf (W := 0) (rm1 l Z ar hw [] (7 : Int32) w_KSNU0 w_UP w_ALL w_KSNR1 w_RIGHT w_DOWN w_KSND2 w_LEFT w_KSNL3 w_KDC4 w_CENTER w_KEYCODE_CALL w_CALL w_BACK w_KEYCODE_BACK w_HOME w_KEYCODE_HOME w_KM5 w_MUSIC k_ALL h0 n0 O0 HW) hZ (ow hw 4 rfl) (ow hw 3 rfl) (by decide) (by decide)) (g := (mkF m 9 #[iv p0, iv (7 : Int32), un, un, un] [(.int (7 : Int32))])) rfl (by rw [hml]; rfl) (argsL := [(.int (7 : Int32))]) (rest := []) (lenOf pd_0 rfl) rfl (by show 2 * 0 + _ ≤ _; exact Nat.le_of_eq rfl) (hb hby at_9) (fun _ _ => ⟨rfl, e0, (by decide : 0 + 0 ≤ _), (by decide : 0 + 0 ≤ _)⟩)
  dsimp only [Pt.U, Pt.locs, Pt.cells, Pt.slots] at X24 l24 y24 z24 st24 hQ24
  subst l24 y24 z24
  obtain ⟨rfl, N24q, e24⟩ := hQ24
  have N24 := Fr.app N0 N24q
  have r24 : (f1 (7 : Int32) w_KSNU0 w_KSNR1 w_KSND2 w_KSNL3 w_KDC4 w_KEYCODE_CALL w_KEYCODE_BACK w_KEYCODE_HOME w_KM5) = (.ref w_KEYCODE_CALL) := by rw [f1, if_neg ((by decide) : ¬ ((7 : Int32) = (0 : Int32))), if_neg ((by decide) : ¬ ((7 : Int32) = (1 : Int32))), if_neg ((by decide) : ¬ ((7 : Int32) = (2 : Int32))), if_neg ((by decide) : ¬ ((7 : Int32) = (3 : Int32))), if_neg ((by decide) : ¬ ((7 : Int32) = (4 : Int32))), if_neg ((by decide) : ¬ ((7 : Int32) = (5 : Int32))), if_neg ((by decide) : ¬ ((7 : Int32) = (6 : Int32))), if_pos ((by decide) : (7 : Int32) = (7 : Int32))] <;> decide
  rw [r24] at st24
  obtain ⟨_, _, ⟨T25, L25, k25, n25⟩, -, X25, ⟨Lc25, hQ25, l25, y25, z25⟩, st25⟩ := Jvm.LawKit.callS X24 hx (y := y2) hown (mvT hZ (ow hw 8 rfl)) (mvT hZ (ow hw 9 rfl)) (mvT hZ (ow hw 3 rfl)) (mvT hZ (ow hw 10 rfl)) (by decide) (backOf (W := 0) (rm2 l Z ar hw [] (7 : Int32) w_KSNU0 w_UP w_ALL w_KSNR1 w_RIGHT w_DOWN w_KSND2 w_LEFT w_KSNL3 w_KDC4 w_CENTER w_KEYCODE_CALL w_CALL w_BACK w_KEYCODE_BACK w_HOME w_KEYCODE_HOME w_KM5 w_MUSIC k_ALL h0 n0 O0 HW) hZ (ow hw 10 rfl) (ow hw 3 rfl) (by decide) (by decide)) (g := (mkF m 14 #[iv p0, iv (7 : Int32), rv w_KEYCODE_CALL, un, un] [(.int (7 : Int32))])) rfl (by rw [hml]; rfl) (argsL := [(.int (7 : Int32))]) (rest := []) (lenOf pd_1 rfl) rfl (by show 2 * 0 + _ ≤ _; exact Nat.le_of_eq rfl) (hb hby at_14) (fun _ _ => ⟨rfl, e24, (by decide : 0 + 0 ≤ _), (by decide : 0 + 0 ≤ _)⟩)
  dsimp only [Pt.U, Pt.locs, Pt.cells, Pt.slots] at X25 l25 y25 z25 st25 hQ25
  subst l25 y25 z25
  obtain ⟨rfl, N25q, e25⟩ := hQ25
  have N25 := Fr.app N24 N25q
  have r25 : (f2 (7 : Int32) w_UP w_RIGHT w_DOWN w_LEFT w_CENTER w_CALL w_BACK w_HOME w_MUSIC) = (.ref w_CALL) := by rw [f2, if_neg ((by decide) : ¬ ((7 : Int32) = (0 : Int32))), if_neg ((by decide) : ¬ ((7 : Int32) = (1 : Int32))), if_neg ((by decide) : ¬ ((7 : Int32) = (2 : Int32))), if_neg ((by decide) : ¬ ((7 : Int32) = (3 : Int32))), if_neg ((by decide) : ¬ ((7 : Int32) = (4 : Int32))), if_neg ((by decide) : ¬ ((7 : Int32) = (5 : Int32))), if_neg ((by decide) : ¬ ((7 : Int32) = (6 : Int32))), if_pos ((by decide) : (7 : Int32) = (7 : Int32))] <;> decide
  rw [r25] at st25
  obtain ⟨_, _, ⟨T26, L26, k26, n26⟩, -, X26, ⟨Lc26, hQ26, l26, y26, z26⟩, st26⟩ := Jvm.LawKit.callS X25 hx (y := y3) hown (mvT hZ (ow hw 14 rfl)) (mvT hZ (ow hw 15 rfl)) (mvT hZ (ow hw 12 rfl)) (mvT hZ (ow hw 16 rfl)) (by decide) (backOf (W := 0) (rm3 l Z ar hw [] w_KEYCODE_CALL w_KSNU0 w_UP w_ALL w_KSNR1 w_RIGHT w_DOWN w_KSND2 w_LEFT w_KSNL3 w_KDC4 w_CENTER w_KEYCODE_CALL w_CALL w_BACK w_KEYCODE_BACK w_HOME w_KEYCODE_HOME w_KM5 w_MUSIC k_ALL h0 n0 O0 HW) hZ (ow hw 16 rfl) (ow hw 12 rfl) (by decide) (by decide)) (g := (mkF m 19 #[iv p0, iv (7 : Int32), rv w_KEYCODE_CALL, rv w_CALL, un] [(.ref w_KEYCODE_CALL)])) rfl (by rw [hml]; rfl) (argsL := [(.ref w_KEYCODE_CALL)]) (rest := []) (lenOf pd_2 rfl) rfl (by show 2 * 0 + _ ≤ _; exact Nat.le_of_eq rfl) (hb hby at_19) (fun _ _ => ⟨rfl, e25, (by decide : 0 + 0 ≤ _), (by decide : 0 + 0 ≤ _)⟩)
  dsimp only [Pt.U, Pt.locs, Pt.cells, Pt.slots] at X26 l26 y26 z26 st26 hQ26
  subst l26 y26 z26
  obtain ⟨rfl, N26q, e26⟩ := hQ26
  have N26 := Fr.app N25 N26q
  have r26 : (f3 w_KEYCODE_CALL w_KSNU0 w_UP w_KSNR1 w_RIGHT w_DOWN w_KSND2 w_LEFT w_KSNL3 w_KDC4 w_CENTER w_KEYCODE_CALL w_CALL w_BACK w_KEYCODE_BACK w_HOME w_KEYCODE_HOME w_KM5 w_MUSIC) = (.ref w_CALL) := by rw [f3, if_neg ((Fld.ne F_ordinal_KSNU0 F_ordinal_KEYCODE_CALL (by decide)) : ¬ (w_KSNU0 = w_KEYCODE_CALL)), if_neg ((Fld.ne F_ordinal_KSND2 F_ordinal_KEYCODE_CALL (by decide)) : ¬ (w_KSND2 = w_KEYCODE_CALL)), if_neg ((Fld.ne F_ordinal_KSNL3 F_ordinal_KEYCODE_CALL (by decide)) : ¬ (w_KSNL3 = w_KEYCODE_CALL)), if_neg ((Fld.ne F_ordinal_KSNR1 F_ordinal_KEYCODE_CALL (by decide)) : ¬ (w_KSNR1 = w_KEYCODE_CALL)), if_neg ((Fld.ne F_ordinal_KDC4 F_ordinal_KEYCODE_CALL (by decide)) : ¬ (w_KDC4 = w_KEYCODE_CALL)), if_neg ((Fld.ne F_ordinal_KEYCODE_BACK F_ordinal_KEYCODE_CALL (by decide)) : ¬ (w_KEYCODE_BACK = w_KEYCODE_CALL)), if_neg ((Fld.ne F_ordinal_KEYCODE_HOME F_ordinal_KEYCODE_CALL (by decide)) : ¬ (w_KEYCODE_HOME = w_KEYCODE_CALL)), if_pos (rfl : w_KEYCODE_CALL = w_KEYCODE_CALL)] <;> decide
  rw [r26] at st26
  obtain ⟨fs, hr, hrun, hended, hW, hsame⟩ := X26.leave (v := some (.int (1 : Int32))) (fun h => by rw [Bd.returns] at h; cases h)
  subst hS0
  refine ⟨_, _, pre2 _ ?_, hrun, hended, _, _, rfl, ?_, ⟨_, rfl⟩, hW, hsame.mono (by decide) (by decide)⟩
  ·
   refine XS.iloadN X0.here hx rfl (hb hby at_8) rfl ?_
   show AT p e below s₁ m 9 #[iv p0, iv (7 : Int32), un, un, un] [(.int (7 : Int32))] _
   refine st24 _ ?_
   show AT p e below T24 m 12 #[iv p0, iv (7 : Int32), un, un, un] [(.ref w_KEYCODE_CALL)] _
   refine XS.astoreN X24.here hx rfl (hb hby at_12) rfl rfl (l' := #[iv p0, iv (7 : Int32), rv w_KEYCODE_CALL, un, un]) rfl ?_
   show AT p e below T24 m 13 #[iv p0, iv (7 : Int32), rv w_KEYCODE_CALL, un, un] [] _
   refine XS.iloadN X24.here hx rfl (hb hby at_13) rfl ?_
   show AT p e below T24 m 14 #[iv p0, iv (7 : Int32), rv w_KEYCODE_CALL, un, un] [(.int (7 : Int32))] _
   refine st25 _ ?_
   show AT p e below T25 m 17 #[iv p0, iv (7 : Int32), rv w_KEYCODE_CALL, un, un] [(.ref w_CALL)] _
   refine XS.astoreN X25.here hx rfl (hb hby at_17) rfl rfl (l' := #[iv p0, iv (7 : Int32), rv w_KEYCODE_CALL, rv w_CALL, un]) rfl ?_
   show AT p e below T25 m 18 #[iv p0, iv (7 : Int32), rv w_KEYCODE_CALL, rv w_CALL, un] [] _
   refine XS.aloadN X25.here hx rfl (hb hby at_18) rfl rfl ?_
   show AT p e below T25 m 19 #[iv p0, iv (7 : Int32), rv w_KEYCODE_CALL, rv w_CALL, un] [(.ref w_KEYCODE_CALL)] _
   refine st26 _ ?_
   show AT p e below T26 m 22 #[iv p0, iv (7 : Int32), rv w_KEYCODE_CALL, rv w_CALL, un] [(.ref w_CALL)] _
   refine XS.astore X26.here hx rfl (hb hby at_22) rfl rfl (l' := #[iv p0, iv (7 : Int32), rv w_KEYCODE_CALL, rv w_CALL, rv w_CALL]) rfl ?_
   show AT p e below T26 m 24 #[iv p0, iv (7 : Int32), rv w_KEYCODE_CALL, rv w_CALL, rv w_CALL] [] _
   refine XS.aload X26.here hx rfl (hb hby at_24) rfl rfl ?_
   show AT p e below T26 m 26 #[iv p0, iv (7 : Int32), rv w_KEYCODE_CALL, rv w_CALL, rv w_CALL] [(.ref w_CALL)] _
   refine XS.aloadN X26.here hx rfl (hb hby at_26) rfl rfl ?_
   show AT p e below T26 m 27 #[iv p0, iv (7 : Int32), rv w_KEYCODE_CALL, rv w_CALL, rv w_CALL] [(.ref w_CALL), (.ref w_CALL)] _
   refine Jvm.RoadKit.acmp (g := (mkF m 27 #[iv p0, iv (7 : Int32), rv w_KEYCODE_CALL, rv w_CALL, rv w_CALL] [(.ref w_CALL), (.ref w_CALL)])) X26 hx rfl rfl rfl (pc0 := 27) (pc' := 30) (same := true) rfl (hb hby at_27) rfl (decide_eq_true rfl) (by decide) (by decide) ?_
   show AT p e below T26 m 30 #[iv p0, iv (7 : Int32), rv w_KEYCODE_CALL, rv w_CALL, rv w_CALL] [] _
   refine XS.iconst X26.here hx rfl (hb hby at_30) ?_
   show AT p e below T26 m 31 #[iv p0, iv (7 : Int32), rv w_KEYCODE_CALL, rv w_CALL, rv w_CALL] [(.int (1 : Int32))] _
   refine XS.goto X26.here hx rfl (pc0 := 31) (pc' := 35) rfl (hb hby at_31) (by decide) (by decide) ?_
   show AT p e below T26 m 35 #[iv p0, iv (7 : Int32), rv w_KEYCODE_CALL, rv w_CALL, rv w_CALL] [(.int (1 : Int32))] _
   exact retN X26 hx (t := .boolean) Bd.returns (by simp) (hb hby at_35) hr
  ·
   show Q0 Z p0 w_KSNU0 w_UP w_ALL w_KSNR1 w_RIGHT w_DOWN w_KSND2 w_LEFT w_KSNL3 w_KDC4 w_CENTER w_KEYCODE_CALL w_CALL w_BACK w_KEYCODE_BACK w_HOME w_KEYCODE_HOME w_KM5 w_MUSIC k_ALL h0 n0 _ T26.heap _
   rw [e26]
   exact ⟨rfl, N26⟩
 ·
  obtain ⟨_, _, ⟨T27, L27, k27, n27⟩, -, X27, ⟨Lc27, hQ27, l27, y27, z27⟩, st27⟩ := Jvm.LawKit.callS X0 hx (y := y1) hown (mvT hZ (ow hw 1 rfl)) (mvT hZ (ow hw 2 rfl)) (mvT hZ (ow hw 3 rfl)) (mvT hZ (ow hw 4 rfl)) (by decide) (backOf (W := 0) (rm1 l Z ar hw [] (8 : Int32) w_KSNU0 w_UP w_ALL w_KSNR1 w_RIGHT w_DOWN w_KSND2 w_LEFT w_KSNL3 w_KDC4 w_CENTER w_KEYCODE_CALL w_CALL w_BACK w_KEYCODE_BACK w_HOME w_KEYCODE_HOME w_KM5 w_MUSIC k_ALL h0 n0 O0 HW) hZ (ow hw 4 rfl) (ow hw 3 rfl) (by decide) (by decide)) (g := (mkF m 9 #[iv p0, iv (8 : Int32), un, un, un] [(.int (8 : Int32))])) rfl (by rw [hml]; rfl) (argsL := [(.int (8 : Int32))]) (rest := []) (lenOf pd_0 rfl) rfl (by show 2 * 0 + _ ≤ _; exact Nat.le_of_eq rfl) (hb hby at_9) (fun _ _ => ⟨rfl, e0, (by decide : 0 + 0 ≤ _), (by decide : 0 + 0 ≤ _)⟩)
  dsimp only [Pt.U, Pt.locs, Pt.cells, Pt.slots] at X27 l27 y27 z27 st27 hQ27
  subst l27 y27 z27
  obtain ⟨rfl, N27q, e27⟩ := hQ27
  have N27 := Fr.app N0 N27q
  have r27 : (f1 (8 : Int32) w_KSNU0 w_KSNR1 w_KSND2 w_KSNL3 w_KDC4 w_KEYCODE_CALL w_KEYCODE_BACK w_KEYCODE_HOME w_KM5) = (.ref w_KM5) := by rw [f1, if_neg ((by decide) : ¬ ((8 : Int32) = (0 : Int32))), if_neg ((by decide) : ¬ ((8 : Int32) = (1 : Int32))), if_neg ((by decide) : ¬ ((8 : Int32) = (2 : Int32))), if_neg ((by decide) : ¬ ((8 : Int32) = (3 : Int32))), if_neg ((by decide) : ¬ ((8 : Int32) = (4 : Int32))), if_neg ((by decide) : ¬ ((8 : Int32) = (5 : Int32))), if_neg ((by decide) : ¬ ((8 : Int32) = (6 : Int32))), if_neg ((by decide) : ¬ ((8 : Int32) = (7 : Int32))), if_pos ((by decide) : (8 : Int32) = (8 : Int32))] <;> decide
  rw [r27] at st27
  obtain ⟨_, _, ⟨T28, L28, k28, n28⟩, -, X28, ⟨Lc28, hQ28, l28, y28, z28⟩, st28⟩ := Jvm.LawKit.callS X27 hx (y := y2) hown (mvT hZ (ow hw 8 rfl)) (mvT hZ (ow hw 9 rfl)) (mvT hZ (ow hw 3 rfl)) (mvT hZ (ow hw 10 rfl)) (by decide) (backOf (W := 0) (rm2 l Z ar hw [] (8 : Int32) w_KSNU0 w_UP w_ALL w_KSNR1 w_RIGHT w_DOWN w_KSND2 w_LEFT w_KSNL3 w_KDC4 w_CENTER w_KEYCODE_CALL w_CALL w_BACK w_KEYCODE_BACK w_HOME w_KEYCODE_HOME w_KM5 w_MUSIC k_ALL h0 n0 O0 HW) hZ (ow hw 10 rfl) (ow hw 3 rfl) (by decide) (by decide)) (g := (mkF m 14 #[iv p0, iv (8 : Int32), rv w_KM5, un, un] [(.int (8 : Int32))])) rfl (by rw [hml]; rfl) (argsL := [(.int (8 : Int32))]) (rest := []) (lenOf pd_1 rfl) rfl (by show 2 * 0 + _ ≤ _; exact Nat.le_of_eq rfl) (hb hby at_14) (fun _ _ => ⟨rfl, e27, (by decide : 0 + 0 ≤ _), (by decide : 0 + 0 ≤ _)⟩)
  dsimp only [Pt.U, Pt.locs, Pt.cells, Pt.slots] at X28 l28 y28 z28 st28 hQ28
  subst l28 y28 z28
  obtain ⟨rfl, N28q, e28⟩ := hQ28
  have N28 := Fr.app N27 N28q
  have r28 : (f2 (8 : Int32) w_UP w_RIGHT w_DOWN w_LEFT w_CENTER w_CALL w_BACK w_HOME w_MUSIC) = (.ref w_MUSIC) := by rw [f2, if_neg ((by decide) : ¬ ((8 : Int32) = (0 : Int32))), if_neg ((by decide) : ¬ ((8 : Int32) = (1 : Int32))), if_neg ((by decide) : ¬ ((8 : Int32) = (2 : Int32))), if_neg ((by decide) : ¬ ((8 : Int32) = (3 : Int32))), if_neg ((by decide) : ¬ ((8 : Int32) = (4 : Int32))), if_neg ((by decide) : ¬ ((8 : Int32) = (5 : Int32))), if_neg ((by decide) : ¬ ((8 : Int32) = (6 : Int32))), if_neg ((by decide) : ¬ ((8 : Int32) = (7 : Int32))), if_pos ((by decide) : (8 : Int32) = (8 : Int32))] <;> decide
  rw [r28] at st28
  obtain ⟨_, _, ⟨T29, L29, k29, n29⟩, -, X29, ⟨Lc29, hQ29, l29, y29, z29⟩, st29⟩ := Jvm.LawKit.callS X28 hx (y := y3) hown (mvT hZ (ow hw 14 rfl)) (mvT hZ (ow hw 15 rfl)) (mvT hZ (ow hw 12 rfl)) (mvT hZ (ow hw 16 rfl)) (by decide) (backOf (W := 0) (rm3 l Z ar hw [] w_KM5 w_KSNU0 w_UP w_ALL w_KSNR1 w_RIGHT w_DOWN w_KSND2 w_LEFT w_KSNL3 w_KDC4 w_CENTER w_KEYCODE_CALL w_CALL w_BACK w_KEYCODE_BACK w_HOME w_KEYCODE_HOME w_KM5 w_MUSIC k_ALL h0 n0 O0 HW) hZ (ow hw 16 rfl) (ow hw 12 rfl) (by decide) (by decide)) (g := (mkF m 19 #[iv p0, iv (8 : Int32), rv w_KM5, rv w_MUSIC, un] [(.ref w_KM5)])) rfl (by rw [hml]; rfl) (argsL := [(.ref w_KM5)]) (rest := []) (lenOf pd_2 rfl) rfl (by show 2 * 0 + _ ≤ _; exact Nat.le_of_eq rfl) (hb hby at_19) (fun _ _ => ⟨rfl, e28, (by decide : 0 + 0 ≤ _), (by decide : 0 + 0 ≤ _)⟩)
  dsimp only [Pt.U, Pt.locs, Pt.cells, Pt.slots] at X29 l29 y29 z29 st29 hQ29
  subst l29 y29 z29
  obtain ⟨rfl, N29q, e29⟩ := hQ29
  have N29 := Fr.app N28 N29q
  have r29 : (f3 w_KM5 w_KSNU0 w_UP w_KSNR1 w_RIGHT w_DOWN w_KSND2 w_LEFT w_KSNL3 w_KDC4 w_CENTER w_KEYCODE_CALL w_CALL w_BACK w_KEYCODE_BACK w_HOME w_KEYCODE_HOME w_KM5 w_MUSIC) = (.ref w_MUSIC) := by rw [f3, if_neg ((Fld.ne F_ordinal_KSNU0 F_ordinal_KM5 (by decide)) : ¬ (w_KSNU0 = w_KM5)), if_neg ((Fld.ne F_ordinal_KSND2 F_ordinal_KM5 (by decide)) : ¬ (w_KSND2 = w_KM5)), if_neg ((Fld.ne F_ordinal_KSNL3 F_ordinal_KM5 (by decide)) : ¬ (w_KSNL3 = w_KM5)), if_neg ((Fld.ne F_ordinal_KSNR1 F_ordinal_KM5 (by decide)) : ¬ (w_KSNR1 = w_KM5)), if_neg ((Fld.ne F_ordinal_KDC4 F_ordinal_KM5 (by decide)) : ¬ (w_KDC4 = w_KM5)), if_neg ((Fld.ne F_ordinal_KEYCODE_BACK F_ordinal_KM5 (by decide)) : ¬ (w_KEYCODE_BACK = w_KM5)), if_neg ((Fld.ne F_ordinal_KEYCODE_HOME F_ordinal_KM5 (by decide)) : ¬ (w_KEYCODE_HOME = w_KM5)), if_neg ((Fld.ne F_ordinal_KEYCODE_CALL F_ordinal_KM5 (by decide)) : ¬ (w_KEYCODE_CALL = w_KM5)), if_pos (rfl : w_KM5 = w_KM5)] <;> decide
  rw [r29] at st29
  obtain ⟨fs, hr, hrun, hended, hW, hsame⟩ := X29.leave (v := some (.int (1 : Int32))) (fun h => by rw [Bd.returns] at h; cases h)
  subst hS0
  refine ⟨_, _, pre2 _ ?_, hrun, hended, _, _, rfl, ?_, ⟨_, rfl⟩, hW, hsame.mono (by decide) (by decide)⟩
  ·
   refine XS.iloadN X0.here hx rfl (hb hby at_8) rfl ?_
   show AT p e below s₁ m 9 #[iv p0, iv (8 : Int32), un, un, un] [(.int (8 : Int32))] _
   refine st27 _ ?_
   show AT p e below T27 m 12 #[iv p0, iv (8 : Int32), un, un, un] [(.ref w_KM5)] _
   refine XS.astoreN X27.here hx rfl (hb hby at_12) rfl rfl (l' := #[iv p0, iv (8 : Int32), rv w_KM5, un, un]) rfl ?_
   show AT p e below T27 m 13 #[iv p0, iv (8 : Int32), rv w_KM5, un, un] [] _
   refine XS.iloadN X27.here hx rfl (hb hby at_13) rfl ?_
   show AT p e below T27 m 14 #[iv p0, iv (8 : Int32), rv w_KM5, un, un] [(.int (8 : Int32))] _
   refine st28 _ ?_
   show AT p e below T28 m 17 #[iv p0, iv (8 : Int32), rv w_KM5, un, un] [(.ref w_MUSIC)] _
   refine XS.astoreN X28.here hx rfl (hb hby at_17) rfl rfl (l' := #[iv p0, iv (8 : Int32), rv w_KM5, rv w_MUSIC, un]) rfl ?_
   show AT p e below T28 m 18 #[iv p0, iv (8 : Int32), rv w_KM5, rv w_MUSIC, un] [] _
   refine XS.aloadN X28.here hx rfl (hb hby at_18) rfl rfl ?_
   show AT p e below T28 m 19 #[iv p0, iv (8 : Int32), rv w_KM5, rv w_MUSIC, un] [(.ref w_KM5)] _
   refine st29 _ ?_
   show AT p e below T29 m 22 #[iv p0, iv (8 : Int32), rv w_KM5, rv w_MUSIC, un] [(.ref w_MUSIC)] _
   refine XS.astore X29.here hx rfl (hb hby at_22) rfl rfl (l' := #[iv p0, iv (8 : Int32), rv w_KM5, rv w_MUSIC, rv w_MUSIC]) rfl ?_
   show AT p e below T29 m 24 #[iv p0, iv (8 : Int32), rv w_KM5, rv w_MUSIC, rv w_MUSIC] [] _
   refine XS.aload X29.here hx rfl (hb hby at_24) rfl rfl ?_
   show AT p e below T29 m 26 #[iv p0, iv (8 : Int32), rv w_KM5, rv w_MUSIC, rv w_MUSIC] [(.ref w_MUSIC)] _
   refine XS.aloadN X29.here hx rfl (hb hby at_26) rfl rfl ?_
   show AT p e below T29 m 27 #[iv p0, iv (8 : Int32), rv w_KM5, rv w_MUSIC, rv w_MUSIC] [(.ref w_MUSIC), (.ref w_MUSIC)] _
   refine Jvm.RoadKit.acmp (g := (mkF m 27 #[iv p0, iv (8 : Int32), rv w_KM5, rv w_MUSIC, rv w_MUSIC] [(.ref w_MUSIC), (.ref w_MUSIC)])) X29 hx rfl rfl rfl (pc0 := 27) (pc' := 30) (same := true) rfl (hb hby at_27) rfl (decide_eq_true rfl) (by decide) (by decide) ?_
   show AT p e below T29 m 30 #[iv p0, iv (8 : Int32), rv w_KM5, rv w_MUSIC, rv w_MUSIC] [] _
   refine XS.iconst X29.here hx rfl (hb hby at_30) ?_
   show AT p e below T29 m 31 #[iv p0, iv (8 : Int32), rv w_KM5, rv w_MUSIC, rv w_MUSIC] [(.int (1 : Int32))] _
   refine XS.goto X29.here hx rfl (pc0 := 31) (pc' := 35) rfl (hb hby at_31) (by decide) (by decide) ?_
   show AT p e below T29 m 35 #[iv p0, iv (8 : Int32), rv w_KM5, rv w_MUSIC, rv w_MUSIC] [(.int (1 : Int32))] _
   exact retN X29 hx (t := .boolean) Bd.returns (by simp) (hb hby at_35) hr
  ·
   show Q0 Z p0 w_KSNU0 w_UP w_ALL w_KSNR1 w_RIGHT w_DOWN w_KSND2 w_LEFT w_KSNL3 w_KDC4 w_CENTER w_KEYCODE_CALL w_CALL w_BACK w_KEYCODE_BACK w_HOME w_KEYCODE_HOME w_KM5 w_MUSIC k_ALL h0 n0 _ T29.heap _
   rw [e29]
   exact ⟨rfl, N29⟩
 ·
  obtain ⟨_, _, ⟨T30, L30, k30, n30⟩, -, X30, ⟨Lc30, hQ30, l30, y30, z30⟩, st30⟩ := Jvm.LawKit.callS X0 hx (y := y1) hown (mvT hZ (ow hw 1 rfl)) (mvT hZ (ow hw 2 rfl)) (mvT hZ (ow hw 3 rfl)) (mvT hZ (ow hw 4 rfl)) (by decide) (backOf (W := 0) (rm1 l Z ar hw [] (9 : Int32) w_KSNU0 w_UP w_ALL w_KSNR1 w_RIGHT w_DOWN w_KSND2 w_LEFT w_KSNL3 w_KDC4 w_CENTER w_KEYCODE_CALL w_CALL w_BACK w_KEYCODE_BACK w_HOME w_KEYCODE_HOME w_KM5 w_MUSIC k_ALL h0 n0 O0 HW) hZ (ow hw 4 rfl) (ow hw 3 rfl) (by decide) (by decide)) (g := (mkF m 9 #[iv p0, iv (9 : Int32), un, un, un] [(.int (9 : Int32))])) rfl (by rw [hml]; rfl) (argsL := [(.int (9 : Int32))]) (rest := []) (lenOf pd_0 rfl) rfl (by show 2 * 0 + _ ≤ _; exact Nat.le_of_eq rfl) (hb hby at_9) (fun _ _ => ⟨rfl, e0, (by decide : 0 + 0 ≤ _), (by decide : 0 + 0 ≤ _)⟩)
  dsimp only [Pt.U, Pt.locs, Pt.cells, Pt.slots] at X30 l30 y30 z30 st30 hQ30
  subst l30 y30 z30
  obtain ⟨rfl, N30q, e30⟩ := hQ30
  have N30 := Fr.app N0 N30q
  have r30 : (f1 (9 : Int32) w_KSNU0 w_KSNR1 w_KSND2 w_KSNL3 w_KDC4 w_KEYCODE_CALL w_KEYCODE_BACK w_KEYCODE_HOME w_KM5) = .null := by rw [f1, if_neg ((by decide) : ¬ ((9 : Int32) = (0 : Int32))), if_neg ((by decide) : ¬ ((9 : Int32) = (1 : Int32))), if_neg ((by decide) : ¬ ((9 : Int32) = (2 : Int32))), if_neg ((by decide) : ¬ ((9 : Int32) = (3 : Int32))), if_neg ((by decide) : ¬ ((9 : Int32) = (4 : Int32))), if_neg ((by decide) : ¬ ((9 : Int32) = (5 : Int32))), if_neg ((by decide) : ¬ ((9 : Int32) = (6 : Int32))), if_neg ((by decide) : ¬ ((9 : Int32) = (7 : Int32))), if_neg ((by decide) : ¬ ((9 : Int32) = (8 : Int32)))] <;> decide
  rw [r30] at st30
  obtain ⟨_, _, ⟨T31, L31, k31, n31⟩, -, X31, ⟨Lc31, hQ31, l31, y31, z31⟩, st31⟩ := Jvm.LawKit.callS X30 hx (y := y2) hown (mvT hZ (ow hw 8 rfl)) (mvT hZ (ow hw 9 rfl)) (mvT hZ (ow hw 3 rfl)) (mvT hZ (ow hw 10 rfl)) (by decide) (backOf (W := 0) (rm2 l Z ar hw [] (9 : Int32) w_KSNU0 w_UP w_ALL w_KSNR1 w_RIGHT w_DOWN w_KSND2 w_LEFT w_KSNL3 w_KDC4 w_CENTER w_KEYCODE_CALL w_CALL w_BACK w_KEYCODE_BACK w_HOME w_KEYCODE_HOME w_KM5 w_MUSIC k_ALL h0 n0 O0 HW) hZ (ow hw 10 rfl) (ow hw 3 rfl) (by decide) (by decide)) (g := (mkF m 14 #[iv p0, iv (9 : Int32), .val .null, un, un] [(.int (9 : Int32))])) rfl (by rw [hml]; rfl) (argsL := [(.int (9 : Int32))]) (rest := []) (lenOf pd_1 rfl) rfl (by show 2 * 0 + _ ≤ _; exact Nat.le_of_eq rfl) (hb hby at_14) (fun _ _ => ⟨rfl, e30, (by decide : 0 + 0 ≤ _), (by decide : 0 + 0 ≤ _)⟩)
  dsimp only [Pt.U, Pt.locs, Pt.cells, Pt.slots] at X31 l31 y31 z31 st31 hQ31
  subst l31 y31 z31
  obtain ⟨rfl, N31q, e31⟩ := hQ31
  have N31 := Fr.app N30 N31q
  have r31 : (f2 (9 : Int32) w_UP w_RIGHT w_DOWN w_LEFT w_CENTER w_CALL w_BACK w_HOME w_MUSIC) = .null := by rw [f2, if_neg ((by decide) : ¬ ((9 : Int32) = (0 : Int32))), if_neg ((by decide) : ¬ ((9 : Int32) = (1 : Int32))), if_neg ((by decide) : ¬ ((9 : Int32) = (2 : Int32))), if_neg ((by decide) : ¬ ((9 : Int32) = (3 : Int32))), if_neg ((by decide) : ¬ ((9 : Int32) = (4 : Int32))), if_neg ((by decide) : ¬ ((9 : Int32) = (5 : Int32))), if_neg ((by decide) : ¬ ((9 : Int32) = (6 : Int32))), if_neg ((by decide) : ¬ ((9 : Int32) = (7 : Int32))), if_neg ((by decide) : ¬ ((9 : Int32) = (8 : Int32)))] <;> decide
  rw [r31] at st31
  obtain ⟨_, _, ⟨T32, L32, k32, n32⟩, -, X32, ⟨Lc32, hQ32, l32, y32, z32⟩, st32⟩ := Jvm.LawKit.callS X31 hx (y := y3) hown (mvT hZ (ow hw 14 rfl)) (mvT hZ (ow hw 15 rfl)) (mvT hZ (ow hw 12 rfl)) (mvT hZ (ow hw 16 rfl)) (by decide) (backOf (W := 0) (rm3n l Z ar hw [] w_KSNU0 w_UP w_ALL w_KSNR1 w_RIGHT w_DOWN w_KSND2 w_LEFT w_KSNL3 w_KDC4 w_CENTER w_KEYCODE_CALL w_CALL w_BACK w_KEYCODE_BACK w_HOME w_KEYCODE_HOME w_KM5 w_MUSIC k_ALL h0 n0 O0 HW) hZ (ow hw 16 rfl) (ow hw 12 rfl) (by decide) (by decide)) (g := (mkF m 19 #[iv p0, iv (9 : Int32), .val .null, .val .null, un] [.null])) rfl (by rw [hml]; rfl) (argsL := [.null]) (rest := []) (lenOf pd_2 rfl) rfl (by show 2 * 0 + _ ≤ _; exact Nat.le_of_eq rfl) (hb hby at_19) (fun _ _ => ⟨rfl, e31, (by decide : 0 + 0 ≤ _), (by decide : 0 + 0 ≤ _)⟩)
  dsimp only [Pt.U, Pt.locs, Pt.cells, Pt.slots] at X32 l32 y32 z32 st32 hQ32
  subst l32 y32 z32
  obtain ⟨rfl, N32q, e32⟩ := hQ32
  have N32 := Fr.app N31 N32q
  have r32 : f3n = .null := by rw [f3n] <;> decide
  rw [r32] at st32
  obtain ⟨fs, hr, hrun, hended, hW, hsame⟩ := X32.leave (v := some (.int (1 : Int32))) (fun h => by rw [Bd.returns] at h; cases h)
  subst hS0
  refine ⟨_, _, pre2 _ ?_, hrun, hended, _, _, rfl, ?_, ⟨_, rfl⟩, hW, hsame.mono (by decide) (by decide)⟩
  ·
   refine XS.iloadN X0.here hx rfl (hb hby at_8) rfl ?_
   show AT p e below s₁ m 9 #[iv p0, iv (9 : Int32), un, un, un] [(.int (9 : Int32))] _
   refine st30 _ ?_
   show AT p e below T30 m 12 #[iv p0, iv (9 : Int32), un, un, un] [.null] _
   refine XS.astoreN X30.here hx rfl (hb hby at_12) rfl rfl (l' := #[iv p0, iv (9 : Int32), .val .null, un, un]) rfl ?_
   show AT p e below T30 m 13 #[iv p0, iv (9 : Int32), .val .null, un, un] [] _
   refine XS.iloadN X30.here hx rfl (hb hby at_13) rfl ?_
   show AT p e below T30 m 14 #[iv p0, iv (9 : Int32), .val .null, un, un] [(.int (9 : Int32))] _
   refine st31 _ ?_
   show AT p e below T31 m 17 #[iv p0, iv (9 : Int32), .val .null, un, un] [.null] _
   refine XS.astoreN X31.here hx rfl (hb hby at_17) rfl rfl (l' := #[iv p0, iv (9 : Int32), .val .null, .val .null, un]) rfl ?_
   show AT p e below T31 m 18 #[iv p0, iv (9 : Int32), .val .null, .val .null, un] [] _
   refine XS.aloadN X31.here hx rfl (hb hby at_18) rfl rfl ?_
   show AT p e below T31 m 19 #[iv p0, iv (9 : Int32), .val .null, .val .null, un] [.null] _
   refine st32 _ ?_
   show AT p e below T32 m 22 #[iv p0, iv (9 : Int32), .val .null, .val .null, un] [.null] _
   refine XS.astore X32.here hx rfl (hb hby at_22) rfl rfl (l' := #[iv p0, iv (9 : Int32), .val .null, .val .null, .val .null]) rfl ?_
   show AT p e below T32 m 24 #[iv p0, iv (9 : Int32), .val .null, .val .null, .val .null] [] _
   refine XS.aload X32.here hx rfl (hb hby at_24) rfl rfl ?_
   show AT p e below T32 m 26 #[iv p0, iv (9 : Int32), .val .null, .val .null, .val .null] [.null] _
   refine XS.aloadN X32.here hx rfl (hb hby at_26) rfl rfl ?_
   show AT p e below T32 m 27 #[iv p0, iv (9 : Int32), .val .null, .val .null, .val .null] [.null, .null] _
   refine Jvm.RoadKit.acmp (g := (mkF m 27 #[iv p0, iv (9 : Int32), .val .null, .val .null, .val .null] [.null, .null])) X32 hx rfl rfl rfl (pc0 := 27) (pc' := 30) (same := true) rfl (hb hby at_27) rfl (decide_eq_true rfl) (by decide) (by decide) ?_
   show AT p e below T32 m 30 #[iv p0, iv (9 : Int32), .val .null, .val .null, .val .null] [] _
   refine XS.iconst X32.here hx rfl (hb hby at_30) ?_
   show AT p e below T32 m 31 #[iv p0, iv (9 : Int32), .val .null, .val .null, .val .null] [(.int (1 : Int32))] _
   refine XS.goto X32.here hx rfl (pc0 := 31) (pc' := 35) rfl (hb hby at_31) (by decide) (by decide) ?_
   show AT p e below T32 m 35 #[iv p0, iv (9 : Int32), .val .null, .val .null, .val .null] [(.int (1 : Int32))] _
   exact retN X32 hx (t := .boolean) Bd.returns (by simp) (hb hby at_35) hr
  ·
   show Q0 Z p0 w_KSNU0 w_UP w_ALL w_KSNR1 w_RIGHT w_DOWN w_KSND2 w_LEFT w_KSNL3 w_KDC4 w_CENTER w_KEYCODE_CALL w_CALL w_BACK w_KEYCODE_BACK w_HOME w_KEYCODE_HOME w_KM5 w_MUSIC k_ALL h0 n0 _ T32.heap _
   rw [e32]
   exact ⟨rfl, N32⟩

set_option maxRecDepth 65536 in
set_option maxHeartbeats 40000000 in
theorem comes_1 {Post : Tables → Env → Array Value → State → Outcome → State → Prop} (hpost : ∀ tb e args s v u, (limb_1_1.after args s (.returned v) u = true ∧ limb_1_2.after args s (.returned v) u = true ∧ True) → FrameEnd s (.returned v) u (Jvm.fieldLocs frame_1_writes args s ++ Jvm.arrayLocs frame_1_arrays args s ++ Jvm.staticLocs frame_1_statics s) 0 0 → Post tb e args s (.returned v) u) :
    ArmFor flags0 classFile x code maxLocals ret World_1 tables_1 room_1 Calls_1 rest_1 Pre_1 Post := by
  intro l hfl _ _ p e ha hc hk s m args below hf hA hF happ hP
  obtain ⟨hcalls, hrest, hpre⟩ := hP
  obtain ⟨-, -, -, hnamed, -, -, -, hat⟩ := (Spec.applies_iff hf).mp happ
  obtain ⟨hg, hn⟩ := and_e (Cond.before_iff.mp (show (Jvm.Cond.and given_1 narrow_1).before args s = true from hpre))
  obtain ⟨hg1, hg2⟩ := and_e hg
  obtain ⟨w0, rfl⟩ : ∃ w0 : Value, args = #[w0] := by
    have hs : args.size = 1 := by simpa [Cond.value, given_1] using hg1
    obtain ⟨L⟩ := args
    match L, hs with
    | [w0], _ => exact ⟨w0, rfl⟩
  have hw := fun d (hd : d ∈ tables_1) => atoms_spec (ws := Jvm.Cond.code x code maxLocals ret :: tables_1) hat d (List.mem_cons_of_mem _ hd)
  have hfit : Fit s := fun {y c} hc i hi => by
    obtain ⟨ha, rfl⟩ := Array.getElem?_eq_some_iff.mp hc
    have q := List.all_eq_true.mp ((Array.all_eq_true_iff_forall_mem.mp hF) _ (Array.getElem_mem ha)) i (List.mem_range.mpr hi)
    simpa [Array.getElem?_eq_getElem hi] using q
  obtain ⟨i0, ei0⟩ := is_v hg2
  obtain rfl : w0 = (.int i0) := Option.some.inj ei0
  obtain ⟨hn1, hn2⟩ := and_e hn
  obtain ⟨hn21, hn22⟩ := and_e hn2
  obtain ⟨hn221, hn222⟩ := and_e hn22
  obtain ⟨hn2221, hn2222⟩ := and_e hn222
  obtain ⟨hn22221, hn22222⟩ := and_e hn2222
  obtain ⟨hn222221, hn222222⟩ := and_e hn22222
  obtain ⟨hn2222221, hn2222222⟩ := and_e hn222222
  obtain ⟨hn22222221, hn22222222⟩ := and_e hn2222222
  obtain ⟨hn222222221, hn222222222⟩ := and_e hn22222222
  obtain ⟨hn2222222221, hn2222222222⟩ := and_e hn222222222
  obtain ⟨hn22222222221, hn22222222222⟩ := and_e hn2222222222
  obtain ⟨hn222222222221, hn222222222222⟩ := and_e hn22222222222
  obtain ⟨hn2222222222221, hn2222222222222⟩ := and_e hn222222222222
  obtain ⟨hn22222222222221, hn22222222222222⟩ := and_e hn2222222222222
  obtain ⟨hn222222222222221, hn222222222222222⟩ := and_e hn22222222222222
  obtain ⟨hn2222222222222221, hn2222222222222222⟩ := and_e hn222222222222222
  obtain ⟨hn22222222222222221, hn22222222222222222⟩ := and_e hn2222222222222222
  obtain ⟨hn222222222222222221, hn222222222222222222⟩ := and_e hn22222222222222222
  obtain ⟨hn2222222222222222221, hn2222222222222222222⟩ := and_e hn222222222222222222
  obtain ⟨hn22222222222222222221, hn22222222222222222222⟩ := and_e hn2222222222222222222
  obtain ⟨hn222222222222222222221, hn222222222222222222222⟩ := and_e hn22222222222222222222
  obtain ⟨hn2222222222222222222221, hn2222222222222222222222⟩ := and_e hn222222222222222222222
  obtain ⟨hn22222222222222222222221, hn22222222222222222222222⟩ := and_e hn2222222222222222222222
  obtain ⟨hn222222222222222222222221, hn222222222222222222222222⟩ := and_e hn22222222222222222222222
  obtain ⟨hn2222222222222222222222221, hn2222222222222222222222222⟩ := and_e hn222222222222222222222222
  obtain ⟨hn22222222222222222222222221, hn22222222222222222222222222⟩ := and_e hn2222222222222222222222222
  obtain ⟨hn222222222222222222222222221, hn222222222222222222222222222⟩ := and_e hn22222222222222222222222222
  obtain ⟨hn2222222222222222222222222221, hn2222222222222222222222222222⟩ := and_e hn222222222222222222222222222
  obtain ⟨hn22222222222222222222222222221, hn22222222222222222222222222222⟩ := and_e hn2222222222222222222222222222
  obtain ⟨hn222222222222222222222222222221, hn222222222222222222222222222222⟩ := and_e hn22222222222222222222222222222
  obtain ⟨hn2222222222222222222222222222221, hn2222222222222222222222222222222⟩ := and_e hn222222222222222222222222222222
  obtain ⟨hn22222222222222222222222222222221, hn22222222222222222222222222222222⟩ := and_e hn2222222222222222222222222222222
  obtain ⟨hn222222222222222222222222222222221, hn222222222222222222222222222222222⟩ := and_e hn22222222222222222222222222222222
  obtain ⟨hn2222222222222222222222222222222221, hn2222222222222222222222222222222222⟩ := and_e hn222222222222222222222222222222222
  obtain ⟨hn22222222222222222222222222222222221, hn22222222222222222222222222222222222⟩ := and_e hn2222222222222222222222222222222222
  obtain ⟨hn222222222222222222222222222222222221, hn222222222222222222222222222222222222⟩ := and_e hn22222222222222222222222222222222222
  obtain ⟨hn2222222222222222222222222222222222221, hn2222222222222222222222222222222222222⟩ := and_e hn222222222222222222222222222222222222
  obtain ⟨hn22222222222222222222222222222222222221, hn22222222222222222222222222222222222222⟩ := and_e hn2222222222222222222222222222222222222
  obtain ⟨hn222222222222222222222222222222222222221, hn222222222222222222222222222222222222222⟩ := and_e hn22222222222222222222222222222222222222
  obtain ⟨hn2222222222222222222222222222222222222221, hn2222222222222222222222222222222222222222⟩ := and_e hn222222222222222222222222222222222222222
  obtain ⟨hn22222222222222222222222222222222222222221, hn22222222222222222222222222222222222222222⟩ := and_e hn2222222222222222222222222222222222222222
  obtain ⟨hn222222222222222222222222222222222222222221, hn222222222222222222222222222222222222222222⟩ := and_e hn22222222222222222222222222222222222222222
  obtain ⟨hn2222222222222222222222222222222222222222221, hn2222222222222222222222222222222222222222222⟩ := and_e hn222222222222222222222222222222222222222222
  obtain ⟨hn22222222222222222222222222222222222222222221, hn22222222222222222222222222222222222222222222⟩ := and_e hn2222222222222222222222222222222222222222222
  obtain ⟨hn222222222222222222222222222222222222222222221, hn222222222222222222222222222222222222222222222⟩ := and_e hn22222222222222222222222222222222222222222222
  obtain ⟨hn2222222222222222222222222222222222222222222221, hn2222222222222222222222222222222222222222222222⟩ := and_e hn222222222222222222222222222222222222222222222
  obtain ⟨w_KSNU0, ev_w_KSNU0⟩ := exa_v hn1
  have S_KEYCODE_SYSTEM_NAVIGATION_UP : Sta s s.heap "com/example/nudge_knob/nudgeknob/KeyCode" "KEYCODE_SYSTEM_NAVIGATION_UP" "Lcom/example/nudge_knob/nudgeknob/KeyCode;" (.ref w_KSNU0) := Sta.start ev_w_KSNU0 (Or.inr ⟨(ow hw 6 rfl), (ow hw 7 rfl)⟩)
  have E_KSNU0 : Exa s s.heap w_KSNU0 "com/example/nudge_knob/nudgeknob/KeyCode" := Exa.start ev_w_KSNU0 hn1
  obtain ⟨w_UP, ev_w_UP⟩ := exa_v hn21
  have S_UP : Sta s s.heap "com/example/nudge_knob/nudgeknob/Button" "UP" "Lcom/example/nudge_knob/nudgeknob/Button;" (.ref w_UP) := Sta.start ev_w_UP (Or.inr ⟨(ow hw 12 rfl), (ow hw 13 rfl)⟩)
  have E_UP : Exa s s.heap w_UP "com/example/nudge_knob/nudgeknob/Button" := Exa.start ev_w_UP hn21
  obtain ⟨w_ALL, ev_w_ALL⟩ := arr_v hn221
  have S_ALL : Sta s s.heap "com/example/nudge_knob/nudgeknob/Button" "ALL" "[Lcom/example/nudge_knob/nudgeknob/Button;" (.ref w_ALL) := Sta.start ev_w_ALL (Or.inr ⟨(ow hw 12 rfl), (ow hw 18 rfl)⟩)
  obtain ⟨w_KSNR1, ev_w_KSNR1⟩ := exa_v hn2222221
  have S_KEYCODE_SYSTEM_NAVIGATION_RIGHT : Sta s s.heap "com/example/nudge_knob/nudgeknob/KeyCode" "KEYCODE_SYSTEM_NAVIGATION_RIGHT" "Lcom/example/nudge_knob/nudgeknob/KeyCode;" (.ref w_KSNR1) := Sta.start ev_w_KSNR1 (Or.inr ⟨(ow hw 6 rfl), (ow hw 22 rfl)⟩)
  have E_KSNR1 : Exa s s.heap w_KSNR1 "com/example/nudge_knob/nudgeknob/KeyCode" := Exa.start ev_w_KSNR1 hn2222221
  obtain ⟨w_RIGHT, ev_w_RIGHT⟩ := exa_v hn22222221
  have S_RIGHT : Sta s s.heap "com/example/nudge_knob/nudgeknob/Button" "RIGHT" "Lcom/example/nudge_knob/nudgeknob/Button;" (.ref w_RIGHT) := Sta.start ev_w_RIGHT (Or.inr ⟨(ow hw 12 rfl), (ow hw 24 rfl)⟩)
  have E_RIGHT : Exa s s.heap w_RIGHT "com/example/nudge_knob/nudgeknob/Button" := Exa.start ev_w_RIGHT hn22222221
  have evhn222222221 := own_eqInt hn222222221
  have F_ordinal_KSNU0 : Fld s s.heap w_KSNU0 "java/lang/Enum" "ordinal" "I" (.int (0 : Int32)) := Fld.start ((fld_at ev_w_KSNU0).symm.trans evhn222222221)
  have evhn2222222221 := own_eqInt hn2222222221
  have F_ordinal_KSNR1 : Fld s s.heap w_KSNR1 "java/lang/Enum" "ordinal" "I" (.int (3 : Int32)) := Fld.start ((fld_at ev_w_KSNR1).symm.trans evhn2222222221)
  obtain ⟨w_DOWN, ev_w_DOWN⟩ := exa_v hn22222222221
  have S_DOWN : Sta s s.heap "com/example/nudge_knob/nudgeknob/Button" "DOWN" "Lcom/example/nudge_knob/nudgeknob/Button;" (.ref w_DOWN) := Sta.start ev_w_DOWN (Or.inr ⟨(ow hw 12 rfl), (ow hw 25 rfl)⟩)
  have E_DOWN : Exa s s.heap w_DOWN "com/example/nudge_knob/nudgeknob/Button" := Exa.start ev_w_DOWN hn22222222221
  obtain ⟨w_KSND2, ev_w_KSND2⟩ := exa_v hn2222222222221
  have S_KEYCODE_SYSTEM_NAVIGATION_DOWN : Sta s s.heap "com/example/nudge_knob/nudgeknob/KeyCode" "KEYCODE_SYSTEM_NAVIGATION_DOWN" "Lcom/example/nudge_knob/nudgeknob/KeyCode;" (.ref w_KSND2) := Sta.start ev_w_KSND2 (Or.inr ⟨(ow hw 6 rfl), (ow hw 26 rfl)⟩)
  have E_KSND2 : Exa s s.heap w_KSND2 "com/example/nudge_knob/nudgeknob/KeyCode" := Exa.start ev_w_KSND2 hn2222222222221
  have evhn222222222222221 := own_eqInt hn222222222222221
  have F_ordinal_KSND2 : Fld s s.heap w_KSND2 "java/lang/Enum" "ordinal" "I" (.int (1 : Int32)) := Fld.start ((fld_at ev_w_KSND2).symm.trans evhn222222222222221)
  obtain ⟨w_LEFT, ev_w_LEFT⟩ := exa_v hn2222222222222221
  have S_LEFT : Sta s s.heap "com/example/nudge_knob/nudgeknob/Button" "LEFT" "Lcom/example/nudge_knob/nudgeknob/Button;" (.ref w_LEFT) := Sta.start ev_w_LEFT (Or.inr ⟨(ow hw 12 rfl), (ow hw 27 rfl)⟩)
  have E_LEFT : Exa s s.heap w_LEFT "com/example/nudge_knob/nudgeknob/Button" := Exa.start ev_w_LEFT hn2222222222222221
  obtain ⟨w_KSNL3, ev_w_KSNL3⟩ := exa_v hn222222222222222221
  have S_KEYCODE_SYSTEM_NAVIGATION_LEFT : Sta s s.heap "com/example/nudge_knob/nudgeknob/KeyCode" "KEYCODE_SYSTEM_NAVIGATION_LEFT" "Lcom/example/nudge_knob/nudgeknob/KeyCode;" (.ref w_KSNL3) := Sta.start ev_w_KSNL3 (Or.inr ⟨(ow hw 6 rfl), (ow hw 28 rfl)⟩)
  have E_KSNL3 : Exa s s.heap w_KSNL3 "com/example/nudge_knob/nudgeknob/KeyCode" := Exa.start ev_w_KSNL3 hn222222222222222221
  have evhn22222222222222222221 := own_eqInt hn22222222222222222221
  have F_ordinal_KSNL3 : Fld s s.heap w_KSNL3 "java/lang/Enum" "ordinal" "I" (.int (2 : Int32)) := Fld.start ((fld_at ev_w_KSNL3).symm.trans evhn22222222222222222221)
  obtain ⟨w_KDC4, ev_w_KDC4⟩ := exa_v hn22222222222222222222221
  have S_KEYCODE_DPAD_CENTER : Sta s s.heap "com/example/nudge_knob/nudgeknob/KeyCode" "KEYCODE_DPAD_CENTER" "Lcom/example/nudge_knob/nudgeknob/KeyCode;" (.ref w_KDC4) := Sta.start ev_w_KDC4 (Or.inr ⟨(ow hw 6 rfl), (ow hw 32 rfl)⟩)
  have E_KDC4 : Exa s s.heap w_KDC4 "com/example/nudge_knob/nudgeknob/KeyCode" := Exa.start ev_w_KDC4 hn22222222222222222222221
  obtain ⟨w_CENTER, ev_w_CENTER⟩ := exa_v hn222222222222222222222221
  have S_CENTER : Sta s s.heap "com/example/nudge_knob/nudgeknob/Button" "CENTER" "Lcom/example/nudge_knob/nudgeknob/Button;" (.ref w_CENTER) := Sta.start ev_w_CENTER (Or.inr ⟨(ow hw 12 rfl), (ow hw 34 rfl)⟩)
  have E_CENTER : Exa s s.heap w_CENTER "com/example/nudge_knob/nudgeknob/Button" := Exa.start ev_w_CENTER hn222222222222222222222221
  have evhn2222222222222222222222221 := own_eqInt hn2222222222222222222222221
  have F_ordinal_KDC4 : Fld s s.heap w_KDC4 "java/lang/Enum" "ordinal" "I" (.int (4 : Int32)) := Fld.start ((fld_at ev_w_KDC4).symm.trans evhn2222222222222222222222221)
  obtain ⟨w_KEYCODE_CALL, ev_w_KEYCODE_CALL⟩ := exa_v hn2222222222222222222222222221
  have S_KEYCODE_CALL : Sta s s.heap "com/example/nudge_knob/nudgeknob/KeyCode" "KEYCODE_CALL" "Lcom/example/nudge_knob/nudgeknob/KeyCode;" (.ref w_KEYCODE_CALL) := Sta.start ev_w_KEYCODE_CALL (Or.inr ⟨(ow hw 6 rfl), (ow hw 36 rfl)⟩)
  have E_KEYCODE_CALL : Exa s s.heap w_KEYCODE_CALL "com/example/nudge_knob/nudgeknob/KeyCode" := Exa.start ev_w_KEYCODE_CALL hn2222222222222222222222222221
  obtain ⟨w_CALL, ev_w_CALL⟩ := exa_v hn22222222222222222222222222221
  have S_CALL : Sta s s.heap "com/example/nudge_knob/nudgeknob/Button" "CALL" "Lcom/example/nudge_knob/nudgeknob/Button;" (.ref w_CALL) := Sta.start ev_w_CALL (Or.inr ⟨(ow hw 12 rfl), (ow hw 38 rfl)⟩)
  have E_CALL : Exa s s.heap w_CALL "com/example/nudge_knob/nudgeknob/Button" := Exa.start ev_w_CALL hn22222222222222222222222222221
  have evhn222222222222222222222222222221 := own_eqInt hn222222222222222222222222222221
  have F_ordinal_KEYCODE_CALL : Fld s s.heap w_KEYCODE_CALL "java/lang/Enum" "ordinal" "I" (.int (7 : Int32)) := Fld.start ((fld_at ev_w_KEYCODE_CALL).symm.trans evhn222222222222222222222222222221)
  obtain ⟨w_BACK, ev_w_BACK⟩ := exa_v hn2222222222222222222222222222221
  have S_BACK : Sta s s.heap "com/example/nudge_knob/nudgeknob/Button" "BACK" "Lcom/example/nudge_knob/nudgeknob/Button;" (.ref w_BACK) := Sta.start ev_w_BACK (Or.inr ⟨(ow hw 12 rfl), (ow hw 39 rfl)⟩)
  have E_BACK : Exa s s.heap w_BACK "com/example/nudge_knob/nudgeknob/Button" := Exa.start ev_w_BACK hn2222222222222222222222222222221
  obtain ⟨w_KEYCODE_BACK, ev_w_KEYCODE_BACK⟩ := exa_v hn222222222222222222222222222222221
  have S_KEYCODE_BACK : Sta s s.heap "com/example/nudge_knob/nudgeknob/KeyCode" "KEYCODE_BACK" "Lcom/example/nudge_knob/nudgeknob/KeyCode;" (.ref w_KEYCODE_BACK) := Sta.start ev_w_KEYCODE_BACK (Or.inr ⟨(ow hw 6 rfl), (ow hw 40 rfl)⟩)
  have E_KEYCODE_BACK : Exa s s.heap w_KEYCODE_BACK "com/example/nudge_knob/nudgeknob/KeyCode" := Exa.start ev_w_KEYCODE_BACK hn222222222222222222222222222222221
  have evhn22222222222222222222222222222222221 := own_eqInt hn22222222222222222222222222222222221
  have F_ordinal_KEYCODE_BACK : Fld s s.heap w_KEYCODE_BACK "java/lang/Enum" "ordinal" "I" (.int (5 : Int32)) := Fld.start ((fld_at ev_w_KEYCODE_BACK).symm.trans evhn22222222222222222222222222222222221)
  obtain ⟨w_HOME, ev_w_HOME⟩ := exa_v hn222222222222222222222222222222222221
  have S_HOME : Sta s s.heap "com/example/nudge_knob/nudgeknob/Button" "HOME" "Lcom/example/nudge_knob/nudgeknob/Button;" (.ref w_HOME) := Sta.start ev_w_HOME (Or.inr ⟨(ow hw 12 rfl), (ow hw 41 rfl)⟩)
  have E_HOME : Exa s s.heap w_HOME "com/example/nudge_knob/nudgeknob/Button" := Exa.start ev_w_HOME hn222222222222222222222222222222222221
  obtain ⟨w_KEYCODE_HOME, ev_w_KEYCODE_HOME⟩ := exa_v hn22222222222222222222222222222222222221
  have S_KEYCODE_HOME : Sta s s.heap "com/example/nudge_knob/nudgeknob/KeyCode" "KEYCODE_HOME" "Lcom/example/nudge_knob/nudgeknob/KeyCode;" (.ref w_KEYCODE_HOME) := Sta.start ev_w_KEYCODE_HOME (Or.inr ⟨(ow hw 6 rfl), (ow hw 42 rfl)⟩)
  have E_KEYCODE_HOME : Exa s s.heap w_KEYCODE_HOME "com/example/nudge_knob/nudgeknob/KeyCode" := Exa.start ev_w_KEYCODE_HOME hn22222222222222222222222222222222222221
  have evhn2222222222222222222222222222222222222221 := own_eqInt hn2222222222222222222222222222222222222221
  have F_ordinal_KEYCODE_HOME : Fld s s.heap w_KEYCODE_HOME "java/lang/Enum" "ordinal" "I" (.int (6 : Int32)) := Fld.start ((fld_at ev_w_KEYCODE_HOME).symm.trans evhn2222222222222222222222222222222222222221)
  obtain ⟨w_KM5, ev_w_KM5⟩ := exa_v hn2222222222222222222222222222222222222222221
  have S_KEYCODE_MUSIC : Sta s s.heap "com/example/nudge_knob/nudgeknob/KeyCode" "KEYCODE_MUSIC" "Lcom/example/nudge_knob/nudgeknob/KeyCode;" (.ref w_KM5) := Sta.start ev_w_KM5 (Or.inr ⟨(ow hw 6 rfl), (ow hw 46 rfl)⟩)
  have E_KM5 : Exa s s.heap w_KM5 "com/example/nudge_knob/nudgeknob/KeyCode" := Exa.start ev_w_KM5 hn2222222222222222222222222222222222222222221
  obtain ⟨w_MUSIC, ev_w_MUSIC⟩ := exa_v hn22222222222222222222222222222222222222222221
  have S_MUSIC : Sta s s.heap "com/example/nudge_knob/nudgeknob/Button" "MUSIC" "Lcom/example/nudge_knob/nudgeknob/Button;" (.ref w_MUSIC) := Sta.start ev_w_MUSIC (Or.inr ⟨(ow hw 12 rfl), (ow hw 48 rfl)⟩)
  have E_MUSIC : Exa s s.heap w_MUSIC "com/example/nudge_knob/nudgeknob/Button" := Exa.start ev_w_MUSIC hn22222222222222222222222222222222222222222221
  have evhn222222222222222222222222222222222222222222221 := own_eqInt hn222222222222222222222222222222222222222222221
  have F_ordinal_KM5 : Fld s s.heap w_KM5 "java/lang/Enum" "ordinal" "I" (.int (8 : Int32)) := Fld.start ((fld_at ev_w_KM5).symm.trans evhn222222222222222222222222222222222222222222221)
  have evhn222221 := own_eqRef ev_w_KSNU0 hn222221
  have F_keyCode_UP : Fld s s.heap w_UP "com/example/nudge_knob/nudgeknob/Button" "keyCode" "Lcom/example/nudge_knob/nudgeknob/KeyCode;" (.ref w_KSNU0) := Fld.start ((fld_at ev_w_UP).symm.trans evhn222221)
  have evhn22222222222221 := own_eqRef ev_w_KSND2 hn22222222222221
  have F_keyCode_DOWN : Fld s s.heap w_DOWN "com/example/nudge_knob/nudgeknob/Button" "keyCode" "Lcom/example/nudge_knob/nudgeknob/KeyCode;" (.ref w_KSND2) := Fld.start ((fld_at ev_w_DOWN).symm.trans evhn22222222222221)
  have evhn2222222222222222221 := own_eqRef ev_w_KSNL3 hn2222222222222222221
  have F_keyCode_LEFT : Fld s s.heap w_LEFT "com/example/nudge_knob/nudgeknob/Button" "keyCode" "Lcom/example/nudge_knob/nudgeknob/KeyCode;" (.ref w_KSNL3) := Fld.start ((fld_at ev_w_LEFT).symm.trans evhn2222222222222222221)
  have evhn2222222222222222222221 := own_eqRef ev_w_KSNR1 hn2222222222222222222221
  have F_keyCode_RIGHT : Fld s s.heap w_RIGHT "com/example/nudge_knob/nudgeknob/Button" "keyCode" "Lcom/example/nudge_knob/nudgeknob/KeyCode;" (.ref w_KSNR1) := Fld.start ((fld_at ev_w_RIGHT).symm.trans evhn2222222222222222222221)
  have evhn222222222222222222222222221 := own_eqRef ev_w_KDC4 hn222222222222222222222222221
  have F_keyCode_CENTER : Fld s s.heap w_CENTER "com/example/nudge_knob/nudgeknob/Button" "keyCode" "Lcom/example/nudge_knob/nudgeknob/KeyCode;" (.ref w_KDC4) := Fld.start ((fld_at ev_w_CENTER).symm.trans evhn222222222222222222222222221)
  have evhn2222222222222222222222222222222221 := own_eqRef ev_w_KEYCODE_BACK hn2222222222222222222222222222222221
  have F_keyCode_BACK : Fld s s.heap w_BACK "com/example/nudge_knob/nudgeknob/Button" "keyCode" "Lcom/example/nudge_knob/nudgeknob/KeyCode;" (.ref w_KEYCODE_BACK) := Fld.start ((fld_at ev_w_BACK).symm.trans evhn2222222222222222222222222222222221)
  have evhn222222222222222222222222222222222222221 := own_eqRef ev_w_KEYCODE_HOME hn222222222222222222222222222222222222221
  have F_keyCode_HOME : Fld s s.heap w_HOME "com/example/nudge_knob/nudgeknob/Button" "keyCode" "Lcom/example/nudge_knob/nudgeknob/KeyCode;" (.ref w_KEYCODE_HOME) := Fld.start ((fld_at ev_w_HOME).symm.trans evhn222222222222222222222222222222222222221)
  have evhn222222222222222222222222222222222222222221 := own_eqRef ev_w_KEYCODE_CALL hn222222222222222222222222222222222222222221
  have F_keyCode_CALL : Fld s s.heap w_CALL "com/example/nudge_knob/nudgeknob/Button" "keyCode" "Lcom/example/nudge_knob/nudgeknob/KeyCode;" (.ref w_KEYCODE_CALL) := Fld.start ((fld_at ev_w_CALL).symm.trans evhn222222222222222222222222222222222222222221)
  have evhn2222222222222222222222222222222222222222222222 := own_eqRef ev_w_KM5 hn2222222222222222222222222222222222222222222222
  have F_keyCode_MUSIC : Fld s s.heap w_MUSIC "com/example/nudge_knob/nudgeknob/Button" "keyCode" "Lcom/example/nudge_knob/nudgeknob/KeyCode;" (.ref w_KM5) := Fld.start ((fld_at ev_w_MUSIC).symm.trans evhn2222222222222222222222222222222222222222222222)
  obtain ⟨cl_w_ALL, Ar_w_ALL⟩ := Arr.start ev_w_ALL hn221
  have lv_w_ALL := own_eqInt hn2221
  obtain ⟨lq_w_ALL, le_w_ALL⟩ := own_len ev_w_ALL Ar_w_ALL lv_w_ALL
  have el_w_ALL_0 := elem_in (j := 0) (own_eqRef ev_w_UP hn22221) ev_w_ALL rfl Ar_w_ALL.1
  have el_w_ALL_1 := elem_in (j := 1) (own_eqRef ev_w_DOWN hn222222222221) ev_w_ALL rfl Ar_w_ALL.1
  have el_w_ALL_2 := elem_in (j := 2) (own_eqRef ev_w_LEFT hn22222222222222221) ev_w_ALL rfl Ar_w_ALL.1
  have el_w_ALL_3 := elem_in (j := 3) (own_eqRef ev_w_RIGHT hn222222222222222222221) ev_w_ALL rfl Ar_w_ALL.1
  have el_w_ALL_4 := elem_in (j := 4) (own_eqRef ev_w_CENTER hn22222222222222222222222221) ev_w_ALL rfl Ar_w_ALL.1
  have el_w_ALL_5 := elem_in (j := 5) (own_eqRef ev_w_BACK hn22222222222222222222222222222221) ev_w_ALL rfl Ar_w_ALL.1
  have el_w_ALL_6 := elem_in (j := 6) (own_eqRef ev_w_HOME hn2222222222222222222222222222222222221) ev_w_ALL rfl Ar_w_ALL.1
  have el_w_ALL_7 := elem_in (j := 7) (own_eqRef ev_w_CALL hn22222222222222222222222222222222222222221) ev_w_ALL rfl Ar_w_ALL.1
  have el_w_ALL_8 := elem_in (j := 8) (own_eqRef ev_w_MUSIC hn2222222222222222222222222222222222222222222221) ev_w_ALL rfl Ar_w_ALL.1
  obtain ⟨k_ALL, hk_w_ALL⟩ : ∃ z, z = cl_w_ALL.cls := ⟨_, rfl⟩
  have V_ALL : Arv s s.heap w_ALL k_ALL (.object "com/example/nudge_knob/nudgeknob/Button") (9 : Int32) [(.ref w_UP), (.ref w_DOWN), (.ref w_LEFT), (.ref w_RIGHT), (.ref w_CENTER), (.ref w_BACK), (.ref w_HOME), (.ref w_CALL), (.ref w_MUSIC)] .null := by rw [hk_w_ALL]; exact Arv.start hfit Ar_w_ALL lq_w_ALL le_w_ALL (by decide) rfl ⟨el_w_ALL_0.2, el_w_ALL_1.2, el_w_ALL_2.2, el_w_ALL_3.2, el_w_ALL_4.2, el_w_ALL_5.2, el_w_ALL_6.2, el_w_ALL_7.2, el_w_ALL_8.2, trivial⟩
  have HW : Wd s w_KSNU0 w_UP w_ALL w_KSNR1 w_RIGHT w_DOWN w_KSND2 w_LEFT w_KSNL3 w_KDC4 w_CENTER w_KEYCODE_CALL w_CALL w_BACK w_KEYCODE_BACK w_HOME w_KEYCODE_HOME w_KM5 w_MUSIC k_ALL := ⟨S_KEYCODE_SYSTEM_NAVIGATION_UP, E_KSNU0, S_UP, E_UP, S_ALL, S_KEYCODE_SYSTEM_NAVIGATION_RIGHT, E_KSNR1, S_RIGHT, E_RIGHT, F_ordinal_KSNU0, F_ordinal_KSNR1, S_DOWN, E_DOWN, S_KEYCODE_SYSTEM_NAVIGATION_DOWN, E_KSND2, F_ordinal_KSND2, S_LEFT, E_LEFT, S_KEYCODE_SYSTEM_NAVIGATION_LEFT, E_KSNL3, F_ordinal_KSNL3, S_KEYCODE_DPAD_CENTER, E_KDC4, S_CENTER, E_CENTER, F_ordinal_KDC4, S_KEYCODE_CALL, E_KEYCODE_CALL, S_CALL, E_CALL, F_ordinal_KEYCODE_CALL, S_BACK, E_BACK, S_KEYCODE_BACK, E_KEYCODE_BACK, F_ordinal_KEYCODE_BACK, S_HOME, E_HOME, S_KEYCODE_HOME, E_KEYCODE_HOME, F_ordinal_KEYCODE_HOME, S_KEYCODE_MUSIC, E_KM5, S_MUSIC, E_MUSIC, F_ordinal_KM5, F_keyCode_UP, F_keyCode_DOWN, F_keyCode_LEFT, F_keyCode_RIGHT, F_keyCode_CENTER, F_keyCode_BACK, F_keyCode_HOME, F_keyCode_CALL, F_keyCode_MUSIC, V_ALL⟩
  obtain ⟨n, o, h1, h2, h3, _, L, rfl, ⟨rfl, N⟩, hq⟩ := rm0 l s _ hw tables_1 i0 w_KSNU0 w_UP w_ALL w_KSNR1 w_RIGHT w_DOWN w_KSND2 w_LEFT w_KSNL3 w_KDC4 w_CENTER w_KEYCODE_CALL w_CALL w_BACK w_KEYCODE_BACK w_HOME w_KEYCODE_HOME w_KM5 w_MUSIC k_ALL s.heap s.heap.size (Old.start s) HW p e ha hc hk s m _ below hf ((Spec.applies_iff_loose hf).mp happ).1 ⟨rfl, State.Warmed39.refl s, rfl⟩ trivial
  refine ⟨n, _, h1, h2, h3, hpost _ _ _ _ _ _ ⟨Cond.after_iff.mpr rfl, Cond.after_iff.mpr (eq_i res_at (Term.int_eval (1)) rfl), trivial⟩ ⟨hq.1, hq.2.1, (hq.2.2.sift fun y hy => Or.inr (N y hy)).mono (by decide) (by decide)⟩⟩
theorem main_1_1 : Claimed_1_1 := comes_1 fun _ _ _ _ _ _ h hF => ⟨h.1, hF⟩
theorem main_1_2 : Claimed_1_2 := comes_1 fun _ _ _ _ _ _ h hF => ⟨h.2.1, hF⟩
end Jvm.Pilot.@@N@@
namespace Jvm.Pilot.@@N@@
open Jvm Jvm.ClassFile Sem Op Lib Jvm.Free Jvm.Stand Jvm.Pilot.@@N@@.Jvm.D
/-! MADE BY PROGRAM (witnessworld.py) out of the Statement's table words and the real class files: 14 classes; the members and pool entries that the words name. The judged class is class 1, her method 3. -/
namespace start1
open Jvm.ClassFile
def u (s : String) : CpInfo := .utf8 (stringToUtf16 s)
/-- a pool by its gaps: so many unusable entries, then the entry; so many at the end -/
def gap : Nat → List CpInfo → List CpInfo
  | 0, r => r
  | n + 1, r => .unusable :: gap n r
def poolList (es : List (Nat × CpInfo)) (last : Nat) : List CpInfo := es.foldr (fun e r => gap e.1 (e.2 :: r)) (gap last [])
def pool (es : List (Nat × CpInfo)) (last : Nat) : Array CpInfo := ⟨poolList es last⟩
def fileOf (pool : Array CpInfo) (this : Nat) (attrs : Array Attribute := #[]) (ms : Array MethodInfo := #[]) (fl : Nat := 33) (sup : Nat := 0) (ifs : Array Nat := #[]) (fds : Array FieldInfo := #[]) : ClassFile where
  minorVersion := 0
  majorVersion := 65
  constantPool := pool
  accessFlags := fl
  thisClass := this
  superClass := sup
  interfaces := ifs
  fields := fds
  methods := ms
  attributes := attrs
def plain (name : String) (sup : Option ClassId) : Class where
  name := name
  kind := .ordinary
  loader := none
  accessFlags := 33
  super := sup
  interfaces := #[]
  cf := none
  fields := #[]
  methods := #[]
  instanceTypes := #[]
  staticTypes := #[]
  resolved := #[]
  callSites := []
  init := .initialized
  statics := none
  mirror := none

def pool0 : Array CpInfo := pool [(5, u "<init>"), (0, u "()V"), (1, .class_ 10), (1, u "java/lang/Object")] 113

def k0m0 : Method := { name := "<init>", desc := "()V", sig := { parameters := [], returnType := none }, accessFlags := 1, code := none }
/-- java/lang/Object -/
def k0 : Class := { plain "java/lang/Object" none with
  accessFlags := 33
  interfaces := #[]
  cf := some (fileOf pool0 8 #[] #[{ accessFlags := 1, nameIndex := 5, descriptorIndex := 6, attributes := #[] }] 33 0 #[] #[])
  fields := #[]
  methods := #[k0m0]
  instanceTypes := #[]
  staticTypes := #[]
  resolved := Array.replicate 124 none
  statics := none }

def pool1 : Array CpInfo := pool [(2, .class_ 4), (1, u "java/lang/Object"), (0, u "<init>"), (0, u "()V"), (0, .fieldref 8 9), (0, .class_ 10), (0, .nameAndType 11 12), (0, u "com/example/nudge_knob/nudgeknob/KeyCode"), (0, u "KEYCODE_SYSTEM_NAVIGATION_UP"), (0, u "Lcom/example/nudge_knob/nudgeknob/KeyCode;"), (0, .fieldref 8 14), (0, .nameAndType 15 12), (0, u "KEYCODE_SYSTEM_NAVIGATION_DOWN"), (0, .fieldref 8 17), (0, .nameAndType 18 12), (0, u "KEYCODE_SYSTEM_NAVIGATION_LEFT"), (0, .fieldref 8 20), (0, .nameAndType 21 12), (0, u "KEYCODE_SYSTEM_NAVIGATION_RIGHT"), (0, .fieldref 8 23), (0, .nameAndType 24 12), (0, u "KEYCODE_DPAD_CENTER"), (0, .fieldref 8 26), (0, .nameAndType 27 12), (0, u "KEYCODE_BACK"), (0, .fieldref 8 29), (0, .nameAndType 30 12), (0, u "KEYCODE_HOME"), (0, .fieldref 8 32), (0, .nameAndType 33 12), (0, u "KEYCODE_CALL"), (0, .fieldref 8 35), (0, .nameAndType 36 12), (0, u "KEYCODE_MUSIC"), (0, .fieldref 38 39), (0, .class_ 40), (0, .nameAndType 41 42), (0, u "com/example/nudge_knob/nudgeknob/Button"), (0, u "UP"), (0, u "Lcom/example/nudge_knob/nudgeknob/Button;"), (0, .fieldref 38 44), (0, .nameAndType 45 42), (0, u "DOWN"), (0, .fieldref 38 47), (0, .nameAndType 48 42), (0, u "LEFT"), (0, .fieldref 38 50), (0, .nameAndType 51 42), (0, u "RIGHT"), (0, .fieldref 38 53), (0, .nameAndType 54 42), (0, u "CENTER"), (0, .fieldref 38 56), (0, .nameAndType 57 42), (0, u "BACK"), (0, .fieldref 38 59), (0, .nameAndType 60 42), (0, u "HOME"), (0, .fieldref 38 62), (0, .nameAndType 63 42), (0, u "CALL"), (0, .fieldref 38 65), (0, .nameAndType 66 42), (0, u "MUSIC"), (0, .integer 2147483647), (0, .methodref 69 70), (0, .class_ 71), (0, .nameAndType 72 73), (0, u "com/example/nudge_knob/nudgeknob/ButtonOfKeyCodePinLaw"), (0, u "code"), (0, u "(I)Lcom/example/nudge_knob/nudgeknob/KeyCode;"), (0, .methodref 69 75), (0, .nameAndType 76 77), (0, u "expected"), (0, u "(I)Lcom/example/nudge_knob/nudgeknob/Button;"), (0, .methodref 38 79), (0, .nameAndType 80 81), (0, u "ofKeyCode"), (0, u "(Lcom/example/nudge_knob/nudgeknob/KeyCode;)Lcom/example/nudge_knob/nudgeknob/Button;"), (3, u "law"), (0, u "(I)Z")] 2

def k1m0 : Method := { name := "<init>", desc := "()V", sig := { parameters := [], returnType := none }, accessFlags := 2, code := none }
def k1c1 : Code := { maxStack := 2, maxLocals := 1, code := method_2_code, exceptionTable := #[], attributes := #[] }
def k1m1 : Method := { name := "code", desc := "(I)Lcom/example/nudge_knob/nudgeknob/KeyCode;", sig := { parameters := [.int], returnType := some (.object "com/example/nudge_knob/nudgeknob/KeyCode") }, accessFlags := 10, code := some k1c1 }
def k1c2 : Code := { maxStack := 2, maxLocals := 1, code := method_3_code, exceptionTable := #[], attributes := #[] }
def k1m2 : Method := { name := "expected", desc := "(I)Lcom/example/nudge_knob/nudgeknob/Button;", sig := { parameters := [.int], returnType := some (.object "com/example/nudge_knob/nudgeknob/Button") }, accessFlags := 10, code := some k1c2 }
def k1c3 : Code := { maxStack := 2, maxLocals := 5, code := code, exceptionTable := #[], attributes := #[] }
def k1m3 : Method := { name := "law", desc := "(I)Z", sig := { parameters := [.int], returnType := some .boolean }, accessFlags := 9, code := some k1c3 }
/-- com/example/nudge_knob/nudgeknob/ButtonOfKeyCodePinLaw -/
def k1 : Class := { plain "com/example/nudge_knob/nudgeknob/ButtonOfKeyCodePinLaw" (some 0) with
  accessFlags := 49
  interfaces := #[]
  cf := some (fileOf pool1 69 #[] #[{ accessFlags := 2, nameIndex := 5, descriptorIndex := 6, attributes := #[] }, { accessFlags := 10, nameIndex := 72, descriptorIndex := 73, attributes := #[] }, { accessFlags := 10, nameIndex := 76, descriptorIndex := 77, attributes := #[] }, { accessFlags := 9, nameIndex := 85, descriptorIndex := 86, attributes := #[] }] 49 2 #[] #[])
  fields := #[]
  methods := #[k1m0, k1m1, k1m2, k1m3]
  instanceTypes := #[]
  staticTypes := #[]
  resolved := Array.replicate 89 none
  statics := none }

def pool2 : Array CpInfo := pool [(1, .class_ 2), (0, u "java/lang/constant/Constable"), (0, .class_ 4), (0, u "java/lang/Object")] 6

/-- java/lang/constant/Constable -/
def k2 : Class := { plain "java/lang/constant/Constable" (some 0) with
  accessFlags := 1537
  interfaces := #[]
  cf := some (fileOf pool2 1 #[] #[] 1537 3 #[] #[])
  fields := #[]
  methods := #[]
  instanceTypes := #[]
  staticTypes := #[]
  resolved := Array.replicate 11 none
  statics := none }

def pool3 : Array CpInfo := pool [(1, .class_ 2), (0, u "java/lang/Comparable"), (0, .class_ 4), (0, u "java/lang/Object")] 7

/-- java/lang/Comparable -/
def k3 : Class := { plain "java/lang/Comparable" (some 0) with
  accessFlags := 1537
  interfaces := #[]
  cf := some (fileOf pool3 1 #[] #[] 1537 3 #[] #[])
  fields := #[]
  methods := #[]
  instanceTypes := #[]
  staticTypes := #[]
  resolved := Array.replicate 12 none
  statics := none }

def pool4 : Array CpInfo := pool [(1, .class_ 2), (0, u "java/io/Serializable"), (0, .class_ 4), (0, u "java/lang/Object")] 2

/-- java/io/Serializable -/
def k4 : Class := { plain "java/io/Serializable" (some 0) with
  accessFlags := 1537
  interfaces := #[]
  cf := some (fileOf pool4 1 #[] #[] 1537 3 #[] #[])
  fields := #[]
  methods := #[]
  instanceTypes := #[]
  staticTypes := #[]
  resolved := Array.replicate 7 none
  statics := none }

def pool5 : Array CpInfo := pool [(2, .class_ 4), (1, u "java/lang/Enum"), (0, u "name"), (0, u "Ljava/lang/String;"), (2, u "ordinal"), (0, u "I"), (1, .class_ 14), (1, u "java/lang/Object"), (4, u "hash"), (86, .class_ 108), (1, u "java/lang/Enum$EnumDesc"), (2, .class_ 112), (0, u "java/lang/constant/Constable"), (0, .class_ 114), (0, u "java/lang/Comparable"), (0, .class_ 116), (0, u "java/io/Serializable")] 87

/-- java/lang/Enum -/
def k5 : Class := { plain "java/lang/Enum" (some 0) with
  accessFlags := 1057
  interfaces := #[2, 3, 4]
  cf := some (fileOf pool5 2 #[.nestMembers #[106]] #[] 1057 12 #[111, 113, 115] #[{ accessFlags := 18, nameIndex := 5, descriptorIndex := 6, attributes := #[] }, { accessFlags := 18, nameIndex := 9, descriptorIndex := 10, attributes := #[] }, { accessFlags := 2, nameIndex := 19, descriptorIndex := 10, attributes := #[] }])
  fields := #[{ name := "name", type := (.object "java/lang/String"), accessFlags := 18, slot := 0, constantValue := 0 }, { name := "ordinal", type := .int, accessFlags := 18, slot := 1, constantValue := 0 }, { name := "hash", type := .int, accessFlags := 2, slot := 2, constantValue := 0 }]
  methods := #[]
  instanceTypes := #[(.object "java/lang/String"), .int, .int]
  staticTypes := #[]
  resolved := Array.replicate 204 none
  statics := none }

def pool6 : Array CpInfo := pool [(1, .class_ 2), (0, u "com/example/nudge_knob/nudgeknob/KeyCode"), (2, u "KEYCODE_SYSTEM_NAVIGATION_UP"), (0, u "Lcom/example/nudge_knob/nudgeknob/KeyCode;"), (2, u "KEYCODE_SYSTEM_NAVIGATION_DOWN"), (2, u "KEYCODE_SYSTEM_NAVIGATION_LEFT"), (2, u "KEYCODE_SYSTEM_NAVIGATION_RIGHT"), (2, u "KEYCODE_DPAD_CENTER"), (2, u "KEYCODE_BACK"), (2, u "KEYCODE_HOME"), (2, u "KEYCODE_CALL"), (2, u "KEYCODE_MUSIC"), (2, u "$VALUES"), (0, u "[Lcom/example/nudge_knob/nudgeknob/KeyCode;"), (6, .class_ 43), (1, u "java/lang/Enum")] 31

/-- com/example/nudge_knob/nudgeknob/KeyCode -/
def k6 : Class := { plain "com/example/nudge_knob/nudgeknob/KeyCode" (some 5) with
  accessFlags := 16433
  interfaces := #[]
  cf := some (fileOf pool6 1 #[] #[] 16433 41 #[] #[{ accessFlags := 16409, nameIndex := 5, descriptorIndex := 6, attributes := #[] }, { accessFlags := 16409, nameIndex := 9, descriptorIndex := 6, attributes := #[] }, { accessFlags := 16409, nameIndex := 12, descriptorIndex := 6, attributes := #[] }, { accessFlags := 16409, nameIndex := 15, descriptorIndex := 6, attributes := #[] }, { accessFlags := 16409, nameIndex := 18, descriptorIndex := 6, attributes := #[] }, { accessFlags := 16409, nameIndex := 21, descriptorIndex := 6, attributes := #[] }, { accessFlags := 16409, nameIndex := 24, descriptorIndex := 6, attributes := #[] }, { accessFlags := 16409, nameIndex := 27, descriptorIndex := 6, attributes := #[] }, { accessFlags := 16409, nameIndex := 30, descriptorIndex := 6, attributes := #[] }, { accessFlags := 4122, nameIndex := 33, descriptorIndex := 34, attributes := #[] }])
  fields := #[{ name := "KEYCODE_SYSTEM_NAVIGATION_UP", type := (.object "com/example/nudge_knob/nudgeknob/KeyCode"), accessFlags := 16409, slot := 0, constantValue := 0 }, { name := "KEYCODE_SYSTEM_NAVIGATION_DOWN", type := (.object "com/example/nudge_knob/nudgeknob/KeyCode"), accessFlags := 16409, slot := 1, constantValue := 0 }, { name := "KEYCODE_SYSTEM_NAVIGATION_LEFT", type := (.object "com/example/nudge_knob/nudgeknob/KeyCode"), accessFlags := 16409, slot := 2, constantValue := 0 }, { name := "KEYCODE_SYSTEM_NAVIGATION_RIGHT", type := (.object "com/example/nudge_knob/nudgeknob/KeyCode"), accessFlags := 16409, slot := 3, constantValue := 0 }, { name := "KEYCODE_DPAD_CENTER", type := (.object "com/example/nudge_knob/nudgeknob/KeyCode"), accessFlags := 16409, slot := 4, constantValue := 0 }, { name := "KEYCODE_BACK", type := (.object "com/example/nudge_knob/nudgeknob/KeyCode"), accessFlags := 16409, slot := 5, constantValue := 0 }, { name := "KEYCODE_HOME", type := (.object "com/example/nudge_knob/nudgeknob/KeyCode"), accessFlags := 16409, slot := 6, constantValue := 0 }, { name := "KEYCODE_CALL", type := (.object "com/example/nudge_knob/nudgeknob/KeyCode"), accessFlags := 16409, slot := 7, constantValue := 0 }, { name := "KEYCODE_MUSIC", type := (.object "com/example/nudge_knob/nudgeknob/KeyCode"), accessFlags := 16409, slot := 8, constantValue := 0 }, { name := "$VALUES", type := (.array (.object "com/example/nudge_knob/nudgeknob/KeyCode")), accessFlags := 4122, slot := 9, constantValue := 0 }]
  methods := #[]
  instanceTypes := #[(.object "java/lang/String"), .int, .int]
  staticTypes := #[(.object "com/example/nudge_knob/nudgeknob/KeyCode"), (.object "com/example/nudge_knob/nudgeknob/KeyCode"), (.object "com/example/nudge_knob/nudgeknob/KeyCode"), (.object "com/example/nudge_knob/nudgeknob/KeyCode"), (.object "com/example/nudge_knob/nudgeknob/KeyCode"), (.object "com/example/nudge_knob/nudgeknob/KeyCode"), (.object "com/example/nudge_knob/nudgeknob/KeyCode"), (.object "com/example/nudge_knob/nudgeknob/KeyCode"), (.object "com/example/nudge_knob/nudgeknob/KeyCode"), (.array (.object "com/example/nudge_knob/nudgeknob/KeyCode"))]
  resolved := Array.replicate 75 none
  statics := some 0 }

def pool7 : Array CpInfo := pool [(1, .class_ 2), (0, u "com/example/nudge_knob/nudgeknob/Button"), (2, u "UP"), (0, u "Lcom/example/nudge_knob/nudgeknob/Button;"), (2, u "DOWN"), (2, u "LEFT"), (2, u "RIGHT"), (2, u "CENTER"), (2, u "BACK"), (2, u "HOME"), (2, u "CALL"), (2, u "MUSIC"), (2, u "$VALUES"), (0, u "[Lcom/example/nudge_knob/nudgeknob/Button;"), (6, .class_ 43), (1, u "java/lang/Enum"), (6, .fieldref 1 51), (0, .nameAndType 52 53), (0, u "keyCode"), (0, u "Lcom/example/nudge_knob/nudgeknob/KeyCode;"), (2, u "kernelKey"), (0, u "I"), (4, .fieldref 1 63), (0, .nameAndType 64 34), (0, u "ALL"), (60, u "NAMES"), (0, u "Ljava/lang/String;"), (11, u "ofKeyCode"), (0, u "(Lcom/example/nudge_knob/nudgeknob/KeyCode;)Lcom/example/nudge_knob/nudgeknob/Button;")] 7

def k7c0 : Code := { maxStack := 2, maxLocals := 5, code := prog_8_method_8_code, exceptionTable := #[], attributes := #[] }
def k7m0 : Method := { name := "ofKeyCode", desc := "(Lcom/example/nudge_knob/nudgeknob/KeyCode;)Lcom/example/nudge_knob/nudgeknob/Button;", sig := { parameters := [(.object "com/example/nudge_knob/nudgeknob/KeyCode")], returnType := some (.object "com/example/nudge_knob/nudgeknob/Button") }, accessFlags := 8, code := some k7c0 }
/-- com/example/nudge_knob/nudgeknob/Button -/
def k7 : Class := { plain "com/example/nudge_knob/nudgeknob/Button" (some 5) with
  accessFlags := 16433
  interfaces := #[]
  cf := some (fileOf pool7 1 #[] #[{ accessFlags := 8, nameIndex := 138, descriptorIndex := 139, attributes := #[] }] 16433 41 #[] #[{ accessFlags := 16409, nameIndex := 5, descriptorIndex := 6, attributes := #[] }, { accessFlags := 16409, nameIndex := 9, descriptorIndex := 6, attributes := #[] }, { accessFlags := 16409, nameIndex := 12, descriptorIndex := 6, attributes := #[] }, { accessFlags := 16409, nameIndex := 15, descriptorIndex := 6, attributes := #[] }, { accessFlags := 16409, nameIndex := 18, descriptorIndex := 6, attributes := #[] }, { accessFlags := 16409, nameIndex := 21, descriptorIndex := 6, attributes := #[] }, { accessFlags := 16409, nameIndex := 24, descriptorIndex := 6, attributes := #[] }, { accessFlags := 16409, nameIndex := 27, descriptorIndex := 6, attributes := #[] }, { accessFlags := 16409, nameIndex := 30, descriptorIndex := 6, attributes := #[] }, { accessFlags := 26, nameIndex := 64, descriptorIndex := 34, attributes := #[] }, { accessFlags := 24, nameIndex := 125, descriptorIndex := 126, attributes := #[] }, { accessFlags := 18, nameIndex := 52, descriptorIndex := 53, attributes := #[] }, { accessFlags := 18, nameIndex := 56, descriptorIndex := 57, attributes := #[] }, { accessFlags := 4122, nameIndex := 33, descriptorIndex := 34, attributes := #[] }])
  fields := #[{ name := "UP", type := (.object "com/example/nudge_knob/nudgeknob/Button"), accessFlags := 16409, slot := 0, constantValue := 0 }, { name := "DOWN", type := (.object "com/example/nudge_knob/nudgeknob/Button"), accessFlags := 16409, slot := 1, constantValue := 0 }, { name := "LEFT", type := (.object "com/example/nudge_knob/nudgeknob/Button"), accessFlags := 16409, slot := 2, constantValue := 0 }, { name := "RIGHT", type := (.object "com/example/nudge_knob/nudgeknob/Button"), accessFlags := 16409, slot := 3, constantValue := 0 }, { name := "CENTER", type := (.object "com/example/nudge_knob/nudgeknob/Button"), accessFlags := 16409, slot := 4, constantValue := 0 }, { name := "BACK", type := (.object "com/example/nudge_knob/nudgeknob/Button"), accessFlags := 16409, slot := 5, constantValue := 0 }, { name := "HOME", type := (.object "com/example/nudge_knob/nudgeknob/Button"), accessFlags := 16409, slot := 6, constantValue := 0 }, { name := "CALL", type := (.object "com/example/nudge_knob/nudgeknob/Button"), accessFlags := 16409, slot := 7, constantValue := 0 }, { name := "MUSIC", type := (.object "com/example/nudge_knob/nudgeknob/Button"), accessFlags := 16409, slot := 8, constantValue := 0 }, { name := "ALL", type := (.array (.object "com/example/nudge_knob/nudgeknob/Button")), accessFlags := 26, slot := 9, constantValue := 0 }, { name := "NAMES", type := (.object "java/lang/String"), accessFlags := 24, slot := 10, constantValue := 0 }, { name := "keyCode", type := (.object "com/example/nudge_knob/nudgeknob/KeyCode"), accessFlags := 18, slot := 3, constantValue := 0 }, { name := "kernelKey", type := .int, accessFlags := 18, slot := 4, constantValue := 0 }, { name := "$VALUES", type := (.array (.object "com/example/nudge_knob/nudgeknob/Button")), accessFlags := 4122, slot := 11, constantValue := 0 }]
  methods := #[k7m0]
  instanceTypes := #[(.object "java/lang/String"), .int, .int, (.object "com/example/nudge_knob/nudgeknob/KeyCode"), .int]
  staticTypes := #[(.object "com/example/nudge_knob/nudgeknob/Button"), (.object "com/example/nudge_knob/nudgeknob/Button"), (.object "com/example/nudge_knob/nudgeknob/Button"), (.object "com/example/nudge_knob/nudgeknob/Button"), (.object "com/example/nudge_knob/nudgeknob/Button"), (.object "com/example/nudge_knob/nudgeknob/Button"), (.object "com/example/nudge_knob/nudgeknob/Button"), (.object "com/example/nudge_knob/nudgeknob/Button"), (.object "com/example/nudge_knob/nudgeknob/Button"), (.array (.object "com/example/nudge_knob/nudgeknob/Button")), (.object "java/lang/String"), (.array (.object "com/example/nudge_knob/nudgeknob/Button"))]
  resolved := Array.replicate 147 none
  statics := some 1 }

def pool8 : Array CpInfo := pool [(1, u "java/lang/Cloneable"), (0, .class_ 1), (0, u "java/lang/Object"), (0, .class_ 3)] 3

/-- java/lang/Cloneable -/
def k8 : Class := { plain "java/lang/Cloneable" (some 0) with
  accessFlags := 1537
  interfaces := #[]
  cf := some (fileOf pool8 2 #[] #[] 1537 4 #[] #[])
  fields := #[]
  methods := #[]
  instanceTypes := #[]
  staticTypes := #[]
  resolved := Array.replicate 8 none
  statics := none }

/-- the primitive byte -/
def k9 : Class := { plain "byte" none with kind := .primitive 'B', accessFlags := 0x411 }
/-- [B -/
def k10 : Class := { plain "[B" (some 0) with kind := .array 9 .byte, interfaces := #[8, 4], accessFlags := 1041 }

/-- the primitive int -/
def k11 : Class := { plain "int" none with kind := .primitive 'I', accessFlags := 0x411 }
/-- [I -/
def k12 : Class := { plain "[I" (some 0) with kind := .array 11 .int, interfaces := #[8, 4], accessFlags := 1041 }

/-- [Lcom/example/nudge_knob/nudgeknob/Button; -/
def k13 : Class := { plain "[Lcom/example/nudge_knob/nudgeknob/Button;" (some 0) with kind := .array 7 (.object "com/example/nudge_knob/nudgeknob/Button"), interfaces := #[8, 4], accessFlags := 1041 }

def heap : Heap := #[{ cls := 6, slots := #[.ref 2, .ref 7, .ref 9, .ref 4, .ref 10, .ref 15, .ref 17, .ref 12, .ref 18, .null], vm := .statics 6 },
  { cls := 7, slots := #[.ref 3, .ref 6, .ref 8, .ref 5, .ref 11, .ref 14, .ref 16, .ref 13, .ref 19, .ref 20, .null, .null], vm := .statics 7 },
  { cls := 6, slots := #[.null, .int 0, .int 0], vm := .none },
  { cls := 7, slots := #[.null, .int 0, .int 0, .ref 2, .int 0], vm := .none },
  { cls := 6, slots := #[.null, .int 3, .int 0], vm := .none },
  { cls := 7, slots := #[.null, .int 0, .int 0, .ref 4, .int 0], vm := .none },
  { cls := 7, slots := #[.null, .int 0, .int 0, .ref 7, .int 0], vm := .none },
  { cls := 6, slots := #[.null, .int 1, .int 0], vm := .none },
  { cls := 7, slots := #[.null, .int 0, .int 0, .ref 9, .int 0], vm := .none },
  { cls := 6, slots := #[.null, .int 2, .int 0], vm := .none },
  { cls := 6, slots := #[.null, .int 4, .int 0], vm := .none },
  { cls := 7, slots := #[.null, .int 0, .int 0, .ref 10, .int 0], vm := .none },
  { cls := 6, slots := #[.null, .int 7, .int 0], vm := .none },
  { cls := 7, slots := #[.null, .int 0, .int 0, .ref 12, .int 0], vm := .none },
  { cls := 7, slots := #[.null, .int 0, .int 0, .ref 15, .int 0], vm := .none },
  { cls := 6, slots := #[.null, .int 5, .int 0], vm := .none },
  { cls := 7, slots := #[.null, .int 0, .int 0, .ref 17, .int 0], vm := .none },
  { cls := 6, slots := #[.null, .int 6, .int 0], vm := .none },
  { cls := 6, slots := #[.null, .int 8, .int 0], vm := .none },
  { cls := 7, slots := #[.null, .int 0, .int 0, .ref 18, .int 0], vm := .none },
  { cls := 13, slots := #[.ref 3, .ref 6, .ref 8, .ref 5, .ref 11, .ref 14, .ref 16, .ref 13, .ref 19], vm := .none }]
def classes : Array Class := #[k0, k1, k2, k3, k4, k5, k6, k7, k8, k9, k10, k11, k12, k13]
def interned : List (Array UInt16 × Addr) := []
def slotsUsed : Nat := 103
def theMethod : MethodId := ⟨1, 3⟩
def args0 : Array Value := #[.int 5]
def aboutOver (below : List Frame) : State where
  vm := { classes := classes, interned := interned.toArray }
  heap := heap
  slotsUsed := slotsUsed
  threads := #[{ frames := .invoking theMethod args0 :: below }]
def below0 : List Frame := [.native { method := ⟨0, 0⟩, args := #[] }]
def about1 : State := aboutOver below0
def p0 : Program := .bare "" "" ""
def e0 : Env := launch0.env 0 0 0
theorem w_frames : about1.frames = Frame.invoking theMethod args0 :: below0 := rfl
set_option maxRecDepth 65536 in
theorem w_args : argsFit about1.vm theMethod args0 = true := by decide +kernel
set_option maxRecDepth 65536 in
theorem w_heap : heapFits about1 = true := by decide +kernel
set_option maxRecDepth 65536 in
theorem w_runnable : about1.curStatus? = some .runnable := by decide +kernel
set_option maxRecDepth 65536 in
theorem w_alone : about1.alone = true := by decide +kernel
set_option maxRecDepth 65536 in
theorem w_named : about1.methodNamed? x = some theMethod := by decide +kernel
set_option maxRecDepth 65536 in
theorem w_hears : about1.hears theMethod below0 = true := by decide +kernel
set_option maxRecDepth 65536 in
theorem w_ripe : about1.ripe theMethod args0 below0 = true := by decide +kernel
theorem w_running : about1.status = .running := rfl
set_option maxRecDepth 65536 in
theorem w_room : about1.hasRoom e0.platform room_1 = true :=
  launch0.hasRoom_least _ room_1 (by decide +kernel) (by decide +kernel) (by decide +kernel) (by decide +kernel) (by decide +kernel) (by decide +kernel)
theorem allAtoms_all (ts : List Jvm.Cond) (a : Array Jvm.Value) (st : Jvm.State) : (allAtoms ts).before a st = ts.all (fun c => c.before a st) := by
  induction ts with
  | nil => rfl
  | cons c t ih =>
    show (Jvm.Cond.and c (allAtoms t)).before a st = _
    rw [Jvm.Cond.before_and, ih, List.all_cons]
def words1 : List Jvm.Cond := Jvm.Cond.code x code maxLocals ret :: tables_1
/-- a 'code' word, met by the world's own term for the bytes: nothing is compared byte by byte -/
theorem code_word {y : MethodName} {bytes : ByteArray} {mx : Nat} {rt : Option FieldType} {a : Array Value} {s : State} {m : MethodId} {meth : Method} {c : Code} (h1 : s.methodNamed? y = some m) (h2 : s.vm.method? m = some meth) (h3 : meth.code = some c) (h4 : c.code = bytes)
    (h5 : (c.maxLocals == mx && c.exceptionTable.isEmpty && decide (c.maxStack ≤ mostOperands) && decide (meth.sig.returnType = rt) && !meth.locks && decide (parseMethodDescriptor y.desc = some meth.sig)) = true) : (Jvm.Cond.code y bytes mx rt).before a s = true := by
  simp only [Bool.and_eq_true, beq_iff_eq, Bool.not_eq_true', decide_eq_true_eq] at h5
  obtain ⟨⟨⟨⟨⟨g1, g2⟩, g3⟩, g4⟩, g5⟩, g6⟩ := h5
  simp [Cond.before, Cond.holds, Cond.value, h1, h2, h3, h4, g1, g2, g3, g4, g5, g6]
def isCode : Jvm.Cond → Bool
  | .code _ _ _ _ => true
  | _ => false
theorem all_split {L : List Jvm.Cond} {P : Jvm.Cond → Bool} (h1 : L.all (fun c => isCode c || P c) = true) (h2 : ∀ c ∈ L.filter isCode, P c = true) : L.all P = true := by
  refine List.all_eq_true.mpr fun c hc => ?_
  have h := List.all_eq_true.mp h1 c hc
  rcases Bool.eq_false_or_eq_true (isCode c) with hi | hi
  · exact h2 c (List.mem_filter.mpr ⟨hc, hi⟩)
  · simpa [hi] using h
set_option maxRecDepth 65536 in
theorem w_c0 : (Jvm.Cond.code x code maxLocals ret).before args0 about1 = true := code_word (m := ⟨1, 3⟩) (meth := k1m3) (c := k1c3) (by decide +kernel) rfl rfl rfl (by decide +kernel)
set_option maxRecDepth 65536 in
theorem w_c1 : (Jvm.Cond.code ({ cls := "com/example/nudge_knob/nudgeknob/ButtonOfKeyCodePinLaw", name := "code", desc := "(I)Lcom/example/nudge_knob/nudgeknob/KeyCode;" } : Jvm.MethodName) method_2_code (1 : Nat) (Option.some (Jvm.ClassFile.FieldType.object "com/example/nudge_knob/nudgeknob/KeyCode"))).before args0 about1 = true := code_word (m := ⟨1, 1⟩) (meth := k1m1) (c := k1c1) (by decide +kernel) rfl rfl rfl (by decide +kernel)
set_option maxRecDepth 65536 in
theorem w_c2 : (Jvm.Cond.code ({ cls := "com/example/nudge_knob/nudgeknob/ButtonOfKeyCodePinLaw", name := "expected", desc := "(I)Lcom/example/nudge_knob/nudgeknob/Button;" } : Jvm.MethodName) method_3_code (1 : Nat) (Option.some (Jvm.ClassFile.FieldType.object "com/example/nudge_knob/nudgeknob/Button"))).before args0 about1 = true := code_word (m := ⟨1, 2⟩) (meth := k1m2) (c := k1c2) (by decide +kernel) rfl rfl rfl (by decide +kernel)
set_option maxRecDepth 65536 in
theorem w_c3 : (Jvm.Cond.code ({ cls := "com/example/nudge_knob/nudgeknob/Button", name := "ofKeyCode", desc := "(Lcom/example/nudge_knob/nudgeknob/KeyCode;)Lcom/example/nudge_knob/nudgeknob/Button;" } : Jvm.MethodName) prog_8_method_8_code (5 : Nat) (Option.some (Jvm.ClassFile.FieldType.object "com/example/nudge_knob/nudgeknob/Button"))).before args0 about1 = true := code_word (m := ⟨7, 0⟩) (meth := k7m0) (c := k7c0) (by decide +kernel) rfl rfl rfl (by decide +kernel)
def codes1 : List Jvm.Cond := [Jvm.Cond.code x code maxLocals ret, Jvm.Cond.code ({ cls := "com/example/nudge_knob/nudgeknob/ButtonOfKeyCodePinLaw", name := "code", desc := "(I)Lcom/example/nudge_knob/nudgeknob/KeyCode;" } : Jvm.MethodName) method_2_code (1 : Nat) (Option.some (Jvm.ClassFile.FieldType.object "com/example/nudge_knob/nudgeknob/KeyCode")), Jvm.Cond.code ({ cls := "com/example/nudge_knob/nudgeknob/ButtonOfKeyCodePinLaw", name := "expected", desc := "(I)Lcom/example/nudge_knob/nudgeknob/Button;" } : Jvm.MethodName) method_3_code (1 : Nat) (Option.some (Jvm.ClassFile.FieldType.object "com/example/nudge_knob/nudgeknob/Button")), Jvm.Cond.code ({ cls := "com/example/nudge_knob/nudgeknob/Button", name := "ofKeyCode", desc := "(Lcom/example/nudge_knob/nudgeknob/KeyCode;)Lcom/example/nudge_knob/nudgeknob/Button;" } : Jvm.MethodName) prog_8_method_8_code (5 : Nat) (Option.some (Jvm.ClassFile.FieldType.object "com/example/nudge_knob/nudgeknob/Button"))]
set_option maxRecDepth 65536 in
theorem codes_eq : words1.filter isCode = codes1 := rfl
theorem w_codes : ∀ c ∈ words1.filter isCode, c.before args0 about1 = true := by
  rw [codes_eq]
  intro c hc
  simp only [codes1, List.mem_cons, List.not_mem_nil, or_false] at hc
  rcases hc with rfl | rfl | rfl | rfl
  · exact w_c0
  · exact w_c1
  · exact w_c2
  · exact w_c3
set_option maxRecDepth 65536 in
theorem w_t1 : (words1.take 24).all (fun c => isCode c || c.before args0 about1) = true := by decide +kernel
set_option maxRecDepth 65536 in
theorem w_t2 : ((words1.drop 24).take 24).all (fun c => isCode c || c.before args0 about1) = true := by decide +kernel
set_option maxRecDepth 65536 in
theorem w_t3 : ((words1.drop 24).drop 24).all (fun c => isCode c || c.before args0 about1) = true := by decide +kernel
theorem w_tables : (allAtoms (Jvm.Cond.code x code maxLocals ret :: tables_1)).before args0 about1 = true := by
  rw [allAtoms_all]
  show words1.all (fun c => c.before args0 about1) = true
  refine all_split ?_ w_codes
  rw [← List.take_append_drop 24 words1, List.all_append, w_t1, ← List.take_append_drop 24 (words1.drop 24), List.all_append, w_t2, w_t3]
  rfl
set_option maxRecDepth 65536 in
theorem w_case : (Jvm.Cond.and given_1 narrow_1).before args0 about1 = true := by decide +kernel
theorem w_applies : (headSpec (Jvm.Cond.code x code maxLocals ret :: tables_1) room_1).applies x e0.platform about1 = true :=
  (Spec.applies_iff w_frames).mpr ⟨w_running, w_runnable, w_alone, w_named, w_hears, w_ripe, w_room, w_tables⟩
theorem atStart : AtStart classFile x code maxLocals ret World_1 tables_1 room_1 Calls_1 rest_1 Pre_1 launch0 p0 e0 about1 theMethod args0 below0 :=
  ⟨lists_1, trivial, launch0.admits_env _ _ _, launch0.least_env, fairChoices_fair.cas, fairChoices_fair.clock, w_frames, w_args, w_heap, w_applies, trivial, trivial, w_case⟩
end start1
theorem witness_1 : WitnessClaimed_1 := ⟨start1.p0, start1.e0, start1.about1, start1.theMethod, start1.args0, start1.below0, start1.atStart⟩
end Jvm.Pilot.@@N@@
