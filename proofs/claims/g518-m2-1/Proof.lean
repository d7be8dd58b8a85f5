import JvmDerived
import JvmDerived.Pilot.@@N@@Statement
import JvmDerived.Pilot.@@N@@Code
set_option linter.unusedVariables false
set_option linter.unusedSimpArgs false
namespace Jvm.RoadKit
open Sem ClassFile Op Lib Jvm.Stand Jvm.Free Jvm.LawKit
section New
variable {p : Program} {l : Launch} {e : Env} {R : Room} {s : State} {m : MethodId} {args : Array Value} {below : List Frame} {meth : Method} {c : Code} {T : State} {locs : List Loc} {cells slots : Nat}
theorem retI (X : Stand p l e R s m args below meth c T locs cells slots) (hx : p.tables.exec = Jvm.exec) {pc : Nat} {Ls : Array Slot} {z : Int32} {rest : List Value} (hret : meth.sig.returnType = some .int) (hd : decode c.code pc = .ok (.ireturn, 1)) {fs : List Frame}
    (hl : ∀ (f : JFrame) (acts : List Action), f.method = m → f.locked = none → f.entered = [] → (doReturn e (T.setTop f) acts (some (.int z))).1 = T.setFrames fs) : Steps p.tables e below (T.setTop (mkF m pc Ls (.int z :: rest))) (T.setFrames fs) :=
  retOut X hx hret rfl (Or.inl ⟨rfl, Or.inl rfl, z, rfl⟩) hd hl
end New
section Carry
variable {Z : State} {h h' : Heap} {C n d : String} {v : Value}
theorem own_ns0 : ∀ x ∈ ([] : List Addr), ∀ c : Cell, h[x]? = some c → c.vm.isStatics = false := fun _ q => nomatch q
theorem own_nsS {a : Addr} {K : String} {L : List Addr} (F : Exa Z h a K) (r : ∀ x ∈ L, ∀ c : Cell, h[x]? = some c → c.vm.isStatics = false) : ∀ x ∈ a :: L, ∀ c : Cell, h[x]? = some c → c.vm.isStatics = false := fun x z c hc => by
  rcases List.mem_cons.mp z with rfl | z
  · obtain ⟨c1, _, h1, -, -, h4, -⟩ := F
    cases h1.symm.trans hc; exact h4
  · exact r x z c hc
theorem own_sta_keep {ws : List Addr} (F : Sta Z h C n d v) (K : Keep h h' ws) (q : ∀ x ∈ ws, ∀ c : Cell, h[x]? = some c → c.vm.isStatics = false) : Sta Z h' C n d v := by
  obtain ⟨cf, i, k, f, st, cell, h1, h2, h3, h4, h5, h6, h7⟩ := F
  exact ⟨cf, i, k, f, st, cell, h1, h2, h3, h4, K.2.1 st cell h5 (fun z => by rw [q st z cell h5] at h6; cases h6), h6, h7⟩
theorem own_fitc {a : Addr} {cl : Cell} {ty : FieldType} {vs : List Value} {d : Value} (A : Arr Z h a cl ty) (H : Has cl vs d) (G : ∀ i, i < cl.slots.size → fits ty (vs.getD i d) = true) : FitC Z cl :=
  fitC_of A fun i hi v hv => by rw [H i hi] at hv; cases hv; exact G i hi
theorem own_evI {args : Array Value} {s : State} {t : Term} {k : Int32} (hh : (Cond.eq t (.int k)).value args s none s [] = some true) : t.eval args s none [] s = some (.int k) := by
  cases hf : t.eval args s none [] s with
  | none => simp [Cond.value, hf] at hh
  | some w => cases w <;> simp [Cond.value, hf, Term.eval] at hh ⊢; exact hh
theorem own_evJ {args : Array Value} {s : State} {t : Term} {k : Int64} (hh : (Cond.eq t (.long k)).value args s none s [] = some true) : t.eval args s none [] s = some (.long k) := by
  cases hf : t.eval args s none [] s with
  | none => simp [Cond.value, hf] at hh
  | some w => cases w <;> simp [Cond.value, hf, Term.eval] at hh ⊢; exact hh
theorem own_evR {args : Array Value} {s : State} {t u : Term} {y : Addr} (hu : u.eval args s none [] s = some (.ref y)) (hh : (Cond.eq t u).value args s none s [] = some true) : t.eval args s none [] s = some (.ref y) := by
  cases hf : t.eval args s none [] s with
  | none => simp [Cond.value, hf] at hh
  | some w => cases w <;> simp [Cond.value, hf, hu] at hh ⊢; exact hh
theorem own_elem {args : Array Value} {s : State} {t u : Term} {x y : Addr} {k : Int32} {cl : Cell} (ht : t.eval args s none [] s = some (.ref x)) (hu : u.eval args s none [] s = some (.ref y)) (hc : s.heap[x]? = some cl) (hh : (Cond.eq (.elem t (.int k)) u).value args s none s [] = some true) : cl.slots[k.toNatClampNeg]? = some (.ref y) :=
  (elem_in (own_evR hu hh) ht rfl hc).2
theorem own_arv {args : Array Value} {s : State} {t : Term} {a : Addr} {c : Cell} {ty : FieldType} {z : Int32} {vs : List Value} {dv : Value} (hf : Fit s) (ev : t.eval args s none [] s = some (.ref a)) (A : Arr s s.heap a c ty) (hl : (Cond.eq (.length t) (.int z)).value args s none s [] = some true) (hz : ¬ z < 0) (hn : z.toNatClampNeg = vs.length) (H : HasL c 0 vs) : Arv s s.heap a c.cls ty z vs dv := by
  have e1 := own_evI hl
  have e2 : s.arrayAt? a = some c := A.fin (Vm.Alike.refl _)
  have q : c.slots.size < 2 ^ 31 := by
    apply Decidable.byContradiction
    intro hq
    simp [Term.eval, ev, e2, hq] at e1
  have e3 := len_f ev e2 q
  exact Arv.start hf A q (Value.int.inj (Option.some.inj (e3.symm.trans e1))) hz hn H
theorem own_lam {s : State} {a0 : Array Value} {y : MethodName} {m : MethodId} {pc index : Nat} {σ : Lambda.Shape} (hZ : Z.Warmed39 s.vm) (w : (Cond.lambdaSite y pc index σ).before a0 Z = true) (hcap : σ.captured = []) (hn : s.methodNamed? y = some m) :
    ∃ (k : Class) (i0 p0 : Nat) (a : Addr), s.vm.classes[m.cls]? = some k ∧ (k.callSites.find? fun z => z.1 == m.idx && z.2.1 == pc) = some (i0, p0, .constant a) := by
  obtain ⟨c, one, hat⟩ := Cond.lambdaSite_spec w
  obtain ⟨m', kS, cfS, i0, p0, lk, hm', hkS, -, -, -, hfind, -, -, hlk⟩ := State.lambdaAt?_spec hat
  have e1 : s.methodNamed? y = Z.methodNamed? y := State.methodNamed?_setVm (s := Z) hZ.alike y
  rw [e1, hm'] at hn
  cases hn
  obtain ⟨k', hk', he⟩ := hZ.alike.2.2 _ _ hkS
  rcases hlk with ⟨a, cell, rfl, -⟩ | ⟨-, -, h⟩
  · exact ⟨k', i0, p0, a, hk', by rw [he]; exact hfind⟩
  · exact absurd hcap h
theorem own_cmp_self (x : Int64) : lcmpW x x = 0 := (lcW x x).trans ((lc_eq x x).mpr rfl)
theorem own_cmp_lt (x : Int64) : ¬ (lcmpW x x < (0 : Int32)) := by rw [own_cmp_self]; decide
theorem own_cmp_gt (x : Int64) : ¬ ((0 : Int32) < lcmpW x x) := by rw [own_cmp_self]; decide
theorem own_sel_priv {s : State} {args args' : Array Value} {K : String} {y z z' : MethodName} (w : (Cond.selects K z' z).before args s = true) (hz : z.cls = y.cls) (hpriv : s.PrivateAt y) (hinst : (Cond.instanceMethod y).before args' s = true) (hy : y.cls ≠ "java/lang/invoke/MethodHandle" ∧ y.cls ≠ "java/lang/invoke/VarHandle") : (Cond.selects y.cls y y).before args' s = true := by
  obtain ⟨c2, r2, m2, q1, q2, q3, q4, kP, hkP, hkPi⟩ := Cond.selects_spec w
  have hc : s.vm.findClass z.cls = some m2.cls := findClass_of_methodNamed q3
  rw [hz] at hc
  exact selects_self_of_private hc hkP hkPi hpriv hinst hy
theorem own_lt_ne {a b : Int32} (q : a < b) : ¬ (a = b) := by intro z; subst z; exact Int32.lt_irrefl q
theorem own_gt_ne {a b : Int32} (q : b < a) : ¬ (a = b) := by intro z; subst z; exact Int32.lt_irrefl q
theorem own_eq_nlt {a b : Int32} (q : a = b) : ¬ (a < b) := by subst q; exact Int32.lt_irrefl
theorem own_nlt {a b : Int32} (q : b < a) : ¬ (a < b) := fun z => Int32.lt_irrefl (Int32.lt_trans z q)
theorem own_tri2 {a b : Int32} (q : ¬ (a = b)) (r : ¬ (b < a)) : a < b := by
  rw [← Int32.toInt_inj] at q; rw [Int32.lt_iff_toInt_lt] at r ⊢; omega
theorem own_fldI {args : Array Value} {s : State} {t : Term} {x : Addr} {C n d : String} {k : Int32} (ht : t.eval args s none [] s = some (.ref x)) (hh : (Cond.eq (.field t C n d) (.int k)).value args s none s [] = some true) : Fld s s.heap x C n d (.int k) :=
  Fld.start ((fld_at ht).symm.trans (own_evI hh))
theorem own_fldJ {args : Array Value} {s : State} {t : Term} {x : Addr} {C n d : String} {k : Int64} (ht : t.eval args s none [] s = some (.ref x)) (hh : (Cond.eq (.field t C n d) (.long k)).value args s none s [] = some true) : Fld s s.heap x C n d (.long k) :=
  Fld.start ((fld_at ht).symm.trans (own_evJ hh))
theorem own_fldN {args : Array Value} {s : State} {t : Term} {x : Addr} {C n d : String} (ht : t.eval args s none [] s = some (.ref x)) (hh : (Cond.eq (.field t C n d) .null).value args s none s [] = some true) : Fld s s.heap x C n d .null := by
  refine Fld.start ?_
  have e1 : (Term.field t C n d).eval args s none [] s = s.fieldOf? x C n d := fld_at ht
  rw [← e1]; exact null_v hh
theorem own_fldR {args : Array Value} {s : State} {t u : Term} {x y : Addr} {C n d : String} (ht : t.eval args s none [] s = some (.ref x)) (hu : u.eval args s none [] s = some (.ref y)) (hh : (Cond.eq (.field t C n d) u).value args s none s [] = some true) : Fld s s.heap x C n d (.ref y) :=
  Fld.start ((fld_at ht).symm.trans (own_evR hu hh))
end Carry
end Jvm.RoadKit
namespace Jvm.Pilot.@@N@@
open Jvm Jvm.ClassFile Sem Op Lib Jvm.Free Jvm.Stand Jvm.LawKit Jvm.RoadKit Bundle Jvm.Pilot.@@N@@.Jvm.D
theorem own_en13 (x : Int32) : ((x &&& (2147483647 : Int32)) % (13 : Int32)) = (0 : Int32) ∨ ((x &&& (2147483647 : Int32)) % (13 : Int32)) = (1 : Int32) ∨ ((x &&& (2147483647 : Int32)) % (13 : Int32)) = (2 : Int32) ∨ ((x &&& (2147483647 : Int32)) % (13 : Int32)) = (3 : Int32) ∨ ((x &&& (2147483647 : Int32)) % (13 : Int32)) = (4 : Int32) ∨ ((x &&& (2147483647 : Int32)) % (13 : Int32)) = (5 : Int32) ∨ ((x &&& (2147483647 : Int32)) % (13 : Int32)) = (6 : Int32) ∨ ((x &&& (2147483647 : Int32)) % (13 : Int32)) = (7 : Int32) ∨ ((x &&& (2147483647 : Int32)) % (13 : Int32)) = (8 : Int32) ∨ ((x &&& (2147483647 : Int32)) % (13 : Int32)) = (9 : Int32) ∨ ((x &&& (2147483647 : Int32)) % (13 : Int32)) = (10 : Int32) ∨ ((x &&& (2147483647 : Int32)) % (13 : Int32)) = (11 : Int32) ∨ ((x &&& (2147483647 : Int32)) % (13 : Int32)) = (12 : Int32) := by
  have e1 := c_mask x (2147483647 : Int32) 31 (by decide) (by decide)
  have e2 : ((x &&& (2147483647 : Int32)) % (13 : Int32)).toInt = (x &&& (2147483647 : Int32)).toInt.tmod (13 : Int32).toInt := Int32.toInt_mod _ _
  have e3 : (13 : Int32).toInt = 13 := by decide
  have h0 : 0 ≤ (x &&& (2147483647 : Int32)).toInt := by first | omega | (rw [e1]; exact Int.emod_nonneg _ (by decide))
  rw [e3, Int.tmod_eq_emod_of_nonneg h0] at e2
  simp only [← Int32.toInt_inj]
  have l0 : (0 : Int32).toInt = 0 := by decide
  have l1 : (1 : Int32).toInt = 1 := by decide
  have l2 : (2 : Int32).toInt = 2 := by decide
  have l3 : (3 : Int32).toInt = 3 := by decide
  have l4 : (4 : Int32).toInt = 4 := by decide
  have l5 : (5 : Int32).toInt = 5 := by decide
  have l6 : (6 : Int32).toInt = 6 := by decide
  have l7 : (7 : Int32).toInt = 7 := by decide
  have l8 : (8 : Int32).toInt = 8 := by decide
  have l9 : (9 : Int32).toInt = 9 := by decide
  have l10 : (10 : Int32).toInt = 10 := by decide
  have l11 : (11 : Int32).toInt = 11 := by decide
  have l12 : (12 : Int32).toInt = 12 := by decide
  rw [l0, l1, l2, l3, l4, l5, l6, l7, l8, l9, l10, l11, l12]
  omega
theorem own_w4 {Z : State} {a0 : Array Value} (hw : ∀ d ∈ tables_1, d.before a0 Z = true) : (Jvm.Cond.laysStatic "com/example/treelational/treelational/xpath/Operator" "OR" "Lcom/example/treelational/treelational/xpath/Operator;").before a0 Z = true := hw _ (List.mem_of_getElem? (i := 4) rfl)
theorem own_w3 {Z : State} {a0 : Array Value} (hw : ∀ d ∈ tables_1, d.before a0 Z = true) : (Jvm.Cond.initialized "com/example/treelational/treelational/xpath/Operator").before a0 Z = true := hw _ (List.mem_of_getElem? (i := 3) rfl)
theorem own_w7 {Z : State} {a0 : Array Value} (hw : ∀ d ∈ tables_1, d.before a0 Z = true) : (Jvm.Cond.laysStatic "com/example/treelational/treelational/xpath/Operator" "AND" "Lcom/example/treelational/treelational/xpath/Operator;").before a0 Z = true := hw _ (List.mem_of_getElem? (i := 7) rfl)
theorem own_w9 {Z : State} {a0 : Array Value} (hw : ∀ d ∈ tables_1, d.before a0 Z = true) : (Jvm.Cond.laysStatic "com/example/treelational/treelational/xpath/Operator" "EQUAL" "Lcom/example/treelational/treelational/xpath/Operator;").before a0 Z = true := hw _ (List.mem_of_getElem? (i := 9) rfl)
theorem own_w11 {Z : State} {a0 : Array Value} (hw : ∀ d ∈ tables_1, d.before a0 Z = true) : (Jvm.Cond.laysStatic "com/example/treelational/treelational/xpath/Operator" "NOT_EQUAL" "Lcom/example/treelational/treelational/xpath/Operator;").before a0 Z = true := hw _ (List.mem_of_getElem? (i := 11) rfl)
theorem own_w13 {Z : State} {a0 : Array Value} (hw : ∀ d ∈ tables_1, d.before a0 Z = true) : (Jvm.Cond.laysStatic "com/example/treelational/treelational/xpath/Operator" "LESS" "Lcom/example/treelational/treelational/xpath/Operator;").before a0 Z = true := hw _ (List.mem_of_getElem? (i := 13) rfl)
theorem own_w15 {Z : State} {a0 : Array Value} (hw : ∀ d ∈ tables_1, d.before a0 Z = true) : (Jvm.Cond.laysStatic "com/example/treelational/treelational/xpath/Operator" "LESS_OR_EQUAL" "Lcom/example/treelational/treelational/xpath/Operator;").before a0 Z = true := hw _ (List.mem_of_getElem? (i := 15) rfl)
theorem own_w17 {Z : State} {a0 : Array Value} (hw : ∀ d ∈ tables_1, d.before a0 Z = true) : (Jvm.Cond.laysStatic "com/example/treelational/treelational/xpath/Operator" "GREATER" "Lcom/example/treelational/treelational/xpath/Operator;").before a0 Z = true := hw _ (List.mem_of_getElem? (i := 17) rfl)
theorem own_w19 {Z : State} {a0 : Array Value} (hw : ∀ d ∈ tables_1, d.before a0 Z = true) : (Jvm.Cond.laysStatic "com/example/treelational/treelational/xpath/Operator" "GREATER_OR_EQUAL" "Lcom/example/treelational/treelational/xpath/Operator;").before a0 Z = true := hw _ (List.mem_of_getElem? (i := 19) rfl)
theorem own_w21 {Z : State} {a0 : Array Value} (hw : ∀ d ∈ tables_1, d.before a0 Z = true) : (Jvm.Cond.laysStatic "com/example/treelational/treelational/xpath/Operator" "PLUS" "Lcom/example/treelational/treelational/xpath/Operator;").before a0 Z = true := hw _ (List.mem_of_getElem? (i := 21) rfl)
theorem own_w23 {Z : State} {a0 : Array Value} (hw : ∀ d ∈ tables_1, d.before a0 Z = true) : (Jvm.Cond.laysStatic "com/example/treelational/treelational/xpath/Operator" "MINUS" "Lcom/example/treelational/treelational/xpath/Operator;").before a0 Z = true := hw _ (List.mem_of_getElem? (i := 23) rfl)
theorem own_w25 {Z : State} {a0 : Array Value} (hw : ∀ d ∈ tables_1, d.before a0 Z = true) : (Jvm.Cond.laysStatic "com/example/treelational/treelational/xpath/Operator" "MULTIPLY" "Lcom/example/treelational/treelational/xpath/Operator;").before a0 Z = true := hw _ (List.mem_of_getElem? (i := 25) rfl)
theorem own_w27 {Z : State} {a0 : Array Value} (hw : ∀ d ∈ tables_1, d.before a0 Z = true) : (Jvm.Cond.laysStatic "com/example/treelational/treelational/xpath/Operator" "DIVIDE" "Lcom/example/treelational/treelational/xpath/Operator;").before a0 Z = true := hw _ (List.mem_of_getElem? (i := 27) rfl)
theorem own_w29 {Z : State} {a0 : Array Value} (hw : ∀ d ∈ tables_1, d.before a0 Z = true) : (Jvm.Cond.laysStatic "com/example/treelational/treelational/xpath/Operator" "MODULO" "Lcom/example/treelational/treelational/xpath/Operator;").before a0 Z = true := hw _ (List.mem_of_getElem? (i := 29) rfl)
theorem own_w0 {Z : State} {a0 : Array Value} (hw : ∀ d ∈ tables_1, d.before a0 Z = true) : (Jvm.Cond.classLink "com/example/treelational/treelational/xpath/OperatorIsComparisonPinLaw" (7 : Nat) "com/example/treelational/treelational/xpath/Operator").before a0 Z = true := hw _ (List.mem_of_getElem? (i := 0) rfl)
theorem own_w1 {Z : State} {a0 : Array Value} (hw : ∀ d ∈ tables_1, d.before a0 Z = true) : (Jvm.Cond.arrayOver (Jvm.ClassFile.FieldType.object "com/example/treelational/treelational/xpath/Operator")).before a0 Z = true := hw _ (List.mem_of_getElem? (i := 1) rfl)
theorem own_w2 {Z : State} {a0 : Array Value} (hw : ∀ d ∈ tables_1, d.before a0 Z = true) : (Jvm.Cond.fieldLink "com/example/treelational/treelational/xpath/OperatorIsComparisonPinLaw" (9 : Nat) "com/example/treelational/treelational/xpath/Operator" "OR" "Lcom/example/treelational/treelational/xpath/Operator;").before a0 Z = true := hw _ (List.mem_of_getElem? (i := 2) rfl)
theorem own_w6 {Z : State} {a0 : Array Value} (hw : ∀ d ∈ tables_1, d.before a0 Z = true) : (Jvm.Cond.fieldLink "com/example/treelational/treelational/xpath/OperatorIsComparisonPinLaw" (13 : Nat) "com/example/treelational/treelational/xpath/Operator" "AND" "Lcom/example/treelational/treelational/xpath/Operator;").before a0 Z = true := hw _ (List.mem_of_getElem? (i := 6) rfl)
theorem own_w8 {Z : State} {a0 : Array Value} (hw : ∀ d ∈ tables_1, d.before a0 Z = true) : (Jvm.Cond.fieldLink "com/example/treelational/treelational/xpath/OperatorIsComparisonPinLaw" (16 : Nat) "com/example/treelational/treelational/xpath/Operator" "EQUAL" "Lcom/example/treelational/treelational/xpath/Operator;").before a0 Z = true := hw _ (List.mem_of_getElem? (i := 8) rfl)
theorem own_w10 {Z : State} {a0 : Array Value} (hw : ∀ d ∈ tables_1, d.before a0 Z = true) : (Jvm.Cond.fieldLink "com/example/treelational/treelational/xpath/OperatorIsComparisonPinLaw" (19 : Nat) "com/example/treelational/treelational/xpath/Operator" "NOT_EQUAL" "Lcom/example/treelational/treelational/xpath/Operator;").before a0 Z = true := hw _ (List.mem_of_getElem? (i := 10) rfl)
theorem own_w12 {Z : State} {a0 : Array Value} (hw : ∀ d ∈ tables_1, d.before a0 Z = true) : (Jvm.Cond.fieldLink "com/example/treelational/treelational/xpath/OperatorIsComparisonPinLaw" (22 : Nat) "com/example/treelational/treelational/xpath/Operator" "LESS" "Lcom/example/treelational/treelational/xpath/Operator;").before a0 Z = true := hw _ (List.mem_of_getElem? (i := 12) rfl)
theorem own_w14 {Z : State} {a0 : Array Value} (hw : ∀ d ∈ tables_1, d.before a0 Z = true) : (Jvm.Cond.fieldLink "com/example/treelational/treelational/xpath/OperatorIsComparisonPinLaw" (25 : Nat) "com/example/treelational/treelational/xpath/Operator" "LESS_OR_EQUAL" "Lcom/example/treelational/treelational/xpath/Operator;").before a0 Z = true := hw _ (List.mem_of_getElem? (i := 14) rfl)
theorem own_w16 {Z : State} {a0 : Array Value} (hw : ∀ d ∈ tables_1, d.before a0 Z = true) : (Jvm.Cond.fieldLink "com/example/treelational/treelational/xpath/OperatorIsComparisonPinLaw" (28 : Nat) "com/example/treelational/treelational/xpath/Operator" "GREATER" "Lcom/example/treelational/treelational/xpath/Operator;").before a0 Z = true := hw _ (List.mem_of_getElem? (i := 16) rfl)
theorem own_w18 {Z : State} {a0 : Array Value} (hw : ∀ d ∈ tables_1, d.before a0 Z = true) : (Jvm.Cond.fieldLink "com/example/treelational/treelational/xpath/OperatorIsComparisonPinLaw" (31 : Nat) "com/example/treelational/treelational/xpath/Operator" "GREATER_OR_EQUAL" "Lcom/example/treelational/treelational/xpath/Operator;").before a0 Z = true := hw _ (List.mem_of_getElem? (i := 18) rfl)
theorem own_w20 {Z : State} {a0 : Array Value} (hw : ∀ d ∈ tables_1, d.before a0 Z = true) : (Jvm.Cond.fieldLink "com/example/treelational/treelational/xpath/OperatorIsComparisonPinLaw" (34 : Nat) "com/example/treelational/treelational/xpath/Operator" "PLUS" "Lcom/example/treelational/treelational/xpath/Operator;").before a0 Z = true := hw _ (List.mem_of_getElem? (i := 20) rfl)
theorem own_w22 {Z : State} {a0 : Array Value} (hw : ∀ d ∈ tables_1, d.before a0 Z = true) : (Jvm.Cond.fieldLink "com/example/treelational/treelational/xpath/OperatorIsComparisonPinLaw" (37 : Nat) "com/example/treelational/treelational/xpath/Operator" "MINUS" "Lcom/example/treelational/treelational/xpath/Operator;").before a0 Z = true := hw _ (List.mem_of_getElem? (i := 22) rfl)
theorem own_w24 {Z : State} {a0 : Array Value} (hw : ∀ d ∈ tables_1, d.before a0 Z = true) : (Jvm.Cond.fieldLink "com/example/treelational/treelational/xpath/OperatorIsComparisonPinLaw" (40 : Nat) "com/example/treelational/treelational/xpath/Operator" "MULTIPLY" "Lcom/example/treelational/treelational/xpath/Operator;").before a0 Z = true := hw _ (List.mem_of_getElem? (i := 24) rfl)
theorem own_w26 {Z : State} {a0 : Array Value} (hw : ∀ d ∈ tables_1, d.before a0 Z = true) : (Jvm.Cond.fieldLink "com/example/treelational/treelational/xpath/OperatorIsComparisonPinLaw" (43 : Nat) "com/example/treelational/treelational/xpath/Operator" "DIVIDE" "Lcom/example/treelational/treelational/xpath/Operator;").before a0 Z = true := hw _ (List.mem_of_getElem? (i := 26) rfl)
theorem own_w28 {Z : State} {a0 : Array Value} (hw : ∀ d ∈ tables_1, d.before a0 Z = true) : (Jvm.Cond.fieldLink "com/example/treelational/treelational/xpath/OperatorIsComparisonPinLaw" (46 : Nat) "com/example/treelational/treelational/xpath/Operator" "MODULO" "Lcom/example/treelational/treelational/xpath/Operator;").before a0 Z = true := hw _ (List.mem_of_getElem? (i := 28) rfl)
theorem own_w30 {Z : State} {a0 : Array Value} (hw : ∀ d ∈ tables_1, d.before a0 Z = true) : (Jvm.Cond.constant "com/example/treelational/treelational/xpath/OperatorIsComparisonPinLaw" (49 : Nat) (2147483647 : Int32)).before a0 Z = true := hw _ (List.mem_of_getElem? (i := 30) rfl)
theorem own_w31 {Z : State} {a0 : Array Value} (hw : ∀ d ∈ tables_1, d.before a0 Z = true) : (Jvm.Cond.methodLink "com/example/treelational/treelational/xpath/OperatorIsComparisonPinLaw" (50 : Nat) ({ cls := "com/example/treelational/treelational/xpath/Operator", name := "isComparison", desc := "()Z" } : Jvm.MethodName)).before a0 Z = true := hw _ (List.mem_of_getElem? (i := 31) rfl)
theorem d1_0 : decode prog_43_method_7_code 0 = .ok (.aload_n 0, 1) := by decide +kernel
theorem d1_1 : decode prog_43_method_7_code 1 = .ok (.getfield 66, 3) := by decide +kernel
theorem own_w36 {Z : State} {a0 : Array Value} (hw : ∀ d ∈ tables_1, d.before a0 Z = true) : (Jvm.Cond.fieldLink "com/example/treelational/treelational/xpath/Operator" (66 : Nat) "com/example/treelational/treelational/xpath/Operator" "precedence" "I").before a0 Z = true := hw _ (List.mem_of_getElem? (i := 36) rfl)
theorem d1_4 : decode prog_43_method_7_code 4 = .ok (.getstatic 10, 3) := by decide +kernel
theorem own_w38 {Z : State} {a0 : Array Value} (hw : ∀ d ∈ tables_1, d.before a0 Z = true) : (Jvm.Cond.fieldLink "com/example/treelational/treelational/xpath/Operator" (10 : Nat) "com/example/treelational/treelational/xpath/Operator" "EQUAL" "Lcom/example/treelational/treelational/xpath/Operator;").before a0 Z = true := hw _ (List.mem_of_getElem? (i := 38) rfl)
theorem d1_7 : decode prog_43_method_7_code 7 = .ok (.getfield 66, 3) := by decide +kernel
theorem d1_10 : decode prog_43_method_7_code 10 = .ok (.if_icmp .lt 20, 3) := by decide +kernel
theorem d1_30 : decode prog_43_method_7_code 30 = .ok (.iconst 0, 1) := by decide +kernel
theorem d1_31 : decode prog_43_method_7_code 31 = .ok (.ireturn, 1) := by decide +kernel
theorem pn_com_example_treelational_treelational_xpath_Operator : plainName "com/example/treelational/treelational/xpath/Operator" = true := by first | (simp [plainName, overriddenIn]; done) | decide +kernel
theorem own_w35 {Z : State} {a0 : Array Value} (hw : ∀ d ∈ tables_1, d.before a0 Z = true) : (Jvm.Cond.code ({ cls := "com/example/treelational/treelational/xpath/Operator", name := "isComparison", desc := "()Z" } : Jvm.MethodName) prog_43_method_7_code (1 : Nat) (Option.some Jvm.ClassFile.FieldType.boolean)).before a0 Z = true := hw _ (List.mem_of_getElem? (i := 35) rfl)
theorem pd___Z : parseMethodDescriptor "()Z" = some ⟨[], some .boolean⟩ := by decide +kernel
theorem own_w34 {Z : State} {a0 : Array Value} (hw : ∀ d ∈ tables_1, d.before a0 Z = true) : (Jvm.Cond.selects "com/example/treelational/treelational/xpath/Operator" ({ cls := "com/example/treelational/treelational/xpath/Operator", name := "isComparison", desc := "()Z" } : Jvm.MethodName) ({ cls := "com/example/treelational/treelational/xpath/Operator", name := "isComparison", desc := "()Z" } : Jvm.MethodName)).before a0 Z = true := hw _ (List.mem_of_getElem? (i := 34) rfl)
theorem own_w32 {Z : State} {a0 : Array Value} (hw : ∀ d ∈ tables_1, d.before a0 Z = true) : (Jvm.Cond.declares ({ cls := "com/example/treelational/treelational/xpath/Operator", name := "isComparison", desc := "()Z" } : Jvm.MethodName)).before a0 Z = true := hw _ (List.mem_of_getElem? (i := 32) rfl)
theorem own_w33 {Z : State} {a0 : Array Value} (hw : ∀ d ∈ tables_1, d.before a0 Z = true) : (Jvm.Cond.instanceMethod ({ cls := "com/example/treelational/treelational/xpath/Operator", name := "isComparison", desc := "()Z" } : Jvm.MethodName)).before a0 Z = true := hw _ (List.mem_of_getElem? (i := 33) rfl)
theorem d1_13 : decode prog_43_method_7_code 13 = .ok (.aload_n 0, 1) := by decide +kernel
theorem d1_14 : decode prog_43_method_7_code 14 = .ok (.getfield 66, 3) := by decide +kernel
theorem d1_17 : decode prog_43_method_7_code 17 = .ok (.getstatic 16, 3) := by decide +kernel
theorem own_w39 {Z : State} {a0 : Array Value} (hw : ∀ d ∈ tables_1, d.before a0 Z = true) : (Jvm.Cond.fieldLink "com/example/treelational/treelational/xpath/Operator" (16 : Nat) "com/example/treelational/treelational/xpath/Operator" "LESS" "Lcom/example/treelational/treelational/xpath/Operator;").before a0 Z = true := hw _ (List.mem_of_getElem? (i := 39) rfl)
theorem d1_20 : decode prog_43_method_7_code 20 = .ok (.getfield 66, 3) := by decide +kernel
theorem d1_23 : decode prog_43_method_7_code 23 = .ok (.if_icmp .gt 7, 3) := by decide +kernel
theorem d1_26 : decode prog_43_method_7_code 26 = .ok (.iconst 1, 1) := by decide +kernel
theorem d1_27 : decode prog_43_method_7_code 27 = .ok (.goto 4, 3) := by decide +kernel
theorem pn_com_example_treelational_treelational_xpath_OperatorIsComparisonPinLaw : plainName "com/example/treelational/treelational/xpath/OperatorIsComparisonPinLaw" = true := by first | (simp [plainName, overriddenIn]; done) | decide +kernel
theorem ef1_1 (m : MethodId) (a1 : Addr) : entryFrame m #[(.ref a1)] 1 = mkF m 0 #[.val (.ref a1)] [] := by first | (simp [entryFrame, mkF, argsToLocals, Value.category]; done) | rfl
def Q1_1 (Z : State) (a1 : Addr) (a2 : Addr) (h0 : Heap) (n0 : Nat) (v : Option Value) (h : Heap) (L : List Loc) : Prop := v = some (.int (0 : Int32)) ∧ Fr n0 L ∧ h = h0
set_option maxRecDepth 65536 in
set_option maxHeartbeats 40000000 in
theorem rm1_1 (l : Launch) (Z : State) (a0 : Array Value) (hw : ∀ d ∈ tables_1, d.before a0 Z = true) (ws : List Jvm.Cond) (a1 : Addr) (a2 : Addr) (h0 : Heap) (n0 : Nat) (Z0 : n0 ≤ h0.size) (F_a1_precedence : Fld Z h0 a1 "com/example/treelational/treelational/xpath/Operator" "precedence" "I" (.int (1 : Int32))) (S_Operator_EQUAL : Sta Z h0 "com/example/treelational/treelational/xpath/Operator" "EQUAL" "Lcom/example/treelational/treelational/xpath/Operator;" (.ref a2)) (F_a2_precedence : Fld Z h0 a2 "com/example/treelational/treelational/xpath/Operator" "precedence" "I" (.int (3 : Int32))) :
    MetFree l (⟨"com/example/treelational/treelational/xpath/Operator", "isComparison", "()Z"⟩ : MethodName) (head1 (Jvm.Cond.code (⟨"com/example/treelational/treelational/xpath/Operator", "isComparison", "()Z"⟩ : MethodName) prog_43_method_7_code 1 (some .boolean) :: ws) ({ frames := 0, cells := 0, slots := 0, locals := 0 } : Room)) (fun a U => a = #[(.ref a1)] ∧ Z.Warmed39 U.vm ∧ U.heap = h0) (fun _ _ _ _ _ => True) (fun _ U o U' => ∃ v L, o = .returned v ∧ Q1_1 Z a1 a2 h0 n0 v U'.heap L ∧ FrameEnd U o U' L ({ frames := 0, cells := 0, slots := 0, locals := 0 } : Room).cells ({ frames := 0, cells := 0, slots := 0, locals := 0 } : Room).slots) := by
  refine MetFree.of_bodySF (plainFor_of_name pn_com_example_treelational_treelational_xpath_Operator) hisR ?_
  intro p e s m args below meth c s₁ Bd hml0 hP hK
  obtain ⟨rfl, hZ, hh⟩ := hP
  have hx := Bd.exec
  have hby := Bd.bytes
  have hml : c.maxLocals = 1 := hml0
  have hown : s.vm.findClass "com/example/treelational/treelational/xpath/Operator" = some m.cls := findClass_of_methodNamed Bd.named
  have hnm := (name_of_methodNamed Bd.named Bd.method).1
  have X0 : Stand p l e ({ frames := 0, cells := 0, slots := 0, locals := 0 } : Room) s m #[(.ref a1)] below meth c s₁ [] 0 0 := Stand.of_body Bd
  have e0 : s₁.heap = h0 := by rw [← hh, Bd.state]; rfl
  have N0 := Fr.nil n0
  have pre0 : ∀ t, Steps p.tables e below (s₁.setTop (mkF m 0 #[.val (.ref a1)] [])) t → Steps p.tables e below (s₁.setTop (entryFrame m #[(.ref a1)] 1)) t := fun t k => castTop (ef1_1 m a1) k
  obtain ⟨T1, X1, e1, st1⟩ := getF X0 hx hZ hown (host := "") (Or.inl (own_w36 hw)) Via.refl e0 F_a1_precedence (g := (mkF m 1 #[.val (.ref a1)] [(.ref a1)])) rfl rfl (hb hby d1_1)
  obtain ⟨T2, X2, e2, st2⟩ := getS2 X1 hx hZ hown (host := "") (Or.inl (own_w38 hw)) Via.refl e1 S_Operator_EQUAL (g := (mkF m 4 #[.val (.ref a1)] [(.int (1 : Int32))])) rfl (hb hby d1_4)
  obtain ⟨T3, X3, e3, st3⟩ := getF X2 hx hZ hown (host := "") (Or.inl (own_w36 hw)) Via.refl e2 F_a2_precedence (g := (mkF m 7 #[.val (.ref a1)] [(.ref a2), (.int (1 : Int32))])) rfl rfl (hb hby d1_7)
  obtain ⟨fs, hr, hrun, hended, hW, hsame⟩ := X3.leave (v := some (.int (0 : Int32))) (fun h => by rw [Bd.returns] at h; cases h)
  refine ⟨_, _, pre0 _ ?_, hrun, hended, _, _, rfl, ?_, ⟨_, rfl⟩, hW, hsame.mono (by decide) (by decide)⟩
  · show Steps p.tables e below (s₁.setTop (mkF m 0 #[.val (.ref a1)] [])) _
    refine XS.aloadN X0.here hx rfl (hb hby d1_0) rfl rfl ?_
    show Steps p.tables e below (s₁.setTop (mkF m 1 #[.val (.ref a1)] [(.ref a1)])) _
    refine st1 _ ?_
    show Steps p.tables e below (T1.setTop (mkF m 4 #[.val (.ref a1)] [(.int (1 : Int32))])) _
    refine st2 _ ?_
    show Steps p.tables e below (T2.setTop (mkF m 7 #[.val (.ref a1)] [(.ref a2), (.int (1 : Int32))])) _
    refine st3 _ ?_
    show Steps p.tables e below (T3.setTop (mkF m 10 #[.val (.ref a1)] [(.int (3 : Int32)), (.int (1 : Int32))])) _
    refine XS.icmpYes X3.here hx rfl (pc0 := 10) (pc' := 30) rfl (hb hby d1_10) rfl (tlt (by decide : (1 : Int32) < (3 : Int32))).1 (by decide) (by decide) ?_
    show Steps p.tables e below (T3.setTop (mkF m 30 #[.val (.ref a1)] [])) _
    refine XS.iconst X3.here hx rfl (hb hby d1_30) ?_
    show Steps p.tables e below (T3.setTop (mkF m 31 #[.val (.ref a1)] [(.int (0 : Int32))])) _
    exact retN X3 hx (t := .boolean) Bd.returns (by simp) (hb hby d1_31) hr
  · show Q1_1 Z a1 a2 h0 n0 _ T3.heap _
    rw [e3]
    exact ⟨rfl, N0, rfl⟩
theorem ef1_2 (m : MethodId) (a1 : Addr) : entryFrame m #[(.ref a1)] 1 = mkF m 0 #[.val (.ref a1)] [] := by first | (simp [entryFrame, mkF, argsToLocals, Value.category]; done) | rfl
def Q1_2 (Z : State) (a1 : Addr) (a2 : Addr) (h0 : Heap) (n0 : Nat) (v : Option Value) (h : Heap) (L : List Loc) : Prop := v = some (.int (0 : Int32)) ∧ Fr n0 L ∧ h = h0
set_option maxRecDepth 65536 in
set_option maxHeartbeats 40000000 in
theorem rm1_2 (l : Launch) (Z : State) (a0 : Array Value) (hw : ∀ d ∈ tables_1, d.before a0 Z = true) (ws : List Jvm.Cond) (a1 : Addr) (a2 : Addr) (h0 : Heap) (n0 : Nat) (Z0 : n0 ≤ h0.size) (F_a1_precedence : Fld Z h0 a1 "com/example/treelational/treelational/xpath/Operator" "precedence" "I" (.int (2 : Int32))) (S_Operator_EQUAL : Sta Z h0 "com/example/treelational/treelational/xpath/Operator" "EQUAL" "Lcom/example/treelational/treelational/xpath/Operator;" (.ref a2)) (F_a2_precedence : Fld Z h0 a2 "com/example/treelational/treelational/xpath/Operator" "precedence" "I" (.int (3 : Int32))) :
    MetFree l (⟨"com/example/treelational/treelational/xpath/Operator", "isComparison", "()Z"⟩ : MethodName) (head1 (Jvm.Cond.code (⟨"com/example/treelational/treelational/xpath/Operator", "isComparison", "()Z"⟩ : MethodName) prog_43_method_7_code 1 (some .boolean) :: ws) ({ frames := 0, cells := 0, slots := 0, locals := 0 } : Room)) (fun a U => a = #[(.ref a1)] ∧ Z.Warmed39 U.vm ∧ U.heap = h0) (fun _ _ _ _ _ => True) (fun _ U o U' => ∃ v L, o = .returned v ∧ Q1_2 Z a1 a2 h0 n0 v U'.heap L ∧ FrameEnd U o U' L ({ frames := 0, cells := 0, slots := 0, locals := 0 } : Room).cells ({ frames := 0, cells := 0, slots := 0, locals := 0 } : Room).slots) := by
  refine MetFree.of_bodySF (plainFor_of_name pn_com_example_treelational_treelational_xpath_Operator) hisR ?_
  intro p e s m args below meth c s₁ Bd hml0 hP hK
  obtain ⟨rfl, hZ, hh⟩ := hP
  have hx := Bd.exec
  have hby := Bd.bytes
  have hml : c.maxLocals = 1 := hml0
  have hown : s.vm.findClass "com/example/treelational/treelational/xpath/Operator" = some m.cls := findClass_of_methodNamed Bd.named
  have hnm := (name_of_methodNamed Bd.named Bd.method).1
  have X0 : Stand p l e ({ frames := 0, cells := 0, slots := 0, locals := 0 } : Room) s m #[(.ref a1)] below meth c s₁ [] 0 0 := Stand.of_body Bd
  have e0 : s₁.heap = h0 := by rw [← hh, Bd.state]; rfl
  have N0 := Fr.nil n0
  have pre0 : ∀ t, Steps p.tables e below (s₁.setTop (mkF m 0 #[.val (.ref a1)] [])) t → Steps p.tables e below (s₁.setTop (entryFrame m #[(.ref a1)] 1)) t := fun t k => castTop (ef1_2 m a1) k
  obtain ⟨T1, X1, e1, st1⟩ := getF X0 hx hZ hown (host := "") (Or.inl (own_w36 hw)) Via.refl e0 F_a1_precedence (g := (mkF m 1 #[.val (.ref a1)] [(.ref a1)])) rfl rfl (hb hby d1_1)
  obtain ⟨T2, X2, e2, st2⟩ := getS2 X1 hx hZ hown (host := "") (Or.inl (own_w38 hw)) Via.refl e1 S_Operator_EQUAL (g := (mkF m 4 #[.val (.ref a1)] [(.int (2 : Int32))])) rfl (hb hby d1_4)
  obtain ⟨T3, X3, e3, st3⟩ := getF X2 hx hZ hown (host := "") (Or.inl (own_w36 hw)) Via.refl e2 F_a2_precedence (g := (mkF m 7 #[.val (.ref a1)] [(.ref a2), (.int (2 : Int32))])) rfl rfl (hb hby d1_7)
  obtain ⟨fs, hr, hrun, hended, hW, hsame⟩ := X3.leave (v := some (.int (0 : Int32))) (fun h => by rw [Bd.returns] at h; cases h)
  refine ⟨_, _, pre0 _ ?_, hrun, hended, _, _, rfl, ?_, ⟨_, rfl⟩, hW, hsame.mono (by decide) (by decide)⟩
  · show Steps p.tables e below (s₁.setTop (mkF m 0 #[.val (.ref a1)] [])) _
    refine XS.aloadN X0.here hx rfl (hb hby d1_0) rfl rfl ?_
    show Steps p.tables e below (s₁.setTop (mkF m 1 #[.val (.ref a1)] [(.ref a1)])) _
    refine st1 _ ?_
    show Steps p.tables e below (T1.setTop (mkF m 4 #[.val (.ref a1)] [(.int (2 : Int32))])) _
    refine st2 _ ?_
    show Steps p.tables e below (T2.setTop (mkF m 7 #[.val (.ref a1)] [(.ref a2), (.int (2 : Int32))])) _
    refine st3 _ ?_
    show Steps p.tables e below (T3.setTop (mkF m 10 #[.val (.ref a1)] [(.int (3 : Int32)), (.int (2 : Int32))])) _
    refine XS.icmpYes X3.here hx rfl (pc0 := 10) (pc' := 30) rfl (hb hby d1_10) rfl (tlt (by decide : (2 : Int32) < (3 : Int32))).1 (by decide) (by decide) ?_
    show Steps p.tables e below (T3.setTop (mkF m 30 #[.val (.ref a1)] [])) _
    refine XS.iconst X3.here hx rfl (hb hby d1_30) ?_
    show Steps p.tables e below (T3.setTop (mkF m 31 #[.val (.ref a1)] [(.int (0 : Int32))])) _
    exact retN X3 hx (t := .boolean) Bd.returns (by simp) (hb hby d1_31) hr
  · show Q1_2 Z a1 a2 h0 n0 _ T3.heap _
    rw [e3]
    exact ⟨rfl, N0, rfl⟩
theorem ef1_3 (m : MethodId) (a1 : Addr) : entryFrame m #[(.ref a1)] 1 = mkF m 0 #[.val (.ref a1)] [] := by first | (simp [entryFrame, mkF, argsToLocals, Value.category]; done) | rfl
def Q1_3 (Z : State) (a1 : Addr) (a2 : Addr) (h0 : Heap) (n0 : Nat) (v : Option Value) (h : Heap) (L : List Loc) : Prop := v = some (.int (1 : Int32)) ∧ Fr n0 L ∧ h = h0
set_option maxRecDepth 65536 in
set_option maxHeartbeats 40000000 in
theorem rm1_3 (l : Launch) (Z : State) (a0 : Array Value) (hw : ∀ d ∈ tables_1, d.before a0 Z = true) (ws : List Jvm.Cond) (a1 : Addr) (a2 : Addr) (h0 : Heap) (n0 : Nat) (Z0 : n0 ≤ h0.size) (F_a1_precedence : Fld Z h0 a1 "com/example/treelational/treelational/xpath/Operator" "precedence" "I" (.int (3 : Int32))) (S_Operator_EQUAL : Sta Z h0 "com/example/treelational/treelational/xpath/Operator" "EQUAL" "Lcom/example/treelational/treelational/xpath/Operator;" (.ref a1)) (S_Operator_LESS : Sta Z h0 "com/example/treelational/treelational/xpath/Operator" "LESS" "Lcom/example/treelational/treelational/xpath/Operator;" (.ref a2)) (F_a2_precedence : Fld Z h0 a2 "com/example/treelational/treelational/xpath/Operator" "precedence" "I" (.int (4 : Int32))) :
    MetFree l (⟨"com/example/treelational/treelational/xpath/Operator", "isComparison", "()Z"⟩ : MethodName) (head1 (Jvm.Cond.code (⟨"com/example/treelational/treelational/xpath/Operator", "isComparison", "()Z"⟩ : MethodName) prog_43_method_7_code 1 (some .boolean) :: ws) ({ frames := 0, cells := 0, slots := 0, locals := 0 } : Room)) (fun a U => a = #[(.ref a1)] ∧ Z.Warmed39 U.vm ∧ U.heap = h0) (fun _ _ _ _ _ => True) (fun _ U o U' => ∃ v L, o = .returned v ∧ Q1_3 Z a1 a2 h0 n0 v U'.heap L ∧ FrameEnd U o U' L ({ frames := 0, cells := 0, slots := 0, locals := 0 } : Room).cells ({ frames := 0, cells := 0, slots := 0, locals := 0 } : Room).slots) := by
  refine MetFree.of_bodySF (plainFor_of_name pn_com_example_treelational_treelational_xpath_Operator) hisR ?_
  intro p e s m args below meth c s₁ Bd hml0 hP hK
  obtain ⟨rfl, hZ, hh⟩ := hP
  have hx := Bd.exec
  have hby := Bd.bytes
  have hml : c.maxLocals = 1 := hml0
  have hown : s.vm.findClass "com/example/treelational/treelational/xpath/Operator" = some m.cls := findClass_of_methodNamed Bd.named
  have hnm := (name_of_methodNamed Bd.named Bd.method).1
  have X0 : Stand p l e ({ frames := 0, cells := 0, slots := 0, locals := 0 } : Room) s m #[(.ref a1)] below meth c s₁ [] 0 0 := Stand.of_body Bd
  have e0 : s₁.heap = h0 := by rw [← hh, Bd.state]; rfl
  have N0 := Fr.nil n0
  have pre0 : ∀ t, Steps p.tables e below (s₁.setTop (mkF m 0 #[.val (.ref a1)] [])) t → Steps p.tables e below (s₁.setTop (entryFrame m #[(.ref a1)] 1)) t := fun t k => castTop (ef1_3 m a1) k
  obtain ⟨T1, X1, e1, st1⟩ := getF X0 hx hZ hown (host := "") (Or.inl (own_w36 hw)) Via.refl e0 F_a1_precedence (g := (mkF m 1 #[.val (.ref a1)] [(.ref a1)])) rfl rfl (hb hby d1_1)
  obtain ⟨T2, X2, e2, st2⟩ := getS2 X1 hx hZ hown (host := "") (Or.inl (own_w38 hw)) Via.refl e1 S_Operator_EQUAL (g := (mkF m 4 #[.val (.ref a1)] [(.int (3 : Int32))])) rfl (hb hby d1_4)
  obtain ⟨T3, X3, e3, st3⟩ := getF X2 hx hZ hown (host := "") (Or.inl (own_w36 hw)) Via.refl e2 F_a1_precedence (g := (mkF m 7 #[.val (.ref a1)] [(.ref a1), (.int (3 : Int32))])) rfl rfl (hb hby d1_7)
  obtain ⟨T4, X4, e4, st4⟩ := getF X3 hx hZ hown (host := "") (Or.inl (own_w36 hw)) Via.refl e3 F_a1_precedence (g := (mkF m 14 #[.val (.ref a1)] [(.ref a1)])) rfl rfl (hb hby d1_14)
  obtain ⟨T5, X5, e5, st5⟩ := getS2 X4 hx hZ hown (host := "") (Or.inl (own_w39 hw)) Via.refl e4 S_Operator_LESS (g := (mkF m 17 #[.val (.ref a1)] [(.int (3 : Int32))])) rfl (hb hby d1_17)
  obtain ⟨T6, X6, e6, st6⟩ := getF X5 hx hZ hown (host := "") (Or.inl (own_w36 hw)) Via.refl e5 F_a2_precedence (g := (mkF m 20 #[.val (.ref a1)] [(.ref a2), (.int (3 : Int32))])) rfl rfl (hb hby d1_20)
  obtain ⟨fs, hr, hrun, hended, hW, hsame⟩ := X6.leave (v := some (.int (1 : Int32))) (fun h => by rw [Bd.returns] at h; cases h)
  refine ⟨_, _, pre0 _ ?_, hrun, hended, _, _, rfl, ?_, ⟨_, rfl⟩, hW, hsame.mono (by decide) (by decide)⟩
  · show Steps p.tables e below (s₁.setTop (mkF m 0 #[.val (.ref a1)] [])) _
    refine XS.aloadN X0.here hx rfl (hb hby d1_0) rfl rfl ?_
    show Steps p.tables e below (s₁.setTop (mkF m 1 #[.val (.ref a1)] [(.ref a1)])) _
    refine st1 _ ?_
    show Steps p.tables e below (T1.setTop (mkF m 4 #[.val (.ref a1)] [(.int (3 : Int32))])) _
    refine st2 _ ?_
    show Steps p.tables e below (T2.setTop (mkF m 7 #[.val (.ref a1)] [(.ref a1), (.int (3 : Int32))])) _
    refine st3 _ ?_
    show Steps p.tables e below (T3.setTop (mkF m 10 #[.val (.ref a1)] [(.int (3 : Int32)), (.int (3 : Int32))])) _
    refine XS.icmpNo X3.here hx rfl (hb hby d1_10) rfl (flt (by decide : ¬ ((3 : Int32) < (3 : Int32)))).1 ?_
    show Steps p.tables e below (T3.setTop (mkF m 13 #[.val (.ref a1)] [])) _
    refine XS.aloadN X3.here hx rfl (hb hby d1_13) rfl rfl ?_
    show Steps p.tables e below (T3.setTop (mkF m 14 #[.val (.ref a1)] [(.ref a1)])) _
    refine st4 _ ?_
    show Steps p.tables e below (T4.setTop (mkF m 17 #[.val (.ref a1)] [(.int (3 : Int32))])) _
    refine st5 _ ?_
    show Steps p.tables e below (T5.setTop (mkF m 20 #[.val (.ref a1)] [(.ref a2), (.int (3 : Int32))])) _
    refine st6 _ ?_
    show Steps p.tables e below (T6.setTop (mkF m 23 #[.val (.ref a1)] [(.int (4 : Int32)), (.int (3 : Int32))])) _
    refine XS.icmpNo X6.here hx rfl (hb hby d1_23) rfl (flt (by decide : ¬ ((4 : Int32) < (3 : Int32)))).2.2.1 ?_
    show Steps p.tables e below (T6.setTop (mkF m 26 #[.val (.ref a1)] [])) _
    refine XS.iconst X6.here hx rfl (hb hby d1_26) ?_
    show Steps p.tables e below (T6.setTop (mkF m 27 #[.val (.ref a1)] [(.int (1 : Int32))])) _
    refine XS.goto X6.here hx rfl (pc0 := 27) (pc' := 31) rfl (hb hby d1_27) (by decide) (by decide) ?_
    show Steps p.tables e below (T6.setTop (mkF m 31 #[.val (.ref a1)] [(.int (1 : Int32))])) _
    exact retN X6 hx (t := .boolean) Bd.returns (by simp) (hb hby d1_31) hr
  · show Q1_3 Z a1 a2 h0 n0 _ T6.heap _
    rw [e6]
    exact ⟨rfl, N0, rfl⟩
theorem ef1_4 (m : MethodId) (a1 : Addr) : entryFrame m #[(.ref a1)] 1 = mkF m 0 #[.val (.ref a1)] [] := by first | (simp [entryFrame, mkF, argsToLocals, Value.category]; done) | rfl
def Q1_4 (Z : State) (a1 : Addr) (a2 : Addr) (a3 : Addr) (h0 : Heap) (n0 : Nat) (v : Option Value) (h : Heap) (L : List Loc) : Prop := v = some (.int (1 : Int32)) ∧ Fr n0 L ∧ h = h0
set_option maxRecDepth 65536 in
set_option maxHeartbeats 40000000 in
theorem rm1_4 (l : Launch) (Z : State) (a0 : Array Value) (hw : ∀ d ∈ tables_1, d.before a0 Z = true) (ws : List Jvm.Cond) (a1 : Addr) (a2 : Addr) (a3 : Addr) (h0 : Heap) (n0 : Nat) (Z0 : n0 ≤ h0.size) (F_a1_precedence : Fld Z h0 a1 "com/example/treelational/treelational/xpath/Operator" "precedence" "I" (.int (3 : Int32))) (S_Operator_EQUAL : Sta Z h0 "com/example/treelational/treelational/xpath/Operator" "EQUAL" "Lcom/example/treelational/treelational/xpath/Operator;" (.ref a2)) (F_a2_precedence : Fld Z h0 a2 "com/example/treelational/treelational/xpath/Operator" "precedence" "I" (.int (3 : Int32))) (S_Operator_LESS : Sta Z h0 "com/example/treelational/treelational/xpath/Operator" "LESS" "Lcom/example/treelational/treelational/xpath/Operator;" (.ref a3)) (F_a3_precedence : Fld Z h0 a3 "com/example/treelational/treelational/xpath/Operator" "precedence" "I" (.int (4 : Int32))) :
    MetFree l (⟨"com/example/treelational/treelational/xpath/Operator", "isComparison", "()Z"⟩ : MethodName) (head1 (Jvm.Cond.code (⟨"com/example/treelational/treelational/xpath/Operator", "isComparison", "()Z"⟩ : MethodName) prog_43_method_7_code 1 (some .boolean) :: ws) ({ frames := 0, cells := 0, slots := 0, locals := 0 } : Room)) (fun a U => a = #[(.ref a1)] ∧ Z.Warmed39 U.vm ∧ U.heap = h0) (fun _ _ _ _ _ => True) (fun _ U o U' => ∃ v L, o = .returned v ∧ Q1_4 Z a1 a2 a3 h0 n0 v U'.heap L ∧ FrameEnd U o U' L ({ frames := 0, cells := 0, slots := 0, locals := 0 } : Room).cells ({ frames := 0, cells := 0, slots := 0, locals := 0 } : Room).slots) := by
  refine MetFree.of_bodySF (plainFor_of_name pn_com_example_treelational_treelational_xpath_Operator) hisR ?_
  intro p e s m args below meth c s₁ Bd hml0 hP hK
  obtain ⟨rfl, hZ, hh⟩ := hP
  have hx := Bd.exec
  have hby := Bd.bytes
  have hml : c.maxLocals = 1 := hml0
  have hown : s.vm.findClass "com/example/treelational/treelational/xpath/Operator" = some m.cls := findClass_of_methodNamed Bd.named
  have hnm := (name_of_methodNamed Bd.named Bd.method).1
  have X0 : Stand p l e ({ frames := 0, cells := 0, slots := 0, locals := 0 } : Room) s m #[(.ref a1)] below meth c s₁ [] 0 0 := Stand.of_body Bd
  have e0 : s₁.heap = h0 := by rw [← hh, Bd.state]; rfl
  have N0 := Fr.nil n0
  have pre0 : ∀ t, Steps p.tables e below (s₁.setTop (mkF m 0 #[.val (.ref a1)] [])) t → Steps p.tables e below (s₁.setTop (entryFrame m #[(.ref a1)] 1)) t := fun t k => castTop (ef1_4 m a1) k
  obtain ⟨T1, X1, e1, st1⟩ := getF X0 hx hZ hown (host := "") (Or.inl (own_w36 hw)) Via.refl e0 F_a1_precedence (g := (mkF m 1 #[.val (.ref a1)] [(.ref a1)])) rfl rfl (hb hby d1_1)
  obtain ⟨T2, X2, e2, st2⟩ := getS2 X1 hx hZ hown (host := "") (Or.inl (own_w38 hw)) Via.refl e1 S_Operator_EQUAL (g := (mkF m 4 #[.val (.ref a1)] [(.int (3 : Int32))])) rfl (hb hby d1_4)
  obtain ⟨T3, X3, e3, st3⟩ := getF X2 hx hZ hown (host := "") (Or.inl (own_w36 hw)) Via.refl e2 F_a2_precedence (g := (mkF m 7 #[.val (.ref a1)] [(.ref a2), (.int (3 : Int32))])) rfl rfl (hb hby d1_7)
  obtain ⟨T4, X4, e4, st4⟩ := getF X3 hx hZ hown (host := "") (Or.inl (own_w36 hw)) Via.refl e3 F_a1_precedence (g := (mkF m 14 #[.val (.ref a1)] [(.ref a1)])) rfl rfl (hb hby d1_14)
  obtain ⟨T5, X5, e5, st5⟩ := getS2 X4 hx hZ hown (host := "") (Or.inl (own_w39 hw)) Via.refl e4 S_Operator_LESS (g := (mkF m 17 #[.val (.ref a1)] [(.int (3 : Int32))])) rfl (hb hby d1_17)
  obtain ⟨T6, X6, e6, st6⟩ := getF X5 hx hZ hown (host := "") (Or.inl (own_w36 hw)) Via.refl e5 F_a3_precedence (g := (mkF m 20 #[.val (.ref a1)] [(.ref a3), (.int (3 : Int32))])) rfl rfl (hb hby d1_20)
  obtain ⟨fs, hr, hrun, hended, hW, hsame⟩ := X6.leave (v := some (.int (1 : Int32))) (fun h => by rw [Bd.returns] at h; cases h)
  refine ⟨_, _, pre0 _ ?_, hrun, hended, _, _, rfl, ?_, ⟨_, rfl⟩, hW, hsame.mono (by decide) (by decide)⟩
  · show Steps p.tables e below (s₁.setTop (mkF m 0 #[.val (.ref a1)] [])) _
    refine XS.aloadN X0.here hx rfl (hb hby d1_0) rfl rfl ?_
    show Steps p.tables e below (s₁.setTop (mkF m 1 #[.val (.ref a1)] [(.ref a1)])) _
    refine st1 _ ?_
    show Steps p.tables e below (T1.setTop (mkF m 4 #[.val (.ref a1)] [(.int (3 : Int32))])) _
    refine st2 _ ?_
    show Steps p.tables e below (T2.setTop (mkF m 7 #[.val (.ref a1)] [(.ref a2), (.int (3 : Int32))])) _
    refine st3 _ ?_
    show Steps p.tables e below (T3.setTop (mkF m 10 #[.val (.ref a1)] [(.int (3 : Int32)), (.int (3 : Int32))])) _
    refine XS.icmpNo X3.here hx rfl (hb hby d1_10) rfl (flt (by decide : ¬ ((3 : Int32) < (3 : Int32)))).1 ?_
    show Steps p.tables e below (T3.setTop (mkF m 13 #[.val (.ref a1)] [])) _
    refine XS.aloadN X3.here hx rfl (hb hby d1_13) rfl rfl ?_
    show Steps p.tables e below (T3.setTop (mkF m 14 #[.val (.ref a1)] [(.ref a1)])) _
    refine st4 _ ?_
    show Steps p.tables e below (T4.setTop (mkF m 17 #[.val (.ref a1)] [(.int (3 : Int32))])) _
    refine st5 _ ?_
    show Steps p.tables e below (T5.setTop (mkF m 20 #[.val (.ref a1)] [(.ref a3), (.int (3 : Int32))])) _
    refine st6 _ ?_
    show Steps p.tables e below (T6.setTop (mkF m 23 #[.val (.ref a1)] [(.int (4 : Int32)), (.int (3 : Int32))])) _
    refine XS.icmpNo X6.here hx rfl (hb hby d1_23) rfl (flt (by decide : ¬ ((4 : Int32) < (3 : Int32)))).2.2.1 ?_
    show Steps p.tables e below (T6.setTop (mkF m 26 #[.val (.ref a1)] [])) _
    refine XS.iconst X6.here hx rfl (hb hby d1_26) ?_
    show Steps p.tables e below (T6.setTop (mkF m 27 #[.val (.ref a1)] [(.int (1 : Int32))])) _
    refine XS.goto X6.here hx rfl (pc0 := 27) (pc' := 31) rfl (hb hby d1_27) (by decide) (by decide) ?_
    show Steps p.tables e below (T6.setTop (mkF m 31 #[.val (.ref a1)] [(.int (1 : Int32))])) _
    exact retN X6 hx (t := .boolean) Bd.returns (by simp) (hb hby d1_31) hr
  · show Q1_4 Z a1 a2 a3 h0 n0 _ T6.heap _
    rw [e6]
    exact ⟨rfl, N0, rfl⟩
theorem ef1_5 (m : MethodId) (a1 : Addr) : entryFrame m #[(.ref a1)] 1 = mkF m 0 #[.val (.ref a1)] [] := by first | (simp [entryFrame, mkF, argsToLocals, Value.category]; done) | rfl
def Q1_5 (Z : State) (a1 : Addr) (a2 : Addr) (h0 : Heap) (n0 : Nat) (v : Option Value) (h : Heap) (L : List Loc) : Prop := v = some (.int (1 : Int32)) ∧ Fr n0 L ∧ h = h0
set_option maxRecDepth 65536 in
set_option maxHeartbeats 40000000 in
theorem rm1_5 (l : Launch) (Z : State) (a0 : Array Value) (hw : ∀ d ∈ tables_1, d.before a0 Z = true) (ws : List Jvm.Cond) (a1 : Addr) (a2 : Addr) (h0 : Heap) (n0 : Nat) (Z0 : n0 ≤ h0.size) (F_a1_precedence : Fld Z h0 a1 "com/example/treelational/treelational/xpath/Operator" "precedence" "I" (.int (4 : Int32))) (S_Operator_EQUAL : Sta Z h0 "com/example/treelational/treelational/xpath/Operator" "EQUAL" "Lcom/example/treelational/treelational/xpath/Operator;" (.ref a2)) (F_a2_precedence : Fld Z h0 a2 "com/example/treelational/treelational/xpath/Operator" "precedence" "I" (.int (3 : Int32))) (S_Operator_LESS : Sta Z h0 "com/example/treelational/treelational/xpath/Operator" "LESS" "Lcom/example/treelational/treelational/xpath/Operator;" (.ref a1)) :
    MetFree l (⟨"com/example/treelational/treelational/xpath/Operator", "isComparison", "()Z"⟩ : MethodName) (head1 (Jvm.Cond.code (⟨"com/example/treelational/treelational/xpath/Operator", "isComparison", "()Z"⟩ : MethodName) prog_43_method_7_code 1 (some .boolean) :: ws) ({ frames := 0, cells := 0, slots := 0, locals := 0 } : Room)) (fun a U => a = #[(.ref a1)] ∧ Z.Warmed39 U.vm ∧ U.heap = h0) (fun _ _ _ _ _ => True) (fun _ U o U' => ∃ v L, o = .returned v ∧ Q1_5 Z a1 a2 h0 n0 v U'.heap L ∧ FrameEnd U o U' L ({ frames := 0, cells := 0, slots := 0, locals := 0 } : Room).cells ({ frames := 0, cells := 0, slots := 0, locals := 0 } : Room).slots) := by
  refine MetFree.of_bodySF (plainFor_of_name pn_com_example_treelational_treelational_xpath_Operator) hisR ?_
  intro p e s m args below meth c s₁ Bd hml0 hP hK
  obtain ⟨rfl, hZ, hh⟩ := hP
  have hx := Bd.exec
  have hby := Bd.bytes
  have hml : c.maxLocals = 1 := hml0
  have hown : s.vm.findClass "com/example/treelational/treelational/xpath/Operator" = some m.cls := findClass_of_methodNamed Bd.named
  have hnm := (name_of_methodNamed Bd.named Bd.method).1
  have X0 : Stand p l e ({ frames := 0, cells := 0, slots := 0, locals := 0 } : Room) s m #[(.ref a1)] below meth c s₁ [] 0 0 := Stand.of_body Bd
  have e0 : s₁.heap = h0 := by rw [← hh, Bd.state]; rfl
  have N0 := Fr.nil n0
  have pre0 : ∀ t, Steps p.tables e below (s₁.setTop (mkF m 0 #[.val (.ref a1)] [])) t → Steps p.tables e below (s₁.setTop (entryFrame m #[(.ref a1)] 1)) t := fun t k => castTop (ef1_5 m a1) k
  obtain ⟨T1, X1, e1, st1⟩ := getF X0 hx hZ hown (host := "") (Or.inl (own_w36 hw)) Via.refl e0 F_a1_precedence (g := (mkF m 1 #[.val (.ref a1)] [(.ref a1)])) rfl rfl (hb hby d1_1)
  obtain ⟨T2, X2, e2, st2⟩ := getS2 X1 hx hZ hown (host := "") (Or.inl (own_w38 hw)) Via.refl e1 S_Operator_EQUAL (g := (mkF m 4 #[.val (.ref a1)] [(.int (4 : Int32))])) rfl (hb hby d1_4)
  obtain ⟨T3, X3, e3, st3⟩ := getF X2 hx hZ hown (host := "") (Or.inl (own_w36 hw)) Via.refl e2 F_a2_precedence (g := (mkF m 7 #[.val (.ref a1)] [(.ref a2), (.int (4 : Int32))])) rfl rfl (hb hby d1_7)
  obtain ⟨T4, X4, e4, st4⟩ := getF X3 hx hZ hown (host := "") (Or.inl (own_w36 hw)) Via.refl e3 F_a1_precedence (g := (mkF m 14 #[.val (.ref a1)] [(.ref a1)])) rfl rfl (hb hby d1_14)
  obtain ⟨T5, X5, e5, st5⟩ := getS2 X4 hx hZ hown (host := "") (Or.inl (own_w39 hw)) Via.refl e4 S_Operator_LESS (g := (mkF m 17 #[.val (.ref a1)] [(.int (4 : Int32))])) rfl (hb hby d1_17)
  obtain ⟨T6, X6, e6, st6⟩ := getF X5 hx hZ hown (host := "") (Or.inl (own_w36 hw)) Via.refl e5 F_a1_precedence (g := (mkF m 20 #[.val (.ref a1)] [(.ref a1), (.int (4 : Int32))])) rfl rfl (hb hby d1_20)
  obtain ⟨fs, hr, hrun, hended, hW, hsame⟩ := X6.leave (v := some (.int (1 : Int32))) (fun h => by rw [Bd.returns] at h; cases h)
  refine ⟨_, _, pre0 _ ?_, hrun, hended, _, _, rfl, ?_, ⟨_, rfl⟩, hW, hsame.mono (by decide) (by decide)⟩
  · show Steps p.tables e below (s₁.setTop (mkF m 0 #[.val (.ref a1)] [])) _
    refine XS.aloadN X0.here hx rfl (hb hby d1_0) rfl rfl ?_
    show Steps p.tables e below (s₁.setTop (mkF m 1 #[.val (.ref a1)] [(.ref a1)])) _
    refine st1 _ ?_
    show Steps p.tables e below (T1.setTop (mkF m 4 #[.val (.ref a1)] [(.int (4 : Int32))])) _
    refine st2 _ ?_
    show Steps p.tables e below (T2.setTop (mkF m 7 #[.val (.ref a1)] [(.ref a2), (.int (4 : Int32))])) _
    refine st3 _ ?_
    show Steps p.tables e below (T3.setTop (mkF m 10 #[.val (.ref a1)] [(.int (3 : Int32)), (.int (4 : Int32))])) _
    refine XS.icmpNo X3.here hx rfl (hb hby d1_10) rfl (flt (by decide : ¬ ((4 : Int32) < (3 : Int32)))).1 ?_
    show Steps p.tables e below (T3.setTop (mkF m 13 #[.val (.ref a1)] [])) _
    refine XS.aloadN X3.here hx rfl (hb hby d1_13) rfl rfl ?_
    show Steps p.tables e below (T3.setTop (mkF m 14 #[.val (.ref a1)] [(.ref a1)])) _
    refine st4 _ ?_
    show Steps p.tables e below (T4.setTop (mkF m 17 #[.val (.ref a1)] [(.int (4 : Int32))])) _
    refine st5 _ ?_
    show Steps p.tables e below (T5.setTop (mkF m 20 #[.val (.ref a1)] [(.ref a1), (.int (4 : Int32))])) _
    refine st6 _ ?_
    show Steps p.tables e below (T6.setTop (mkF m 23 #[.val (.ref a1)] [(.int (4 : Int32)), (.int (4 : Int32))])) _
    refine XS.icmpNo X6.here hx rfl (hb hby d1_23) rfl (flt (by decide : ¬ ((4 : Int32) < (4 : Int32)))).2.2.1 ?_
    show Steps p.tables e below (T6.setTop (mkF m 26 #[.val (.ref a1)] [])) _
    refine XS.iconst X6.here hx rfl (hb hby d1_26) ?_
    show Steps p.tables e below (T6.setTop (mkF m 27 #[.val (.ref a1)] [(.int (1 : Int32))])) _
    refine XS.goto X6.here hx rfl (pc0 := 27) (pc' := 31) rfl (hb hby d1_27) (by decide) (by decide) ?_
    show Steps p.tables e below (T6.setTop (mkF m 31 #[.val (.ref a1)] [(.int (1 : Int32))])) _
    exact retN X6 hx (t := .boolean) Bd.returns (by simp) (hb hby d1_31) hr
  · show Q1_5 Z a1 a2 h0 n0 _ T6.heap _
    rw [e6]
    exact ⟨rfl, N0, rfl⟩
theorem ef1_6 (m : MethodId) (a1 : Addr) : entryFrame m #[(.ref a1)] 1 = mkF m 0 #[.val (.ref a1)] [] := by first | (simp [entryFrame, mkF, argsToLocals, Value.category]; done) | rfl
def Q1_6 (Z : State) (a1 : Addr) (a2 : Addr) (a3 : Addr) (h0 : Heap) (n0 : Nat) (v : Option Value) (h : Heap) (L : List Loc) : Prop := v = some (.int (1 : Int32)) ∧ Fr n0 L ∧ h = h0
set_option maxRecDepth 65536 in
set_option maxHeartbeats 40000000 in
theorem rm1_6 (l : Launch) (Z : State) (a0 : Array Value) (hw : ∀ d ∈ tables_1, d.before a0 Z = true) (ws : List Jvm.Cond) (a1 : Addr) (a2 : Addr) (a3 : Addr) (h0 : Heap) (n0 : Nat) (Z0 : n0 ≤ h0.size) (F_a1_precedence : Fld Z h0 a1 "com/example/treelational/treelational/xpath/Operator" "precedence" "I" (.int (4 : Int32))) (S_Operator_EQUAL : Sta Z h0 "com/example/treelational/treelational/xpath/Operator" "EQUAL" "Lcom/example/treelational/treelational/xpath/Operator;" (.ref a2)) (F_a2_precedence : Fld Z h0 a2 "com/example/treelational/treelational/xpath/Operator" "precedence" "I" (.int (3 : Int32))) (S_Operator_LESS : Sta Z h0 "com/example/treelational/treelational/xpath/Operator" "LESS" "Lcom/example/treelational/treelational/xpath/Operator;" (.ref a3)) (F_a3_precedence : Fld Z h0 a3 "com/example/treelational/treelational/xpath/Operator" "precedence" "I" (.int (4 : Int32))) :
    MetFree l (⟨"com/example/treelational/treelational/xpath/Operator", "isComparison", "()Z"⟩ : MethodName) (head1 (Jvm.Cond.code (⟨"com/example/treelational/treelational/xpath/Operator", "isComparison", "()Z"⟩ : MethodName) prog_43_method_7_code 1 (some .boolean) :: ws) ({ frames := 0, cells := 0, slots := 0, locals := 0 } : Room)) (fun a U => a = #[(.ref a1)] ∧ Z.Warmed39 U.vm ∧ U.heap = h0) (fun _ _ _ _ _ => True) (fun _ U o U' => ∃ v L, o = .returned v ∧ Q1_6 Z a1 a2 a3 h0 n0 v U'.heap L ∧ FrameEnd U o U' L ({ frames := 0, cells := 0, slots := 0, locals := 0 } : Room).cells ({ frames := 0, cells := 0, slots := 0, locals := 0 } : Room).slots) := by
  refine MetFree.of_bodySF (plainFor_of_name pn_com_example_treelational_treelational_xpath_Operator) hisR ?_
  intro p e s m args below meth c s₁ Bd hml0 hP hK
  obtain ⟨rfl, hZ, hh⟩ := hP
  have hx := Bd.exec
  have hby := Bd.bytes
  have hml : c.maxLocals = 1 := hml0
  have hown : s.vm.findClass "com/example/treelational/treelational/xpath/Operator" = some m.cls := findClass_of_methodNamed Bd.named
  have hnm := (name_of_methodNamed Bd.named Bd.method).1
  have X0 : Stand p l e ({ frames := 0, cells := 0, slots := 0, locals := 0 } : Room) s m #[(.ref a1)] below meth c s₁ [] 0 0 := Stand.of_body Bd
  have e0 : s₁.heap = h0 := by rw [← hh, Bd.state]; rfl
  have N0 := Fr.nil n0
  have pre0 : ∀ t, Steps p.tables e below (s₁.setTop (mkF m 0 #[.val (.ref a1)] [])) t → Steps p.tables e below (s₁.setTop (entryFrame m #[(.ref a1)] 1)) t := fun t k => castTop (ef1_6 m a1) k
  obtain ⟨T1, X1, e1, st1⟩ := getF X0 hx hZ hown (host := "") (Or.inl (own_w36 hw)) Via.refl e0 F_a1_precedence (g := (mkF m 1 #[.val (.ref a1)] [(.ref a1)])) rfl rfl (hb hby d1_1)
  obtain ⟨T2, X2, e2, st2⟩ := getS2 X1 hx hZ hown (host := "") (Or.inl (own_w38 hw)) Via.refl e1 S_Operator_EQUAL (g := (mkF m 4 #[.val (.ref a1)] [(.int (4 : Int32))])) rfl (hb hby d1_4)
  obtain ⟨T3, X3, e3, st3⟩ := getF X2 hx hZ hown (host := "") (Or.inl (own_w36 hw)) Via.refl e2 F_a2_precedence (g := (mkF m 7 #[.val (.ref a1)] [(.ref a2), (.int (4 : Int32))])) rfl rfl (hb hby d1_7)
  obtain ⟨T4, X4, e4, st4⟩ := getF X3 hx hZ hown (host := "") (Or.inl (own_w36 hw)) Via.refl e3 F_a1_precedence (g := (mkF m 14 #[.val (.ref a1)] [(.ref a1)])) rfl rfl (hb hby d1_14)
  obtain ⟨T5, X5, e5, st5⟩ := getS2 X4 hx hZ hown (host := "") (Or.inl (own_w39 hw)) Via.refl e4 S_Operator_LESS (g := (mkF m 17 #[.val (.ref a1)] [(.int (4 : Int32))])) rfl (hb hby d1_17)
  obtain ⟨T6, X6, e6, st6⟩ := getF X5 hx hZ hown (host := "") (Or.inl (own_w36 hw)) Via.refl e5 F_a3_precedence (g := (mkF m 20 #[.val (.ref a1)] [(.ref a3), (.int (4 : Int32))])) rfl rfl (hb hby d1_20)
  obtain ⟨fs, hr, hrun, hended, hW, hsame⟩ := X6.leave (v := some (.int (1 : Int32))) (fun h => by rw [Bd.returns] at h; cases h)
  refine ⟨_, _, pre0 _ ?_, hrun, hended, _, _, rfl, ?_, ⟨_, rfl⟩, hW, hsame.mono (by decide) (by decide)⟩
  · show Steps p.tables e below (s₁.setTop (mkF m 0 #[.val (.ref a1)] [])) _
    refine XS.aloadN X0.here hx rfl (hb hby d1_0) rfl rfl ?_
    show Steps p.tables e below (s₁.setTop (mkF m 1 #[.val (.ref a1)] [(.ref a1)])) _
    refine st1 _ ?_
    show Steps p.tables e below (T1.setTop (mkF m 4 #[.val (.ref a1)] [(.int (4 : Int32))])) _
    refine st2 _ ?_
    show Steps p.tables e below (T2.setTop (mkF m 7 #[.val (.ref a1)] [(.ref a2), (.int (4 : Int32))])) _
    refine st3 _ ?_
    show Steps p.tables e below (T3.setTop (mkF m 10 #[.val (.ref a1)] [(.int (3 : Int32)), (.int (4 : Int32))])) _
    refine XS.icmpNo X3.here hx rfl (hb hby d1_10) rfl (flt (by decide : ¬ ((4 : Int32) < (3 : Int32)))).1 ?_
    show Steps p.tables e below (T3.setTop (mkF m 13 #[.val (.ref a1)] [])) _
    refine XS.aloadN X3.here hx rfl (hb hby d1_13) rfl rfl ?_
    show Steps p.tables e below (T3.setTop (mkF m 14 #[.val (.ref a1)] [(.ref a1)])) _
    refine st4 _ ?_
    show Steps p.tables e below (T4.setTop (mkF m 17 #[.val (.ref a1)] [(.int (4 : Int32))])) _
    refine st5 _ ?_
    show Steps p.tables e below (T5.setTop (mkF m 20 #[.val (.ref a1)] [(.ref a3), (.int (4 : Int32))])) _
    refine st6 _ ?_
    show Steps p.tables e below (T6.setTop (mkF m 23 #[.val (.ref a1)] [(.int (4 : Int32)), (.int (4 : Int32))])) _
    refine XS.icmpNo X6.here hx rfl (hb hby d1_23) rfl (flt (by decide : ¬ ((4 : Int32) < (4 : Int32)))).2.2.1 ?_
    show Steps p.tables e below (T6.setTop (mkF m 26 #[.val (.ref a1)] [])) _
    refine XS.iconst X6.here hx rfl (hb hby d1_26) ?_
    show Steps p.tables e below (T6.setTop (mkF m 27 #[.val (.ref a1)] [(.int (1 : Int32))])) _
    refine XS.goto X6.here hx rfl (pc0 := 27) (pc' := 31) rfl (hb hby d1_27) (by decide) (by decide) ?_
    show Steps p.tables e below (T6.setTop (mkF m 31 #[.val (.ref a1)] [(.int (1 : Int32))])) _
    exact retN X6 hx (t := .boolean) Bd.returns (by simp) (hb hby d1_31) hr
  · show Q1_6 Z a1 a2 a3 h0 n0 _ T6.heap _
    rw [e6]
    exact ⟨rfl, N0, rfl⟩
theorem ef1_7 (m : MethodId) (a1 : Addr) : entryFrame m #[(.ref a1)] 1 = mkF m 0 #[.val (.ref a1)] [] := by first | (simp [entryFrame, mkF, argsToLocals, Value.category]; done) | rfl
def Q1_7 (Z : State) (a1 : Addr) (a2 : Addr) (a3 : Addr) (h0 : Heap) (n0 : Nat) (v : Option Value) (h : Heap) (L : List Loc) : Prop := v = some (.int (0 : Int32)) ∧ Fr n0 L ∧ h = h0
set_option maxRecDepth 65536 in
set_option maxHeartbeats 40000000 in
theorem rm1_7 (l : Launch) (Z : State) (a0 : Array Value) (hw : ∀ d ∈ tables_1, d.before a0 Z = true) (ws : List Jvm.Cond) (a1 : Addr) (a2 : Addr) (a3 : Addr) (h0 : Heap) (n0 : Nat) (Z0 : n0 ≤ h0.size) (F_a1_precedence : Fld Z h0 a1 "com/example/treelational/treelational/xpath/Operator" "precedence" "I" (.int (5 : Int32))) (S_Operator_EQUAL : Sta Z h0 "com/example/treelational/treelational/xpath/Operator" "EQUAL" "Lcom/example/treelational/treelational/xpath/Operator;" (.ref a2)) (F_a2_precedence : Fld Z h0 a2 "com/example/treelational/treelational/xpath/Operator" "precedence" "I" (.int (3 : Int32))) (S_Operator_LESS : Sta Z h0 "com/example/treelational/treelational/xpath/Operator" "LESS" "Lcom/example/treelational/treelational/xpath/Operator;" (.ref a3)) (F_a3_precedence : Fld Z h0 a3 "com/example/treelational/treelational/xpath/Operator" "precedence" "I" (.int (4 : Int32))) :
    MetFree l (⟨"com/example/treelational/treelational/xpath/Operator", "isComparison", "()Z"⟩ : MethodName) (head1 (Jvm.Cond.code (⟨"com/example/treelational/treelational/xpath/Operator", "isComparison", "()Z"⟩ : MethodName) prog_43_method_7_code 1 (some .boolean) :: ws) ({ frames := 0, cells := 0, slots := 0, locals := 0 } : Room)) (fun a U => a = #[(.ref a1)] ∧ Z.Warmed39 U.vm ∧ U.heap = h0) (fun _ _ _ _ _ => True) (fun _ U o U' => ∃ v L, o = .returned v ∧ Q1_7 Z a1 a2 a3 h0 n0 v U'.heap L ∧ FrameEnd U o U' L ({ frames := 0, cells := 0, slots := 0, locals := 0 } : Room).cells ({ frames := 0, cells := 0, slots := 0, locals := 0 } : Room).slots) := by
  refine MetFree.of_bodySF (plainFor_of_name pn_com_example_treelational_treelational_xpath_Operator) hisR ?_
  intro p e s m args below meth c s₁ Bd hml0 hP hK
  obtain ⟨rfl, hZ, hh⟩ := hP
  have hx := Bd.exec
  have hby := Bd.bytes
  have hml : c.maxLocals = 1 := hml0
  have hown : s.vm.findClass "com/example/treelational/treelational/xpath/Operator" = some m.cls := findClass_of_methodNamed Bd.named
  have hnm := (name_of_methodNamed Bd.named Bd.method).1
  have X0 : Stand p l e ({ frames := 0, cells := 0, slots := 0, locals := 0 } : Room) s m #[(.ref a1)] below meth c s₁ [] 0 0 := Stand.of_body Bd
  have e0 : s₁.heap = h0 := by rw [← hh, Bd.state]; rfl
  have N0 := Fr.nil n0
  have pre0 : ∀ t, Steps p.tables e below (s₁.setTop (mkF m 0 #[.val (.ref a1)] [])) t → Steps p.tables e below (s₁.setTop (entryFrame m #[(.ref a1)] 1)) t := fun t k => castTop (ef1_7 m a1) k
  obtain ⟨T1, X1, e1, st1⟩ := getF X0 hx hZ hown (host := "") (Or.inl (own_w36 hw)) Via.refl e0 F_a1_precedence (g := (mkF m 1 #[.val (.ref a1)] [(.ref a1)])) rfl rfl (hb hby d1_1)
  obtain ⟨T2, X2, e2, st2⟩ := getS2 X1 hx hZ hown (host := "") (Or.inl (own_w38 hw)) Via.refl e1 S_Operator_EQUAL (g := (mkF m 4 #[.val (.ref a1)] [(.int (5 : Int32))])) rfl (hb hby d1_4)
  obtain ⟨T3, X3, e3, st3⟩ := getF X2 hx hZ hown (host := "") (Or.inl (own_w36 hw)) Via.refl e2 F_a2_precedence (g := (mkF m 7 #[.val (.ref a1)] [(.ref a2), (.int (5 : Int32))])) rfl rfl (hb hby d1_7)
  obtain ⟨T4, X4, e4, st4⟩ := getF X3 hx hZ hown (host := "") (Or.inl (own_w36 hw)) Via.refl e3 F_a1_precedence (g := (mkF m 14 #[.val (.ref a1)] [(.ref a1)])) rfl rfl (hb hby d1_14)
  obtain ⟨T5, X5, e5, st5⟩ := getS2 X4 hx hZ hown (host := "") (Or.inl (own_w39 hw)) Via.refl e4 S_Operator_LESS (g := (mkF m 17 #[.val (.ref a1)] [(.int (5 : Int32))])) rfl (hb hby d1_17)
  obtain ⟨T6, X6, e6, st6⟩ := getF X5 hx hZ hown (host := "") (Or.inl (own_w36 hw)) Via.refl e5 F_a3_precedence (g := (mkF m 20 #[.val (.ref a1)] [(.ref a3), (.int (5 : Int32))])) rfl rfl (hb hby d1_20)
  obtain ⟨fs, hr, hrun, hended, hW, hsame⟩ := X6.leave (v := some (.int (0 : Int32))) (fun h => by rw [Bd.returns] at h; cases h)
  refine ⟨_, _, pre0 _ ?_, hrun, hended, _, _, rfl, ?_, ⟨_, rfl⟩, hW, hsame.mono (by decide) (by decide)⟩
  · show Steps p.tables e below (s₁.setTop (mkF m 0 #[.val (.ref a1)] [])) _
    refine XS.aloadN X0.here hx rfl (hb hby d1_0) rfl rfl ?_
    show Steps p.tables e below (s₁.setTop (mkF m 1 #[.val (.ref a1)] [(.ref a1)])) _
    refine st1 _ ?_
    show Steps p.tables e below (T1.setTop (mkF m 4 #[.val (.ref a1)] [(.int (5 : Int32))])) _
    refine st2 _ ?_
    show Steps p.tables e below (T2.setTop (mkF m 7 #[.val (.ref a1)] [(.ref a2), (.int (5 : Int32))])) _
    refine st3 _ ?_
    show Steps p.tables e below (T3.setTop (mkF m 10 #[.val (.ref a1)] [(.int (3 : Int32)), (.int (5 : Int32))])) _
    refine XS.icmpNo X3.here hx rfl (hb hby d1_10) rfl (flt (by decide : ¬ ((5 : Int32) < (3 : Int32)))).1 ?_
    show Steps p.tables e below (T3.setTop (mkF m 13 #[.val (.ref a1)] [])) _
    refine XS.aloadN X3.here hx rfl (hb hby d1_13) rfl rfl ?_
    show Steps p.tables e below (T3.setTop (mkF m 14 #[.val (.ref a1)] [(.ref a1)])) _
    refine st4 _ ?_
    show Steps p.tables e below (T4.setTop (mkF m 17 #[.val (.ref a1)] [(.int (5 : Int32))])) _
    refine st5 _ ?_
    show Steps p.tables e below (T5.setTop (mkF m 20 #[.val (.ref a1)] [(.ref a3), (.int (5 : Int32))])) _
    refine st6 _ ?_
    show Steps p.tables e below (T6.setTop (mkF m 23 #[.val (.ref a1)] [(.int (4 : Int32)), (.int (5 : Int32))])) _
    refine XS.icmpYes X6.here hx rfl (pc0 := 23) (pc' := 30) rfl (hb hby d1_23) rfl (tlt (by decide : (4 : Int32) < (5 : Int32))).2.2.1 (by decide) (by decide) ?_
    show Steps p.tables e below (T6.setTop (mkF m 30 #[.val (.ref a1)] [])) _
    refine XS.iconst X6.here hx rfl (hb hby d1_30) ?_
    show Steps p.tables e below (T6.setTop (mkF m 31 #[.val (.ref a1)] [(.int (0 : Int32))])) _
    exact retN X6 hx (t := .boolean) Bd.returns (by simp) (hb hby d1_31) hr
  · show Q1_7 Z a1 a2 a3 h0 n0 _ T6.heap _
    rw [e6]
    exact ⟨rfl, N0, rfl⟩
theorem ef1_8 (m : MethodId) (a1 : Addr) : entryFrame m #[(.ref a1)] 1 = mkF m 0 #[.val (.ref a1)] [] := by first | (simp [entryFrame, mkF, argsToLocals, Value.category]; done) | rfl
def Q1_8 (Z : State) (a1 : Addr) (a2 : Addr) (a3 : Addr) (h0 : Heap) (n0 : Nat) (v : Option Value) (h : Heap) (L : List Loc) : Prop := v = some (.int (0 : Int32)) ∧ Fr n0 L ∧ h = h0
set_option maxRecDepth 65536 in
set_option maxHeartbeats 40000000 in
theorem rm1_8 (l : Launch) (Z : State) (a0 : Array Value) (hw : ∀ d ∈ tables_1, d.before a0 Z = true) (ws : List Jvm.Cond) (a1 : Addr) (a2 : Addr) (a3 : Addr) (h0 : Heap) (n0 : Nat) (Z0 : n0 ≤ h0.size) (F_a1_precedence : Fld Z h0 a1 "com/example/treelational/treelational/xpath/Operator" "precedence" "I" (.int (6 : Int32))) (S_Operator_EQUAL : Sta Z h0 "com/example/treelational/treelational/xpath/Operator" "EQUAL" "Lcom/example/treelational/treelational/xpath/Operator;" (.ref a2)) (F_a2_precedence : Fld Z h0 a2 "com/example/treelational/treelational/xpath/Operator" "precedence" "I" (.int (3 : Int32))) (S_Operator_LESS : Sta Z h0 "com/example/treelational/treelational/xpath/Operator" "LESS" "Lcom/example/treelational/treelational/xpath/Operator;" (.ref a3)) (F_a3_precedence : Fld Z h0 a3 "com/example/treelational/treelational/xpath/Operator" "precedence" "I" (.int (4 : Int32))) :
    MetFree l (⟨"com/example/treelational/treelational/xpath/Operator", "isComparison", "()Z"⟩ : MethodName) (head1 (Jvm.Cond.code (⟨"com/example/treelational/treelational/xpath/Operator", "isComparison", "()Z"⟩ : MethodName) prog_43_method_7_code 1 (some .boolean) :: ws) ({ frames := 0, cells := 0, slots := 0, locals := 0 } : Room)) (fun a U => a = #[(.ref a1)] ∧ Z.Warmed39 U.vm ∧ U.heap = h0) (fun _ _ _ _ _ => True) (fun _ U o U' => ∃ v L, o = .returned v ∧ Q1_8 Z a1 a2 a3 h0 n0 v U'.heap L ∧ FrameEnd U o U' L ({ frames := 0, cells := 0, slots := 0, locals := 0 } : Room).cells ({ frames := 0, cells := 0, slots := 0, locals := 0 } : Room).slots) := by
  refine MetFree.of_bodySF (plainFor_of_name pn_com_example_treelational_treelational_xpath_Operator) hisR ?_
  intro p e s m args below meth c s₁ Bd hml0 hP hK
  obtain ⟨rfl, hZ, hh⟩ := hP
  have hx := Bd.exec
  have hby := Bd.bytes
  have hml : c.maxLocals = 1 := hml0
  have hown : s.vm.findClass "com/example/treelational/treelational/xpath/Operator" = some m.cls := findClass_of_methodNamed Bd.named
  have hnm := (name_of_methodNamed Bd.named Bd.method).1
  have X0 : Stand p l e ({ frames := 0, cells := 0, slots := 0, locals := 0 } : Room) s m #[(.ref a1)] below meth c s₁ [] 0 0 := Stand.of_body Bd
  have e0 : s₁.heap = h0 := by rw [← hh, Bd.state]; rfl
  have N0 := Fr.nil n0
  have pre0 : ∀ t, Steps p.tables e below (s₁.setTop (mkF m 0 #[.val (.ref a1)] [])) t → Steps p.tables e below (s₁.setTop (entryFrame m #[(.ref a1)] 1)) t := fun t k => castTop (ef1_8 m a1) k
  obtain ⟨T1, X1, e1, st1⟩ := getF X0 hx hZ hown (host := "") (Or.inl (own_w36 hw)) Via.refl e0 F_a1_precedence (g := (mkF m 1 #[.val (.ref a1)] [(.ref a1)])) rfl rfl (hb hby d1_1)
  obtain ⟨T2, X2, e2, st2⟩ := getS2 X1 hx hZ hown (host := "") (Or.inl (own_w38 hw)) Via.refl e1 S_Operator_EQUAL (g := (mkF m 4 #[.val (.ref a1)] [(.int (6 : Int32))])) rfl (hb hby d1_4)
  obtain ⟨T3, X3, e3, st3⟩ := getF X2 hx hZ hown (host := "") (Or.inl (own_w36 hw)) Via.refl e2 F_a2_precedence (g := (mkF m 7 #[.val (.ref a1)] [(.ref a2), (.int (6 : Int32))])) rfl rfl (hb hby d1_7)
  obtain ⟨T4, X4, e4, st4⟩ := getF X3 hx hZ hown (host := "") (Or.inl (own_w36 hw)) Via.refl e3 F_a1_precedence (g := (mkF m 14 #[.val (.ref a1)] [(.ref a1)])) rfl rfl (hb hby d1_14)
  obtain ⟨T5, X5, e5, st5⟩ := getS2 X4 hx hZ hown (host := "") (Or.inl (own_w39 hw)) Via.refl e4 S_Operator_LESS (g := (mkF m 17 #[.val (.ref a1)] [(.int (6 : Int32))])) rfl (hb hby d1_17)
  obtain ⟨T6, X6, e6, st6⟩ := getF X5 hx hZ hown (host := "") (Or.inl (own_w36 hw)) Via.refl e5 F_a3_precedence (g := (mkF m 20 #[.val (.ref a1)] [(.ref a3), (.int (6 : Int32))])) rfl rfl (hb hby d1_20)
  obtain ⟨fs, hr, hrun, hended, hW, hsame⟩ := X6.leave (v := some (.int (0 : Int32))) (fun h => by rw [Bd.returns] at h; cases h)
  refine ⟨_, _, pre0 _ ?_, hrun, hended, _, _, rfl, ?_, ⟨_, rfl⟩, hW, hsame.mono (by decide) (by decide)⟩
  · show Steps p.tables e below (s₁.setTop (mkF m 0 #[.val (.ref a1)] [])) _
    refine XS.aloadN X0.here hx rfl (hb hby d1_0) rfl rfl ?_
    show Steps p.tables e below (s₁.setTop (mkF m 1 #[.val (.ref a1)] [(.ref a1)])) _
    refine st1 _ ?_
    show Steps p.tables e below (T1.setTop (mkF m 4 #[.val (.ref a1)] [(.int (6 : Int32))])) _
    refine st2 _ ?_
    show Steps p.tables e below (T2.setTop (mkF m 7 #[.val (.ref a1)] [(.ref a2), (.int (6 : Int32))])) _
    refine st3 _ ?_
    show Steps p.tables e below (T3.setTop (mkF m 10 #[.val (.ref a1)] [(.int (3 : Int32)), (.int (6 : Int32))])) _
    refine XS.icmpNo X3.here hx rfl (hb hby d1_10) rfl (flt (by decide : ¬ ((6 : Int32) < (3 : Int32)))).1 ?_
    show Steps p.tables e below (T3.setTop (mkF m 13 #[.val (.ref a1)] [])) _
    refine XS.aloadN X3.here hx rfl (hb hby d1_13) rfl rfl ?_
    show Steps p.tables e below (T3.setTop (mkF m 14 #[.val (.ref a1)] [(.ref a1)])) _
    refine st4 _ ?_
    show Steps p.tables e below (T4.setTop (mkF m 17 #[.val (.ref a1)] [(.int (6 : Int32))])) _
    refine st5 _ ?_
    show Steps p.tables e below (T5.setTop (mkF m 20 #[.val (.ref a1)] [(.ref a3), (.int (6 : Int32))])) _
    refine st6 _ ?_
    show Steps p.tables e below (T6.setTop (mkF m 23 #[.val (.ref a1)] [(.int (4 : Int32)), (.int (6 : Int32))])) _
    refine XS.icmpYes X6.here hx rfl (pc0 := 23) (pc' := 30) rfl (hb hby d1_23) rfl (tlt (by decide : (4 : Int32) < (6 : Int32))).2.2.1 (by decide) (by decide) ?_
    show Steps p.tables e below (T6.setTop (mkF m 30 #[.val (.ref a1)] [])) _
    refine XS.iconst X6.here hx rfl (hb hby d1_30) ?_
    show Steps p.tables e below (T6.setTop (mkF m 31 #[.val (.ref a1)] [(.int (0 : Int32))])) _
    exact retN X6 hx (t := .boolean) Bd.returns (by simp) (hb hby d1_31) hr
  · show Q1_8 Z a1 a2 a3 h0 n0 _ T6.heap _
    rw [e6]
    exact ⟨rfl, N0, rfl⟩
theorem ef0 (m : MethodId) (i0 : Int32) : entryFrame m #[(.int i0)] maxLocals = mkF m 0 #[.val (.int i0), .unset, .unset, .unset, .unset] [] := by first | (simp [entryFrame, mkF, argsToLocals, Value.category, maxLocals]; done) | rfl
set_option maxRecDepth 65536 in
set_option maxHeartbeats 400000000 in
theorem rm0 (l : Launch) (Z : State) (a0 : Array Value) (hw : ∀ d ∈ tables_1, d.before a0 Z = true) (ws : List Jvm.Cond) (i0 : Int32) (o_OR : Addr) (o_AND : Addr) (o_EQUAL : Addr) (o_NOT_EQUAL : Addr) (o_LESS : Addr) (o_LESS_OR_EQUAL : Addr) (o_GREATER : Addr) (o_GREATER_OR_EQUAL : Addr) (o_PLUS : Addr) (o_MINUS : Addr) (o_MULTIPLY : Addr) (o_DIVIDE : Addr) (o_MODULO : Addr) (h0 : Heap) (n0 : Nat) (Z0 : n0 ≤ h0.size) (S_o_OR : Sta Z h0 "com/example/treelational/treelational/xpath/Operator" "OR" "Lcom/example/treelational/treelational/xpath/Operator;" (.ref o_OR)) (E_o_OR : Exa Z h0 o_OR "com/example/treelational/treelational/xpath/Operator") (S_o_AND : Sta Z h0 "com/example/treelational/treelational/xpath/Operator" "AND" "Lcom/example/treelational/treelational/xpath/Operator;" (.ref o_AND)) (E_o_AND : Exa Z h0 o_AND "com/example/treelational/treelational/xpath/Operator") (S_o_EQUAL : Sta Z h0 "com/example/treelational/treelational/xpath/Operator" "EQUAL" "Lcom/example/treelational/treelational/xpath/Operator;" (.ref o_EQUAL)) (E_o_EQUAL : Exa Z h0 o_EQUAL "com/example/treelational/treelational/xpath/Operator") (S_o_NOT_EQUAL : Sta Z h0 "com/example/treelational/treelational/xpath/Operator" "NOT_EQUAL" "Lcom/example/treelational/treelational/xpath/Operator;" (.ref o_NOT_EQUAL)) (E_o_NOT_EQUAL : Exa Z h0 o_NOT_EQUAL "com/example/treelational/treelational/xpath/Operator") (S_o_LESS : Sta Z h0 "com/example/treelational/treelational/xpath/Operator" "LESS" "Lcom/example/treelational/treelational/xpath/Operator;" (.ref o_LESS)) (E_o_LESS : Exa Z h0 o_LESS "com/example/treelational/treelational/xpath/Operator") (S_o_LESS_OR_EQUAL : Sta Z h0 "com/example/treelational/treelational/xpath/Operator" "LESS_OR_EQUAL" "Lcom/example/treelational/treelational/xpath/Operator;" (.ref o_LESS_OR_EQUAL)) (E_o_LESS_OR_EQUAL : Exa Z h0 o_LESS_OR_EQUAL "com/example/treelational/treelational/xpath/Operator") (S_o_GREATER : Sta Z h0 "com/example/treelational/treelational/xpath/Operator" "GREATER" "Lcom/example/treelational/treelational/xpath/Operator;" (.ref o_GREATER)) (E_o_GREATER : Exa Z h0 o_GREATER "com/example/treelational/treelational/xpath/Operator") (S_o_GREATER_OR_EQUAL : Sta Z h0 "com/example/treelational/treelational/xpath/Operator" "GREATER_OR_EQUAL" "Lcom/example/treelational/treelational/xpath/Operator;" (.ref o_GREATER_OR_EQUAL)) (E_o_GREATER_OR_EQUAL : Exa Z h0 o_GREATER_OR_EQUAL "com/example/treelational/treelational/xpath/Operator") (S_o_PLUS : Sta Z h0 "com/example/treelational/treelational/xpath/Operator" "PLUS" "Lcom/example/treelational/treelational/xpath/Operator;" (.ref o_PLUS)) (E_o_PLUS : Exa Z h0 o_PLUS "com/example/treelational/treelational/xpath/Operator") (S_o_MINUS : Sta Z h0 "com/example/treelational/treelational/xpath/Operator" "MINUS" "Lcom/example/treelational/treelational/xpath/Operator;" (.ref o_MINUS)) (E_o_MINUS : Exa Z h0 o_MINUS "com/example/treelational/treelational/xpath/Operator") (S_o_MULTIPLY : Sta Z h0 "com/example/treelational/treelational/xpath/Operator" "MULTIPLY" "Lcom/example/treelational/treelational/xpath/Operator;" (.ref o_MULTIPLY)) (E_o_MULTIPLY : Exa Z h0 o_MULTIPLY "com/example/treelational/treelational/xpath/Operator") (S_o_DIVIDE : Sta Z h0 "com/example/treelational/treelational/xpath/Operator" "DIVIDE" "Lcom/example/treelational/treelational/xpath/Operator;" (.ref o_DIVIDE)) (E_o_DIVIDE : Exa Z h0 o_DIVIDE "com/example/treelational/treelational/xpath/Operator") (S_o_MODULO : Sta Z h0 "com/example/treelational/treelational/xpath/Operator" "MODULO" "Lcom/example/treelational/treelational/xpath/Operator;" (.ref o_MODULO)) (E_o_MODULO : Exa Z h0 o_MODULO "com/example/treelational/treelational/xpath/Operator") (F_o_OR_ordinal : Fld Z h0 o_OR "java/lang/Enum" "ordinal" "I" (.int (0 : Int32))) (F_o_EQUAL_ordinal : Fld Z h0 o_EQUAL "java/lang/Enum" "ordinal" "I" (.int (2 : Int32))) (F_o_NOT_EQUAL_ordinal : Fld Z h0 o_NOT_EQUAL "java/lang/Enum" "ordinal" "I" (.int (3 : Int32))) (F_o_LESS_ordinal : Fld Z h0 o_LESS "java/lang/Enum" "ordinal" "I" (.int (4 : Int32))) (F_o_LESS_OR_EQUAL_ordinal : Fld Z h0 o_LESS_OR_EQUAL "java/lang/Enum" "ordinal" "I" (.int (5 : Int32))) (F_o_GREATER_ordinal : Fld Z h0 o_GREATER "java/lang/Enum" "ordinal" "I" (.int (6 : Int32))) (F_o_GREATER_OR_EQUAL_ordinal : Fld Z h0 o_GREATER_OR_EQUAL "java/lang/Enum" "ordinal" "I" (.int (7 : Int32))) (F_o_OR_precedence : Fld Z h0 o_OR "com/example/treelational/treelational/xpath/Operator" "precedence" "I" (.int (1 : Int32))) (F_o_EQUAL_precedence : Fld Z h0 o_EQUAL "com/example/treelational/treelational/xpath/Operator" "precedence" "I" (.int (3 : Int32))) (F_o_NOT_EQUAL_precedence : Fld Z h0 o_NOT_EQUAL "com/example/treelational/treelational/xpath/Operator" "precedence" "I" (.int (3 : Int32))) (F_o_LESS_precedence : Fld Z h0 o_LESS "com/example/treelational/treelational/xpath/Operator" "precedence" "I" (.int (4 : Int32))) (F_o_GREATER_precedence : Fld Z h0 o_GREATER "com/example/treelational/treelational/xpath/Operator" "precedence" "I" (.int (4 : Int32))) (F_o_LESS_OR_EQUAL_precedence : Fld Z h0 o_LESS_OR_EQUAL "com/example/treelational/treelational/xpath/Operator" "precedence" "I" (.int (4 : Int32))) (F_o_GREATER_OR_EQUAL_precedence : Fld Z h0 o_GREATER_OR_EQUAL "com/example/treelational/treelational/xpath/Operator" "precedence" "I" (.int (4 : Int32))) (F_o_MINUS_ordinal : Fld Z h0 o_MINUS "java/lang/Enum" "ordinal" "I" (.int (9 : Int32))) (F_o_MINUS_precedence : Fld Z h0 o_MINUS "com/example/treelational/treelational/xpath/Operator" "precedence" "I" (.int (5 : Int32))) (F_o_DIVIDE_ordinal : Fld Z h0 o_DIVIDE "java/lang/Enum" "ordinal" "I" (.int (11 : Int32))) (F_o_DIVIDE_precedence : Fld Z h0 o_DIVIDE "com/example/treelational/treelational/xpath/Operator" "precedence" "I" (.int (6 : Int32))) (F_o_AND_ordinal : Fld Z h0 o_AND "java/lang/Enum" "ordinal" "I" (.int (1 : Int32))) (F_o_AND_precedence : Fld Z h0 o_AND "com/example/treelational/treelational/xpath/Operator" "precedence" "I" (.int (2 : Int32))) (F_o_PLUS_ordinal : Fld Z h0 o_PLUS "java/lang/Enum" "ordinal" "I" (.int (8 : Int32))) (F_o_PLUS_precedence : Fld Z h0 o_PLUS "com/example/treelational/treelational/xpath/Operator" "precedence" "I" (.int (5 : Int32))) (F_o_MULTIPLY_ordinal : Fld Z h0 o_MULTIPLY "java/lang/Enum" "ordinal" "I" (.int (10 : Int32))) (F_o_MULTIPLY_precedence : Fld Z h0 o_MULTIPLY "com/example/treelational/treelational/xpath/Operator" "precedence" "I" (.int (6 : Int32))) (F_o_MODULO_ordinal : Fld Z h0 o_MODULO "java/lang/Enum" "ordinal" "I" (.int (12 : Int32))) (F_o_MODULO_precedence : Fld Z h0 o_MODULO "com/example/treelational/treelational/xpath/Operator" "precedence" "I" (.int (6 : Int32))) :
    MetFree l x (head1 (Jvm.Cond.code x code maxLocals ret :: ws) room_1) (fun a U => a = #[(.int i0)] ∧ Z.Warmed39 U.vm ∧ U.heap = h0) (fun _ _ _ _ _ => True) (fun _ U o U' => ∃ v L, o = .returned v ∧ (v = some (.int (1 : Int32)) ∧ Fr n0 L) ∧ FrameEnd U o U' L room_1.cells room_1.slots) := by
  refine MetFree.of_bodySF (plainFor_of_name pn_com_example_treelational_treelational_xpath_OperatorIsComparisonPinLaw) hisR ?_
  intro p e s m args below meth c s₁ Bd hml0 hP hK
  obtain ⟨rfl, hZ, hh⟩ := hP
  have hx := Bd.exec
  have hby := Bd.bytes
  have hml : c.maxLocals = 5 := hml0
  have hown : s.vm.findClass "com/example/treelational/treelational/xpath/OperatorIsComparisonPinLaw" = some m.cls := findClass_of_methodNamed Bd.named
  have hnm := (name_of_methodNamed Bd.named Bd.method).1
  have X0 : Stand p l e room_1 s m #[(.int i0)] below meth c s₁ [] 0 0 := Stand.of_body Bd
  have e0 : s₁.heap = h0 := by rw [← hh, Bd.state]; rfl
  have N0 := Fr.nil n0
  have pre0 : ∀ t, Steps p.tables e below (s₁.setTop (mkF m 0 #[.val (.int i0), .unset, .unset, .unset, .unset] [])) t → Steps p.tables e below (s₁.setTop (entryFrame m #[(.int i0)] maxLocals)) t := fun t k => castTop (ef0 m i0) k
  obtain ⟨T1, h1, k1, X1, e1, E1, A1, O1, st1⟩ := newR X0 hx hZ hown (own_w0 hw) (own_w1 hw) e0 (g := (mkF m 2 #[.val (.int i0), .unset, .unset, .unset, .unset] [(.int (13 : Int32))])) rfl (hb hby at_2) rfl (by decide) (cap := 13) (by decide) (by decide) (by decide) (by decide)
  obtain ⟨b1, q1⟩ : ∃ z, z = h0.size := ⟨_, rfl⟩
  rw [← q1] at A1 st1
  have sz_b1 : h0.size ≤ b1 := Nat.le_of_eq q1.symm
  have sz0_b1 : h0.size ≤ b1 := sz_b1
  have g_b1 : n0 ≤ b1 := Nat.le_trans Z0 sz0_b1
  have KC2 : Keep h0 h1 [] := (Keep.refl h0 []).ext E1
  have V1 : Arv Z h1 b1 k1 (.object "com/example/treelational/treelational/xpath/Operator") (13 : Int32) [.null, .null, .null, .null, .null, .null, .null, .null, .null, .null, .null, .null, .null] .null := (Arv.new A1 (by decide)).pad (pad_rep [] .null 13)
  have c3 := S_o_OR.ext E1
  obtain ⟨T4, X4, e4, st4⟩ := getS2 X1 hx hZ hown (host := "") (Or.inl (own_w2 hw)) Via.refl e1 c3 (g := (mkF m 7 #[.val (.int i0), .unset, .unset, .unset, .unset] [(.int (0 : Int32)), (.ref b1), (.ref b1)])) rfl (hb hby at_7)
  obtain ⟨cl5, Ar5, qk5, Sz5, Ng5, Ha5, Gf5⟩ := V1
  have c6 := E_o_OR.ext E1
  have hin5 : ¬ ((0 : Int32) < 0 ∨ cl5.slots.size ≤ ((0 : Int32)).toNatClampNeg) := inb_of Sz5 ⟨by decide, by decide⟩
  obtain ⟨T7, h7, X7, e7, W7, st7⟩ := stR X4 hx hZ e4 Ar5 (j := (0 : Int32)) hin5 rfl (Sto.ofV Ar5 qk5 O1 (Ins.self c6)) (g := (mkF m 10 #[.val (.int i0), .unset, .unset, .unset, .unset] [(.ref o_OR), (.int (0 : Int32)), (.ref b1), (.ref b1)])) rfl rfl (hb hby at_10)
  have KC8 : Keep h0 h7 [] := KC2.wr W7 (Or.inr sz0_b1)
  have V7 : Arv Z h7 b1 k1 (.object "com/example/treelational/treelational/xpath/Operator") (13 : Int32) [(.ref o_OR), .null, .null, .null, .null, .null, .null, .null, .null, .null, .null, .null, .null] .null := Arv.set Ar5 qk5 Sz5 Ng5 Ha5 Gf5 rfl W7 0 rfl (Nat.le_of_ble_eq_true rfl)
  have N7 := Fr.snoc X7 N0 g_b1
  have c9 := S_o_AND.ext E1
  have c10 := c9.wr W7
  obtain ⟨T11, X11, e11, st11⟩ := getS2 X7 hx hZ hown (host := "") (Or.inl (own_w6 hw)) Via.refl e7 c10 (g := (mkF m 13 #[.val (.int i0), .unset, .unset, .unset, .unset] [(.int (1 : Int32)), (.ref b1), (.ref b1)])) rfl (hb hby at_13)
  obtain ⟨cl12, Ar12, qk12, Sz12, Ng12, Ha12, Gf12⟩ := V7
  have c13 := E_o_AND.ext E1
  have c14 := c13.wr W7
  have hin12 : ¬ ((1 : Int32) < 0 ∨ cl12.slots.size ≤ ((1 : Int32)).toNatClampNeg) := inb_of Sz12 ⟨by decide, by decide⟩
  obtain ⟨T15, h15, X15, e15, W15, st15⟩ := stR X11 hx hZ e11 Ar12 (j := (1 : Int32)) hin12 rfl (Sto.ofV Ar12 qk12 O1 (Ins.self c14)) (g := (mkF m 16 #[.val (.int i0), .unset, .unset, .unset, .unset] [(.ref o_AND), (.int (1 : Int32)), (.ref b1), (.ref b1)])) rfl rfl (hb hby at_16)
  have KC16 : Keep h0 h15 [] := KC8.wr W15 (Or.inr sz0_b1)
  have V15 : Arv Z h15 b1 k1 (.object "com/example/treelational/treelational/xpath/Operator") (13 : Int32) [(.ref o_OR), (.ref o_AND), .null, .null, .null, .null, .null, .null, .null, .null, .null, .null, .null] .null := Arv.set Ar12 qk12 Sz12 Ng12 Ha12 Gf12 rfl W15 1 rfl (Nat.le_of_ble_eq_true rfl)
  have N15 := Fr.snoc X15 N7 g_b1
  have c17 := S_o_EQUAL.ext E1
  have c18 := c17.wr W7
  have c19 := c18.wr W15
  obtain ⟨T20, X20, e20, st20⟩ := getS2 X15 hx hZ hown (host := "") (Or.inl (own_w8 hw)) Via.refl e15 c19 (g := (mkF m 19 #[.val (.int i0), .unset, .unset, .unset, .unset] [(.int (2 : Int32)), (.ref b1), (.ref b1)])) rfl (hb hby at_19)
  obtain ⟨cl21, Ar21, qk21, Sz21, Ng21, Ha21, Gf21⟩ := V15
  have c22 := E_o_EQUAL.ext E1
  have c23 := c22.wr W7
  have c24 := c23.wr W15
  have hin21 : ¬ ((2 : Int32) < 0 ∨ cl21.slots.size ≤ ((2 : Int32)).toNatClampNeg) := inb_of Sz21 ⟨by decide, by decide⟩
  obtain ⟨T25, h25, X25, e25, W25, st25⟩ := stR X20 hx hZ e20 Ar21 (j := (2 : Int32)) hin21 rfl (Sto.ofV Ar21 qk21 O1 (Ins.self c24)) (g := (mkF m 22 #[.val (.int i0), .unset, .unset, .unset, .unset] [(.ref o_EQUAL), (.int (2 : Int32)), (.ref b1), (.ref b1)])) rfl rfl (hb hby at_22)
  have KC26 : Keep h0 h25 [] := KC16.wr W25 (Or.inr sz0_b1)
  have V25 : Arv Z h25 b1 k1 (.object "com/example/treelational/treelational/xpath/Operator") (13 : Int32) [(.ref o_OR), (.ref o_AND), (.ref o_EQUAL), .null, .null, .null, .null, .null, .null, .null, .null, .null, .null] .null := Arv.set Ar21 qk21 Sz21 Ng21 Ha21 Gf21 rfl W25 2 rfl (Nat.le_of_ble_eq_true rfl)
  have N25 := Fr.snoc X25 N15 g_b1
  have c27 := S_o_NOT_EQUAL.ext E1
  have c28 := c27.wr W7
  have c29 := c28.wr W15
  have c30 := c29.wr W25
  obtain ⟨T31, X31, e31, st31⟩ := getS2 X25 hx hZ hown (host := "") (Or.inl (own_w10 hw)) Via.refl e25 c30 (g := (mkF m 25 #[.val (.int i0), .unset, .unset, .unset, .unset] [(.int (3 : Int32)), (.ref b1), (.ref b1)])) rfl (hb hby at_25)
  obtain ⟨cl32, Ar32, qk32, Sz32, Ng32, Ha32, Gf32⟩ := V25
  have c33 := E_o_NOT_EQUAL.ext E1
  have c34 := c33.wr W7
  have c35 := c34.wr W15
  have c36 := c35.wr W25
  have hin32 : ¬ ((3 : Int32) < 0 ∨ cl32.slots.size ≤ ((3 : Int32)).toNatClampNeg) := inb_of Sz32 ⟨by decide, by decide⟩
  obtain ⟨T37, h37, X37, e37, W37, st37⟩ := stR X31 hx hZ e31 Ar32 (j := (3 : Int32)) hin32 rfl (Sto.ofV Ar32 qk32 O1 (Ins.self c36)) (g := (mkF m 28 #[.val (.int i0), .unset, .unset, .unset, .unset] [(.ref o_NOT_EQUAL), (.int (3 : Int32)), (.ref b1), (.ref b1)])) rfl rfl (hb hby at_28)
  have KC38 : Keep h0 h37 [] := KC26.wr W37 (Or.inr sz0_b1)
  have V37 : Arv Z h37 b1 k1 (.object "com/example/treelational/treelational/xpath/Operator") (13 : Int32) [(.ref o_OR), (.ref o_AND), (.ref o_EQUAL), (.ref o_NOT_EQUAL), .null, .null, .null, .null, .null, .null, .null, .null, .null] .null := Arv.set Ar32 qk32 Sz32 Ng32 Ha32 Gf32 rfl W37 3 rfl (Nat.le_of_ble_eq_true rfl)
  have N37 := Fr.snoc X37 N25 g_b1
  have c39 := S_o_LESS.ext E1
  have c40 := c39.wr W7
  have c41 := c40.wr W15
  have c42 := c41.wr W25
  have c43 := c42.wr W37
  obtain ⟨T44, X44, e44, st44⟩ := getS2 X37 hx hZ hown (host := "") (Or.inl (own_w12 hw)) Via.refl e37 c43 (g := (mkF m 31 #[.val (.int i0), .unset, .unset, .unset, .unset] [(.int (4 : Int32)), (.ref b1), (.ref b1)])) rfl (hb hby at_31)
  obtain ⟨cl45, Ar45, qk45, Sz45, Ng45, Ha45, Gf45⟩ := V37
  have c46 := E_o_LESS.ext E1
  have c47 := c46.wr W7
  have c48 := c47.wr W15
  have c49 := c48.wr W25
  have c50 := c49.wr W37
  have hin45 : ¬ ((4 : Int32) < 0 ∨ cl45.slots.size ≤ ((4 : Int32)).toNatClampNeg) := inb_of Sz45 ⟨by decide, by decide⟩
  obtain ⟨T51, h51, X51, e51, W51, st51⟩ := stR X44 hx hZ e44 Ar45 (j := (4 : Int32)) hin45 rfl (Sto.ofV Ar45 qk45 O1 (Ins.self c50)) (g := (mkF m 34 #[.val (.int i0), .unset, .unset, .unset, .unset] [(.ref o_LESS), (.int (4 : Int32)), (.ref b1), (.ref b1)])) rfl rfl (hb hby at_34)
  have KC52 : Keep h0 h51 [] := KC38.wr W51 (Or.inr sz0_b1)
  have V51 : Arv Z h51 b1 k1 (.object "com/example/treelational/treelational/xpath/Operator") (13 : Int32) [(.ref o_OR), (.ref o_AND), (.ref o_EQUAL), (.ref o_NOT_EQUAL), (.ref o_LESS), .null, .null, .null, .null, .null, .null, .null, .null] .null := Arv.set Ar45 qk45 Sz45 Ng45 Ha45 Gf45 rfl W51 4 rfl (Nat.le_of_ble_eq_true rfl)
  have N51 := Fr.snoc X51 N37 g_b1
  have c53 := S_o_LESS_OR_EQUAL.ext E1
  have c54 := c53.wr W7
  have c55 := c54.wr W15
  have c56 := c55.wr W25
  have c57 := c56.wr W37
  have c58 := c57.wr W51
  obtain ⟨T59, X59, e59, st59⟩ := getS2 X51 hx hZ hown (host := "") (Or.inl (own_w14 hw)) Via.refl e51 c58 (g := (mkF m 37 #[.val (.int i0), .unset, .unset, .unset, .unset] [(.int (5 : Int32)), (.ref b1), (.ref b1)])) rfl (hb hby at_37)
  obtain ⟨cl60, Ar60, qk60, Sz60, Ng60, Ha60, Gf60⟩ := V51
  have c61 := E_o_LESS_OR_EQUAL.ext E1
  have c62 := c61.wr W7
  have c63 := c62.wr W15
  have c64 := c63.wr W25
  have c65 := c64.wr W37
  have c66 := c65.wr W51
  have hin60 : ¬ ((5 : Int32) < 0 ∨ cl60.slots.size ≤ ((5 : Int32)).toNatClampNeg) := inb_of Sz60 ⟨by decide, by decide⟩
  obtain ⟨T67, h67, X67, e67, W67, st67⟩ := stR X59 hx hZ e59 Ar60 (j := (5 : Int32)) hin60 rfl (Sto.ofV Ar60 qk60 O1 (Ins.self c66)) (g := (mkF m 40 #[.val (.int i0), .unset, .unset, .unset, .unset] [(.ref o_LESS_OR_EQUAL), (.int (5 : Int32)), (.ref b1), (.ref b1)])) rfl rfl (hb hby at_40)
  have KC68 : Keep h0 h67 [] := KC52.wr W67 (Or.inr sz0_b1)
  have V67 : Arv Z h67 b1 k1 (.object "com/example/treelational/treelational/xpath/Operator") (13 : Int32) [(.ref o_OR), (.ref o_AND), (.ref o_EQUAL), (.ref o_NOT_EQUAL), (.ref o_LESS), (.ref o_LESS_OR_EQUAL), .null, .null, .null, .null, .null, .null, .null] .null := Arv.set Ar60 qk60 Sz60 Ng60 Ha60 Gf60 rfl W67 5 rfl (Nat.le_of_ble_eq_true rfl)
  have N67 := Fr.snoc X67 N51 g_b1
  have c69 := S_o_GREATER.ext E1
  have c70 := c69.wr W7
  have c71 := c70.wr W15
  have c72 := c71.wr W25
  have c73 := c72.wr W37
  have c74 := c73.wr W51
  have c75 := c74.wr W67
  obtain ⟨T76, X76, e76, st76⟩ := getS2 X67 hx hZ hown (host := "") (Or.inl (own_w16 hw)) Via.refl e67 c75 (g := (mkF m 44 #[.val (.int i0), .unset, .unset, .unset, .unset] [(.int (6 : Int32)), (.ref b1), (.ref b1)])) rfl (hb hby at_44)
  obtain ⟨cl77, Ar77, qk77, Sz77, Ng77, Ha77, Gf77⟩ := V67
  have c78 := E_o_GREATER.ext E1
  have c79 := c78.wr W7
  have c80 := c79.wr W15
  have c81 := c80.wr W25
  have c82 := c81.wr W37
  have c83 := c82.wr W51
  have c84 := c83.wr W67
  have hin77 : ¬ ((6 : Int32) < 0 ∨ cl77.slots.size ≤ ((6 : Int32)).toNatClampNeg) := inb_of Sz77 ⟨by decide, by decide⟩
  obtain ⟨T85, h85, X85, e85, W85, st85⟩ := stR X76 hx hZ e76 Ar77 (j := (6 : Int32)) hin77 rfl (Sto.ofV Ar77 qk77 O1 (Ins.self c84)) (g := (mkF m 47 #[.val (.int i0), .unset, .unset, .unset, .unset] [(.ref o_GREATER), (.int (6 : Int32)), (.ref b1), (.ref b1)])) rfl rfl (hb hby at_47)
  have KC86 : Keep h0 h85 [] := KC68.wr W85 (Or.inr sz0_b1)
  have V85 : Arv Z h85 b1 k1 (.object "com/example/treelational/treelational/xpath/Operator") (13 : Int32) [(.ref o_OR), (.ref o_AND), (.ref o_EQUAL), (.ref o_NOT_EQUAL), (.ref o_LESS), (.ref o_LESS_OR_EQUAL), (.ref o_GREATER), .null, .null, .null, .null, .null, .null] .null := Arv.set Ar77 qk77 Sz77 Ng77 Ha77 Gf77 rfl W85 6 rfl (Nat.le_of_ble_eq_true rfl)
  have N85 := Fr.snoc X85 N67 g_b1
  have c87 := S_o_GREATER_OR_EQUAL.ext E1
  have c88 := c87.wr W7
  have c89 := c88.wr W15
  have c90 := c89.wr W25
  have c91 := c90.wr W37
  have c92 := c91.wr W51
  have c93 := c92.wr W67
  have c94 := c93.wr W85
  obtain ⟨T95, X95, e95, st95⟩ := getS2 X85 hx hZ hown (host := "") (Or.inl (own_w18 hw)) Via.refl e85 c94 (g := (mkF m 51 #[.val (.int i0), .unset, .unset, .unset, .unset] [(.int (7 : Int32)), (.ref b1), (.ref b1)])) rfl (hb hby at_51)
  obtain ⟨cl96, Ar96, qk96, Sz96, Ng96, Ha96, Gf96⟩ := V85
  have c97 := E_o_GREATER_OR_EQUAL.ext E1
  have c98 := c97.wr W7
  have c99 := c98.wr W15
  have c100 := c99.wr W25
  have c101 := c100.wr W37
  have c102 := c101.wr W51
  have c103 := c102.wr W67
  have c104 := c103.wr W85
  have hin96 : ¬ ((7 : Int32) < 0 ∨ cl96.slots.size ≤ ((7 : Int32)).toNatClampNeg) := inb_of Sz96 ⟨by decide, by decide⟩
  obtain ⟨T105, h105, X105, e105, W105, st105⟩ := stR X95 hx hZ e95 Ar96 (j := (7 : Int32)) hin96 rfl (Sto.ofV Ar96 qk96 O1 (Ins.self c104)) (g := (mkF m 54 #[.val (.int i0), .unset, .unset, .unset, .unset] [(.ref o_GREATER_OR_EQUAL), (.int (7 : Int32)), (.ref b1), (.ref b1)])) rfl rfl (hb hby at_54)
  have KC106 : Keep h0 h105 [] := KC86.wr W105 (Or.inr sz0_b1)
  have V105 : Arv Z h105 b1 k1 (.object "com/example/treelational/treelational/xpath/Operator") (13 : Int32) [(.ref o_OR), (.ref o_AND), (.ref o_EQUAL), (.ref o_NOT_EQUAL), (.ref o_LESS), (.ref o_LESS_OR_EQUAL), (.ref o_GREATER), (.ref o_GREATER_OR_EQUAL), .null, .null, .null, .null, .null] .null := Arv.set Ar96 qk96 Sz96 Ng96 Ha96 Gf96 rfl W105 7 rfl (Nat.le_of_ble_eq_true rfl)
  have N105 := Fr.snoc X105 N85 g_b1
  have c107 := S_o_PLUS.ext E1
  have c108 := c107.wr W7
  have c109 := c108.wr W15
  have c110 := c109.wr W25
  have c111 := c110.wr W37
  have c112 := c111.wr W51
  have c113 := c112.wr W67
  have c114 := c113.wr W85
  have c115 := c114.wr W105
  obtain ⟨T116, X116, e116, st116⟩ := getS2 X105 hx hZ hown (host := "") (Or.inl (own_w20 hw)) Via.refl e105 c115 (g := (mkF m 58 #[.val (.int i0), .unset, .unset, .unset, .unset] [(.int (8 : Int32)), (.ref b1), (.ref b1)])) rfl (hb hby at_58)
  obtain ⟨cl117, Ar117, qk117, Sz117, Ng117, Ha117, Gf117⟩ := V105
  have c118 := E_o_PLUS.ext E1
  have c119 := c118.wr W7
  have c120 := c119.wr W15
  have c121 := c120.wr W25
  have c122 := c121.wr W37
  have c123 := c122.wr W51
  have c124 := c123.wr W67
  have c125 := c124.wr W85
  have c126 := c125.wr W105
  have hin117 : ¬ ((8 : Int32) < 0 ∨ cl117.slots.size ≤ ((8 : Int32)).toNatClampNeg) := inb_of Sz117 ⟨by decide, by decide⟩
  obtain ⟨T127, h127, X127, e127, W127, st127⟩ := stR X116 hx hZ e116 Ar117 (j := (8 : Int32)) hin117 rfl (Sto.ofV Ar117 qk117 O1 (Ins.self c126)) (g := (mkF m 61 #[.val (.int i0), .unset, .unset, .unset, .unset] [(.ref o_PLUS), (.int (8 : Int32)), (.ref b1), (.ref b1)])) rfl rfl (hb hby at_61)
  have KC128 : Keep h0 h127 [] := KC106.wr W127 (Or.inr sz0_b1)
  have V127 : Arv Z h127 b1 k1 (.object "com/example/treelational/treelational/xpath/Operator") (13 : Int32) [(.ref o_OR), (.ref o_AND), (.ref o_EQUAL), (.ref o_NOT_EQUAL), (.ref o_LESS), (.ref o_LESS_OR_EQUAL), (.ref o_GREATER), (.ref o_GREATER_OR_EQUAL), (.ref o_PLUS), .null, .null, .null, .null] .null := Arv.set Ar117 qk117 Sz117 Ng117 Ha117 Gf117 rfl W127 8 rfl (Nat.le_of_ble_eq_true rfl)
  have N127 := Fr.snoc X127 N105 g_b1
  have c129 := S_o_MINUS.ext E1
  have c130 := c129.wr W7
  have c131 := c130.wr W15
  have c132 := c131.wr W25
  have c133 := c132.wr W37
  have c134 := c133.wr W51
  have c135 := c134.wr W67
  have c136 := c135.wr W85
  have c137 := c136.wr W105
  have c138 := c137.wr W127
  obtain ⟨T139, X139, e139, st139⟩ := getS2 X127 hx hZ hown (host := "") (Or.inl (own_w22 hw)) Via.refl e127 c138 (g := (mkF m 65 #[.val (.int i0), .unset, .unset, .unset, .unset] [(.int (9 : Int32)), (.ref b1), (.ref b1)])) rfl (hb hby at_65)
  obtain ⟨cl140, Ar140, qk140, Sz140, Ng140, Ha140, Gf140⟩ := V127
  have c141 := E_o_MINUS.ext E1
  have c142 := c141.wr W7
  have c143 := c142.wr W15
  have c144 := c143.wr W25
  have c145 := c144.wr W37
  have c146 := c145.wr W51
  have c147 := c146.wr W67
  have c148 := c147.wr W85
  have c149 := c148.wr W105
  have c150 := c149.wr W127
  have hin140 : ¬ ((9 : Int32) < 0 ∨ cl140.slots.size ≤ ((9 : Int32)).toNatClampNeg) := inb_of Sz140 ⟨by decide, by decide⟩
  obtain ⟨T151, h151, X151, e151, W151, st151⟩ := stR X139 hx hZ e139 Ar140 (j := (9 : Int32)) hin140 rfl (Sto.ofV Ar140 qk140 O1 (Ins.self c150)) (g := (mkF m 68 #[.val (.int i0), .unset, .unset, .unset, .unset] [(.ref o_MINUS), (.int (9 : Int32)), (.ref b1), (.ref b1)])) rfl rfl (hb hby at_68)
  have KC152 : Keep h0 h151 [] := KC128.wr W151 (Or.inr sz0_b1)
  have V151 : Arv Z h151 b1 k1 (.object "com/example/treelational/treelational/xpath/Operator") (13 : Int32) [(.ref o_OR), (.ref o_AND), (.ref o_EQUAL), (.ref o_NOT_EQUAL), (.ref o_LESS), (.ref o_LESS_OR_EQUAL), (.ref o_GREATER), (.ref o_GREATER_OR_EQUAL), (.ref o_PLUS), (.ref o_MINUS), .null, .null, .null] .null := Arv.set Ar140 qk140 Sz140 Ng140 Ha140 Gf140 rfl W151 9 rfl (Nat.le_of_ble_eq_true rfl)
  have N151 := Fr.snoc X151 N127 g_b1
  have c153 := S_o_MULTIPLY.ext E1
  have c154 := c153.wr W7
  have c155 := c154.wr W15
  have c156 := c155.wr W25
  have c157 := c156.wr W37
  have c158 := c157.wr W51
  have c159 := c158.wr W67
  have c160 := c159.wr W85
  have c161 := c160.wr W105
  have c162 := c161.wr W127
  have c163 := c162.wr W151
  obtain ⟨T164, X164, e164, st164⟩ := getS2 X151 hx hZ hown (host := "") (Or.inl (own_w24 hw)) Via.refl e151 c163 (g := (mkF m 72 #[.val (.int i0), .unset, .unset, .unset, .unset] [(.int (10 : Int32)), (.ref b1), (.ref b1)])) rfl (hb hby at_72)
  obtain ⟨cl165, Ar165, qk165, Sz165, Ng165, Ha165, Gf165⟩ := V151
  have c166 := E_o_MULTIPLY.ext E1
  have c167 := c166.wr W7
  have c168 := c167.wr W15
  have c169 := c168.wr W25
  have c170 := c169.wr W37
  have c171 := c170.wr W51
  have c172 := c171.wr W67
  have c173 := c172.wr W85
  have c174 := c173.wr W105
  have c175 := c174.wr W127
  have c176 := c175.wr W151
  have hin165 : ¬ ((10 : Int32) < 0 ∨ cl165.slots.size ≤ ((10 : Int32)).toNatClampNeg) := inb_of Sz165 ⟨by decide, by decide⟩
  obtain ⟨T177, h177, X177, e177, W177, st177⟩ := stR X164 hx hZ e164 Ar165 (j := (10 : Int32)) hin165 rfl (Sto.ofV Ar165 qk165 O1 (Ins.self c176)) (g := (mkF m 75 #[.val (.int i0), .unset, .unset, .unset, .unset] [(.ref o_MULTIPLY), (.int (10 : Int32)), (.ref b1), (.ref b1)])) rfl rfl (hb hby at_75)
  have KC178 : Keep h0 h177 [] := KC152.wr W177 (Or.inr sz0_b1)
  have V177 : Arv Z h177 b1 k1 (.object "com/example/treelational/treelational/xpath/Operator") (13 : Int32) [(.ref o_OR), (.ref o_AND), (.ref o_EQUAL), (.ref o_NOT_EQUAL), (.ref o_LESS), (.ref o_LESS_OR_EQUAL), (.ref o_GREATER), (.ref o_GREATER_OR_EQUAL), (.ref o_PLUS), (.ref o_MINUS), (.ref o_MULTIPLY), .null, .null] .null := Arv.set Ar165 qk165 Sz165 Ng165 Ha165 Gf165 rfl W177 10 rfl (Nat.le_of_ble_eq_true rfl)
  have N177 := Fr.snoc X177 N151 g_b1
  have c179 := S_o_DIVIDE.ext E1
  have c180 := c179.wr W7
  have c181 := c180.wr W15
  have c182 := c181.wr W25
  have c183 := c182.wr W37
  have c184 := c183.wr W51
  have c185 := c184.wr W67
  have c186 := c185.wr W85
  have c187 := c186.wr W105
  have c188 := c187.wr W127
  have c189 := c188.wr W151
  have c190 := c189.wr W177
  obtain ⟨T191, X191, e191, st191⟩ := getS2 X177 hx hZ hown (host := "") (Or.inl (own_w26 hw)) Via.refl e177 c190 (g := (mkF m 79 #[.val (.int i0), .unset, .unset, .unset, .unset] [(.int (11 : Int32)), (.ref b1), (.ref b1)])) rfl (hb hby at_79)
  obtain ⟨cl192, Ar192, qk192, Sz192, Ng192, Ha192, Gf192⟩ := V177
  have c193 := E_o_DIVIDE.ext E1
  have c194 := c193.wr W7
  have c195 := c194.wr W15
  have c196 := c195.wr W25
  have c197 := c196.wr W37
  have c198 := c197.wr W51
  have c199 := c198.wr W67
  have c200 := c199.wr W85
  have c201 := c200.wr W105
  have c202 := c201.wr W127
  have c203 := c202.wr W151
  have c204 := c203.wr W177
  have hin192 : ¬ ((11 : Int32) < 0 ∨ cl192.slots.size ≤ ((11 : Int32)).toNatClampNeg) := inb_of Sz192 ⟨by decide, by decide⟩
  obtain ⟨T205, h205, X205, e205, W205, st205⟩ := stR X191 hx hZ e191 Ar192 (j := (11 : Int32)) hin192 rfl (Sto.ofV Ar192 qk192 O1 (Ins.self c204)) (g := (mkF m 82 #[.val (.int i0), .unset, .unset, .unset, .unset] [(.ref o_DIVIDE), (.int (11 : Int32)), (.ref b1), (.ref b1)])) rfl rfl (hb hby at_82)
  have KC206 : Keep h0 h205 [] := KC178.wr W205 (Or.inr sz0_b1)
  have V205 : Arv Z h205 b1 k1 (.object "com/example/treelational/treelational/xpath/Operator") (13 : Int32) [(.ref o_OR), (.ref o_AND), (.ref o_EQUAL), (.ref o_NOT_EQUAL), (.ref o_LESS), (.ref o_LESS_OR_EQUAL), (.ref o_GREATER), (.ref o_GREATER_OR_EQUAL), (.ref o_PLUS), (.ref o_MINUS), (.ref o_MULTIPLY), (.ref o_DIVIDE), .null] .null := Arv.set Ar192 qk192 Sz192 Ng192 Ha192 Gf192 rfl W205 11 rfl (Nat.le_of_ble_eq_true rfl)
  have N205 := Fr.snoc X205 N177 g_b1
  have c207 := S_o_MODULO.ext E1
  have c208 := c207.wr W7
  have c209 := c208.wr W15
  have c210 := c209.wr W25
  have c211 := c210.wr W37
  have c212 := c211.wr W51
  have c213 := c212.wr W67
  have c214 := c213.wr W85
  have c215 := c214.wr W105
  have c216 := c215.wr W127
  have c217 := c216.wr W151
  have c218 := c217.wr W177
  have c219 := c218.wr W205
  obtain ⟨T220, X220, e220, st220⟩ := getS2 X205 hx hZ hown (host := "") (Or.inl (own_w28 hw)) Via.refl e205 c219 (g := (mkF m 86 #[.val (.int i0), .unset, .unset, .unset, .unset] [(.int (12 : Int32)), (.ref b1), (.ref b1)])) rfl (hb hby at_86)
  obtain ⟨cl221, Ar221, qk221, Sz221, Ng221, Ha221, Gf221⟩ := V205
  have c222 := E_o_MODULO.ext E1
  have c223 := c222.wr W7
  have c224 := c223.wr W15
  have c225 := c224.wr W25
  have c226 := c225.wr W37
  have c227 := c226.wr W51
  have c228 := c227.wr W67
  have c229 := c228.wr W85
  have c230 := c229.wr W105
  have c231 := c230.wr W127
  have c232 := c231.wr W151
  have c233 := c232.wr W177
  have c234 := c233.wr W205
  have hin221 : ¬ ((12 : Int32) < 0 ∨ cl221.slots.size ≤ ((12 : Int32)).toNatClampNeg) := inb_of Sz221 ⟨by decide, by decide⟩
  obtain ⟨T235, h235, X235, e235, W235, st235⟩ := stR X220 hx hZ e220 Ar221 (j := (12 : Int32)) hin221 rfl (Sto.ofV Ar221 qk221 O1 (Ins.self c234)) (g := (mkF m 89 #[.val (.int i0), .unset, .unset, .unset, .unset] [(.ref o_MODULO), (.int (12 : Int32)), (.ref b1), (.ref b1)])) rfl rfl (hb hby at_89)
  have KC236 : Keep h0 h235 [] := KC206.wr W235 (Or.inr sz0_b1)
  have V235 : Arv Z h235 b1 k1 (.object "com/example/treelational/treelational/xpath/Operator") (13 : Int32) [(.ref o_OR), (.ref o_AND), (.ref o_EQUAL), (.ref o_NOT_EQUAL), (.ref o_LESS), (.ref o_LESS_OR_EQUAL), (.ref o_GREATER), (.ref o_GREATER_OR_EQUAL), (.ref o_PLUS), (.ref o_MINUS), (.ref o_MULTIPLY), (.ref o_DIVIDE), (.ref o_MODULO)] .null := Arv.set Ar221 qk221 Sz221 Ng221 Ha221 Gf221 rfl W235 12 rfl (Nat.le_of_ble_eq_true rfl)
  have N235 := Fr.snoc X235 N205 g_b1
  have pre1 : ∀ t, Steps p.tables e below (T235.setTop (mkF m 98 #[.val (.int i0), .val (.ref b1), .unset, .unset, .unset] [(.int ((i0 &&& (2147483647 : Int32)) % (13 : Int32)))])) t → Steps p.tables e below (s₁.setTop (entryFrame m #[(.int i0)] maxLocals)) t := fun t kk => pre0 t (by
    show Steps p.tables e below (s₁.setTop (mkF m 0 #[.val (.int i0), .unset, .unset, .unset, .unset] [])) _
    refine XS.bipush X0.here hx rfl (hb hby at_0) ?_
    show Steps p.tables e below (s₁.setTop (mkF m 2 #[.val (.int i0), .unset, .unset, .unset, .unset] [(.int (13 : Int32))])) _
    refine st1 _ ?_
    show Steps p.tables e below (T1.setTop (mkF m 5 #[.val (.int i0), .unset, .unset, .unset, .unset] [(.ref b1)])) _
    refine XS.dup X1.here hx rfl (hb hby at_5) rfl rfl ?_
    show Steps p.tables e below (T1.setTop (mkF m 6 #[.val (.int i0), .unset, .unset, .unset, .unset] [(.ref b1), (.ref b1)])) _
    refine XS.iconst X1.here hx rfl (hb hby at_6) ?_
    show Steps p.tables e below (T1.setTop (mkF m 7 #[.val (.int i0), .unset, .unset, .unset, .unset] [(.int (0 : Int32)), (.ref b1), (.ref b1)])) _
    refine st4 _ ?_
    show Steps p.tables e below (T4.setTop (mkF m 10 #[.val (.int i0), .unset, .unset, .unset, .unset] [(.ref o_OR), (.int (0 : Int32)), (.ref b1), (.ref b1)])) _
    refine st7 _ ?_
    show Steps p.tables e below (T7.setTop (mkF m 11 #[.val (.int i0), .unset, .unset, .unset, .unset] [(.ref b1)])) _
    refine XS.dup X7.here hx rfl (hb hby at_11) rfl rfl ?_
    show Steps p.tables e below (T7.setTop (mkF m 12 #[.val (.int i0), .unset, .unset, .unset, .unset] [(.ref b1), (.ref b1)])) _
    refine XS.iconst X7.here hx rfl (hb hby at_12) ?_
    show Steps p.tables e below (T7.setTop (mkF m 13 #[.val (.int i0), .unset, .unset, .unset, .unset] [(.int (1 : Int32)), (.ref b1), (.ref b1)])) _
    refine st11 _ ?_
    show Steps p.tables e below (T11.setTop (mkF m 16 #[.val (.int i0), .unset, .unset, .unset, .unset] [(.ref o_AND), (.int (1 : Int32)), (.ref b1), (.ref b1)])) _
    refine st15 _ ?_
    show Steps p.tables e below (T15.setTop (mkF m 17 #[.val (.int i0), .unset, .unset, .unset, .unset] [(.ref b1)])) _
    refine XS.dup X15.here hx rfl (hb hby at_17) rfl rfl ?_
    show Steps p.tables e below (T15.setTop (mkF m 18 #[.val (.int i0), .unset, .unset, .unset, .unset] [(.ref b1), (.ref b1)])) _
    refine XS.iconst X15.here hx rfl (hb hby at_18) ?_
    show Steps p.tables e below (T15.setTop (mkF m 19 #[.val (.int i0), .unset, .unset, .unset, .unset] [(.int (2 : Int32)), (.ref b1), (.ref b1)])) _
    refine st20 _ ?_
    show Steps p.tables e below (T20.setTop (mkF m 22 #[.val (.int i0), .unset, .unset, .unset, .unset] [(.ref o_EQUAL), (.int (2 : Int32)), (.ref b1), (.ref b1)])) _
    refine st25 _ ?_
    show Steps p.tables e below (T25.setTop (mkF m 23 #[.val (.int i0), .unset, .unset, .unset, .unset] [(.ref b1)])) _
    refine XS.dup X25.here hx rfl (hb hby at_23) rfl rfl ?_
    show Steps p.tables e below (T25.setTop (mkF m 24 #[.val (.int i0), .unset, .unset, .unset, .unset] [(.ref b1), (.ref b1)])) _
    refine XS.iconst X25.here hx rfl (hb hby at_24) ?_
    show Steps p.tables e below (T25.setTop (mkF m 25 #[.val (.int i0), .unset, .unset, .unset, .unset] [(.int (3 : Int32)), (.ref b1), (.ref b1)])) _
    refine st31 _ ?_
    show Steps p.tables e below (T31.setTop (mkF m 28 #[.val (.int i0), .unset, .unset, .unset, .unset] [(.ref o_NOT_EQUAL), (.int (3 : Int32)), (.ref b1), (.ref b1)])) _
    refine st37 _ ?_
    show Steps p.tables e below (T37.setTop (mkF m 29 #[.val (.int i0), .unset, .unset, .unset, .unset] [(.ref b1)])) _
    refine XS.dup X37.here hx rfl (hb hby at_29) rfl rfl ?_
    show Steps p.tables e below (T37.setTop (mkF m 30 #[.val (.int i0), .unset, .unset, .unset, .unset] [(.ref b1), (.ref b1)])) _
    refine XS.iconst X37.here hx rfl (hb hby at_30) ?_
    show Steps p.tables e below (T37.setTop (mkF m 31 #[.val (.int i0), .unset, .unset, .unset, .unset] [(.int (4 : Int32)), (.ref b1), (.ref b1)])) _
    refine st44 _ ?_
    show Steps p.tables e below (T44.setTop (mkF m 34 #[.val (.int i0), .unset, .unset, .unset, .unset] [(.ref o_LESS), (.int (4 : Int32)), (.ref b1), (.ref b1)])) _
    refine st51 _ ?_
    show Steps p.tables e below (T51.setTop (mkF m 35 #[.val (.int i0), .unset, .unset, .unset, .unset] [(.ref b1)])) _
    refine XS.dup X51.here hx rfl (hb hby at_35) rfl rfl ?_
    show Steps p.tables e below (T51.setTop (mkF m 36 #[.val (.int i0), .unset, .unset, .unset, .unset] [(.ref b1), (.ref b1)])) _
    refine XS.iconst X51.here hx rfl (hb hby at_36) ?_
    show Steps p.tables e below (T51.setTop (mkF m 37 #[.val (.int i0), .unset, .unset, .unset, .unset] [(.int (5 : Int32)), (.ref b1), (.ref b1)])) _
    refine st59 _ ?_
    show Steps p.tables e below (T59.setTop (mkF m 40 #[.val (.int i0), .unset, .unset, .unset, .unset] [(.ref o_LESS_OR_EQUAL), (.int (5 : Int32)), (.ref b1), (.ref b1)])) _
    refine st67 _ ?_
    show Steps p.tables e below (T67.setTop (mkF m 41 #[.val (.int i0), .unset, .unset, .unset, .unset] [(.ref b1)])) _
    refine XS.dup X67.here hx rfl (hb hby at_41) rfl rfl ?_
    show Steps p.tables e below (T67.setTop (mkF m 42 #[.val (.int i0), .unset, .unset, .unset, .unset] [(.ref b1), (.ref b1)])) _
    refine XS.bipush X67.here hx rfl (hb hby at_42) ?_
    show Steps p.tables e below (T67.setTop (mkF m 44 #[.val (.int i0), .unset, .unset, .unset, .unset] [(.int (6 : Int32)), (.ref b1), (.ref b1)])) _
    refine st76 _ ?_
    show Steps p.tables e below (T76.setTop (mkF m 47 #[.val (.int i0), .unset, .unset, .unset, .unset] [(.ref o_GREATER), (.int (6 : Int32)), (.ref b1), (.ref b1)])) _
    refine st85 _ ?_
    show Steps p.tables e below (T85.setTop (mkF m 48 #[.val (.int i0), .unset, .unset, .unset, .unset] [(.ref b1)])) _
    refine XS.dup X85.here hx rfl (hb hby at_48) rfl rfl ?_
    show Steps p.tables e below (T85.setTop (mkF m 49 #[.val (.int i0), .unset, .unset, .unset, .unset] [(.ref b1), (.ref b1)])) _
    refine XS.bipush X85.here hx rfl (hb hby at_49) ?_
    show Steps p.tables e below (T85.setTop (mkF m 51 #[.val (.int i0), .unset, .unset, .unset, .unset] [(.int (7 : Int32)), (.ref b1), (.ref b1)])) _
    refine st95 _ ?_
    show Steps p.tables e below (T95.setTop (mkF m 54 #[.val (.int i0), .unset, .unset, .unset, .unset] [(.ref o_GREATER_OR_EQUAL), (.int (7 : Int32)), (.ref b1), (.ref b1)])) _
    refine st105 _ ?_
    show Steps p.tables e below (T105.setTop (mkF m 55 #[.val (.int i0), .unset, .unset, .unset, .unset] [(.ref b1)])) _
    refine XS.dup X105.here hx rfl (hb hby at_55) rfl rfl ?_
    show Steps p.tables e below (T105.setTop (mkF m 56 #[.val (.int i0), .unset, .unset, .unset, .unset] [(.ref b1), (.ref b1)])) _
    refine XS.bipush X105.here hx rfl (hb hby at_56) ?_
    show Steps p.tables e below (T105.setTop (mkF m 58 #[.val (.int i0), .unset, .unset, .unset, .unset] [(.int (8 : Int32)), (.ref b1), (.ref b1)])) _
    refine st116 _ ?_
    show Steps p.tables e below (T116.setTop (mkF m 61 #[.val (.int i0), .unset, .unset, .unset, .unset] [(.ref o_PLUS), (.int (8 : Int32)), (.ref b1), (.ref b1)])) _
    refine st127 _ ?_
    show Steps p.tables e below (T127.setTop (mkF m 62 #[.val (.int i0), .unset, .unset, .unset, .unset] [(.ref b1)])) _
    refine XS.dup X127.here hx rfl (hb hby at_62) rfl rfl ?_
    show Steps p.tables e below (T127.setTop (mkF m 63 #[.val (.int i0), .unset, .unset, .unset, .unset] [(.ref b1), (.ref b1)])) _
    refine XS.bipush X127.here hx rfl (hb hby at_63) ?_
    show Steps p.tables e below (T127.setTop (mkF m 65 #[.val (.int i0), .unset, .unset, .unset, .unset] [(.int (9 : Int32)), (.ref b1), (.ref b1)])) _
    refine st139 _ ?_
    show Steps p.tables e below (T139.setTop (mkF m 68 #[.val (.int i0), .unset, .unset, .unset, .unset] [(.ref o_MINUS), (.int (9 : Int32)), (.ref b1), (.ref b1)])) _
    refine st151 _ ?_
    show Steps p.tables e below (T151.setTop (mkF m 69 #[.val (.int i0), .unset, .unset, .unset, .unset] [(.ref b1)])) _
    refine XS.dup X151.here hx rfl (hb hby at_69) rfl rfl ?_
    show Steps p.tables e below (T151.setTop (mkF m 70 #[.val (.int i0), .unset, .unset, .unset, .unset] [(.ref b1), (.ref b1)])) _
    refine XS.bipush X151.here hx rfl (hb hby at_70) ?_
    show Steps p.tables e below (T151.setTop (mkF m 72 #[.val (.int i0), .unset, .unset, .unset, .unset] [(.int (10 : Int32)), (.ref b1), (.ref b1)])) _
    refine st164 _ ?_
    show Steps p.tables e below (T164.setTop (mkF m 75 #[.val (.int i0), .unset, .unset, .unset, .unset] [(.ref o_MULTIPLY), (.int (10 : Int32)), (.ref b1), (.ref b1)])) _
    refine st177 _ ?_
    show Steps p.tables e below (T177.setTop (mkF m 76 #[.val (.int i0), .unset, .unset, .unset, .unset] [(.ref b1)])) _
    refine XS.dup X177.here hx rfl (hb hby at_76) rfl rfl ?_
    show Steps p.tables e below (T177.setTop (mkF m 77 #[.val (.int i0), .unset, .unset, .unset, .unset] [(.ref b1), (.ref b1)])) _
    refine XS.bipush X177.here hx rfl (hb hby at_77) ?_
    show Steps p.tables e below (T177.setTop (mkF m 79 #[.val (.int i0), .unset, .unset, .unset, .unset] [(.int (11 : Int32)), (.ref b1), (.ref b1)])) _
    refine st191 _ ?_
    show Steps p.tables e below (T191.setTop (mkF m 82 #[.val (.int i0), .unset, .unset, .unset, .unset] [(.ref o_DIVIDE), (.int (11 : Int32)), (.ref b1), (.ref b1)])) _
    refine st205 _ ?_
    show Steps p.tables e below (T205.setTop (mkF m 83 #[.val (.int i0), .unset, .unset, .unset, .unset] [(.ref b1)])) _
    refine XS.dup X205.here hx rfl (hb hby at_83) rfl rfl ?_
    show Steps p.tables e below (T205.setTop (mkF m 84 #[.val (.int i0), .unset, .unset, .unset, .unset] [(.ref b1), (.ref b1)])) _
    refine XS.bipush X205.here hx rfl (hb hby at_84) ?_
    show Steps p.tables e below (T205.setTop (mkF m 86 #[.val (.int i0), .unset, .unset, .unset, .unset] [(.int (12 : Int32)), (.ref b1), (.ref b1)])) _
    refine st220 _ ?_
    show Steps p.tables e below (T220.setTop (mkF m 89 #[.val (.int i0), .unset, .unset, .unset, .unset] [(.ref o_MODULO), (.int (12 : Int32)), (.ref b1), (.ref b1)])) _
    refine st235 _ ?_
    show Steps p.tables e below (T235.setTop (mkF m 90 #[.val (.int i0), .unset, .unset, .unset, .unset] [(.ref b1)])) _
    refine XS.astoreN X235.here hx rfl (hb hby at_90) rfl rfl (l' := #[.val (.int i0), .val (.ref b1), .unset, .unset, .unset]) rfl ?_
    show Steps p.tables e below (T235.setTop (mkF m 91 #[.val (.int i0), .val (.ref b1), .unset, .unset, .unset] [])) _
    refine XS.iloadN X235.here hx rfl (hb hby at_91) rfl ?_
    show Steps p.tables e below (T235.setTop (mkF m 92 #[.val (.int i0), .val (.ref b1), .unset, .unset, .unset] [(.int i0)])) _
    refine X235.ldcInt hx hown (mvT hZ (own_w30 hw)) (g := (mkF m 92 #[.val (.int i0), .val (.ref b1), .unset, .unset, .unset] [(.int i0)])) rfl (hb hby at_92) _ ?_
    show Steps p.tables e below (T235.setTop (mkF m 94 #[.val (.int i0), .val (.ref b1), .unset, .unset, .unset] [(.int (2147483647 : Int32)), (.int i0)])) _
    refine XS.iand X235.here hx rfl (hb hby at_94) rfl ?_
    show Steps p.tables e below (T235.setTop (mkF m 95 #[.val (.int i0), .val (.ref b1), .unset, .unset, .unset] [(.int (i0 &&& (2147483647 : Int32)))])) _
    refine XS.bipush X235.here hx rfl (hb hby at_95) ?_
    show Steps p.tables e below (T235.setTop (mkF m 97 #[.val (.int i0), .val (.ref b1), .unset, .unset, .unset] [(.int (13 : Int32)), (.int (i0 &&& (2147483647 : Int32)))])) _
    refine iremM X235 hx rfl (hb hby at_97) rfl (by decide) ?_
    show Steps p.tables e below (T235.setTop (mkF m 98 #[.val (.int i0), .val (.ref b1), .unset, .unset, .unset] [(.int ((i0 &&& (2147483647 : Int32)) % (13 : Int32)))])) _
    exact kk)
  rcases own_en13 i0 with he0 | he0 | he0 | he0 | he0 | he0 | he0 | he0 | he0 | he0 | he0 | he0 | he0
  · obtain ⟨cl237, Ar237, qk237, Sz237, Ng237, Ha237, Gf237⟩ := V235
    have hin237 : ¬ ((0 : Int32) < 0 ∨ cl237.slots.size ≤ ((0 : Int32)).toNatClampNeg) := inb_of Sz237 ⟨by decide, by decide⟩
    have hat237 : cl237.slots[((0 : Int32)).toNatClampNeg]? = some (.ref o_OR) := Has.at Ha237 hin237 rfl
    have c238 := c19.wr W25
    have c239 := c238.wr W37
    have c240 := c239.wr W51
    have c241 := c240.wr W67
    have c242 := c241.wr W85
    have c243 := c242.wr W105
    have c244 := c243.wr W127
    have c245 := c244.wr W151
    have c246 := c245.wr W177
    have c247 := c246.wr W205
    have c248 := c247.wr W235
    obtain ⟨T249, X249, e249, st249⟩ := getS2 X235 hx hZ hown (host := "") (Or.inl (own_w8 hw)) Via.refl e235 c248 (g := (mkF m 104 #[.val (.int i0), .val (.ref b1), .val (.int (0 : Int32)), .val (.ref o_OR), .unset] [(.ref o_OR)])) rfl (hb hby at_104)
    have c250 := F_o_OR_ordinal.ext E1
    have ne251 : o_OR ≠ b1 := (Nat.ne_of_lt (Nat.lt_of_lt_of_le E_o_OR.lt sz_b1))
    have c252 := c250.other W7 (Or.inl ne251)
    have c253 := c252.other W15 (Or.inl ne251)
    have c254 := c253.other W25 (Or.inl ne251)
    have c255 := c254.other W37 (Or.inl ne251)
    have c256 := c255.other W51 (Or.inl ne251)
    have c257 := c256.other W67 (Or.inl ne251)
    have c258 := c257.other W85 (Or.inl ne251)
    have c259 := c258.other W105 (Or.inl ne251)
    have c260 := c259.other W127 (Or.inl ne251)
    have c261 := c260.other W151 (Or.inl ne251)
    have c262 := c261.other W177 (Or.inl ne251)
    have c263 := c262.other W205 (Or.inl ne251)
    have c264 := c263.other W235 (Or.inl ne251)
    have c265 := F_o_EQUAL_ordinal.ext E1
    have ne266 : o_EQUAL ≠ b1 := (Nat.ne_of_lt (Nat.lt_of_lt_of_le E_o_EQUAL.lt sz_b1))
    have c267 := c265.other W7 (Or.inl ne266)
    have c268 := c267.other W15 (Or.inl ne266)
    have c269 := c268.other W25 (Or.inl ne266)
    have c270 := c269.other W37 (Or.inl ne266)
    have c271 := c270.other W51 (Or.inl ne266)
    have c272 := c271.other W67 (Or.inl ne266)
    have c273 := c272.other W85 (Or.inl ne266)
    have c274 := c273.other W105 (Or.inl ne266)
    have c275 := c274.other W127 (Or.inl ne266)
    have c276 := c275.other W151 (Or.inl ne266)
    have c277 := c276.other W177 (Or.inl ne266)
    have c278 := c277.other W205 (Or.inl ne266)
    have c279 := c278.other W235 (Or.inl ne266)
    have ne280 : o_OR ≠ o_EQUAL := (c264.ne c279 (fun q => absurd (Value.int.inj q) (by decide)))
    have c281 := c30.wr W37
    have c282 := c281.wr W51
    have c283 := c282.wr W67
    have c284 := c283.wr W85
    have c285 := c284.wr W105
    have c286 := c285.wr W127
    have c287 := c286.wr W151
    have c288 := c287.wr W177
    have c289 := c288.wr W205
    have c290 := c289.wr W235
    obtain ⟨T291, X291, e291, st291⟩ := getS2 X249 hx hZ hown (host := "") (Or.inl (own_w10 hw)) Via.refl e249 c290 (g := (mkF m 111 #[.val (.int i0), .val (.ref b1), .val (.int (0 : Int32)), .val (.ref o_OR), .unset] [(.ref o_OR)])) rfl (hb hby at_111)
    have c292 := F_o_NOT_EQUAL_ordinal.ext E1
    have ne293 : o_NOT_EQUAL ≠ b1 := (Nat.ne_of_lt (Nat.lt_of_lt_of_le E_o_NOT_EQUAL.lt sz_b1))
    have c294 := c292.other W7 (Or.inl ne293)
    have c295 := c294.other W15 (Or.inl ne293)
    have c296 := c295.other W25 (Or.inl ne293)
    have c297 := c296.other W37 (Or.inl ne293)
    have c298 := c297.other W51 (Or.inl ne293)
    have c299 := c298.other W67 (Or.inl ne293)
    have c300 := c299.other W85 (Or.inl ne293)
    have c301 := c300.other W105 (Or.inl ne293)
    have c302 := c301.other W127 (Or.inl ne293)
    have c303 := c302.other W151 (Or.inl ne293)
    have c304 := c303.other W177 (Or.inl ne293)
    have c305 := c304.other W205 (Or.inl ne293)
    have c306 := c305.other W235 (Or.inl ne293)
    have ne307 : o_OR ≠ o_NOT_EQUAL := (c264.ne c306 (fun q => absurd (Value.int.inj q) (by decide)))
    have c308 := c43.wr W51
    have c309 := c308.wr W67
    have c310 := c309.wr W85
    have c311 := c310.wr W105
    have c312 := c311.wr W127
    have c313 := c312.wr W151
    have c314 := c313.wr W177
    have c315 := c314.wr W205
    have c316 := c315.wr W235
    obtain ⟨T317, X317, e317, st317⟩ := getS2 X291 hx hZ hown (host := "") (Or.inl (own_w12 hw)) Via.refl e291 c316 (g := (mkF m 118 #[.val (.int i0), .val (.ref b1), .val (.int (0 : Int32)), .val (.ref o_OR), .unset] [(.ref o_OR)])) rfl (hb hby at_118)
    have c318 := F_o_LESS_ordinal.ext E1
    have ne319 : o_LESS ≠ b1 := (Nat.ne_of_lt (Nat.lt_of_lt_of_le E_o_LESS.lt sz_b1))
    have c320 := c318.other W7 (Or.inl ne319)
    have c321 := c320.other W15 (Or.inl ne319)
    have c322 := c321.other W25 (Or.inl ne319)
    have c323 := c322.other W37 (Or.inl ne319)
    have c324 := c323.other W51 (Or.inl ne319)
    have c325 := c324.other W67 (Or.inl ne319)
    have c326 := c325.other W85 (Or.inl ne319)
    have c327 := c326.other W105 (Or.inl ne319)
    have c328 := c327.other W127 (Or.inl ne319)
    have c329 := c328.other W151 (Or.inl ne319)
    have c330 := c329.other W177 (Or.inl ne319)
    have c331 := c330.other W205 (Or.inl ne319)
    have c332 := c331.other W235 (Or.inl ne319)
    have ne333 : o_OR ≠ o_LESS := (c264.ne c332 (fun q => absurd (Value.int.inj q) (by decide)))
    have c334 := c58.wr W67
    have c335 := c334.wr W85
    have c336 := c335.wr W105
    have c337 := c336.wr W127
    have c338 := c337.wr W151
    have c339 := c338.wr W177
    have c340 := c339.wr W205
    have c341 := c340.wr W235
    obtain ⟨T342, X342, e342, st342⟩ := getS2 X317 hx hZ hown (host := "") (Or.inl (own_w14 hw)) Via.refl e317 c341 (g := (mkF m 125 #[.val (.int i0), .val (.ref b1), .val (.int (0 : Int32)), .val (.ref o_OR), .unset] [(.ref o_OR)])) rfl (hb hby at_125)
    have c343 := F_o_LESS_OR_EQUAL_ordinal.ext E1
    have ne344 : o_LESS_OR_EQUAL ≠ b1 := (Nat.ne_of_lt (Nat.lt_of_lt_of_le E_o_LESS_OR_EQUAL.lt sz_b1))
    have c345 := c343.other W7 (Or.inl ne344)
    have c346 := c345.other W15 (Or.inl ne344)
    have c347 := c346.other W25 (Or.inl ne344)
    have c348 := c347.other W37 (Or.inl ne344)
    have c349 := c348.other W51 (Or.inl ne344)
    have c350 := c349.other W67 (Or.inl ne344)
    have c351 := c350.other W85 (Or.inl ne344)
    have c352 := c351.other W105 (Or.inl ne344)
    have c353 := c352.other W127 (Or.inl ne344)
    have c354 := c353.other W151 (Or.inl ne344)
    have c355 := c354.other W177 (Or.inl ne344)
    have c356 := c355.other W205 (Or.inl ne344)
    have c357 := c356.other W235 (Or.inl ne344)
    have ne358 : o_OR ≠ o_LESS_OR_EQUAL := (c264.ne c357 (fun q => absurd (Value.int.inj q) (by decide)))
    have c359 := c75.wr W85
    have c360 := c359.wr W105
    have c361 := c360.wr W127
    have c362 := c361.wr W151
    have c363 := c362.wr W177
    have c364 := c363.wr W205
    have c365 := c364.wr W235
    obtain ⟨T366, X366, e366, st366⟩ := getS2 X342 hx hZ hown (host := "") (Or.inl (own_w16 hw)) Via.refl e342 c365 (g := (mkF m 132 #[.val (.int i0), .val (.ref b1), .val (.int (0 : Int32)), .val (.ref o_OR), .unset] [(.ref o_OR)])) rfl (hb hby at_132)
    have c367 := F_o_GREATER_ordinal.ext E1
    have ne368 : o_GREATER ≠ b1 := (Nat.ne_of_lt (Nat.lt_of_lt_of_le E_o_GREATER.lt sz_b1))
    have c369 := c367.other W7 (Or.inl ne368)
    have c370 := c369.other W15 (Or.inl ne368)
    have c371 := c370.other W25 (Or.inl ne368)
    have c372 := c371.other W37 (Or.inl ne368)
    have c373 := c372.other W51 (Or.inl ne368)
    have c374 := c373.other W67 (Or.inl ne368)
    have c375 := c374.other W85 (Or.inl ne368)
    have c376 := c375.other W105 (Or.inl ne368)
    have c377 := c376.other W127 (Or.inl ne368)
    have c378 := c377.other W151 (Or.inl ne368)
    have c379 := c378.other W177 (Or.inl ne368)
    have c380 := c379.other W205 (Or.inl ne368)
    have c381 := c380.other W235 (Or.inl ne368)
    have ne382 : o_OR ≠ o_GREATER := (c264.ne c381 (fun q => absurd (Value.int.inj q) (by decide)))
    have c383 := c94.wr W105
    have c384 := c383.wr W127
    have c385 := c384.wr W151
    have c386 := c385.wr W177
    have c387 := c386.wr W205
    have c388 := c387.wr W235
    obtain ⟨T389, X389, e389, st389⟩ := getS2 X366 hx hZ hown (host := "") (Or.inl (own_w18 hw)) Via.refl e366 c388 (g := (mkF m 139 #[.val (.int i0), .val (.ref b1), .val (.int (0 : Int32)), .val (.ref o_OR), .unset] [(.ref o_OR)])) rfl (hb hby at_139)
    have c390 := F_o_GREATER_OR_EQUAL_ordinal.ext E1
    have ne391 : o_GREATER_OR_EQUAL ≠ b1 := (Nat.ne_of_lt (Nat.lt_of_lt_of_le E_o_GREATER_OR_EQUAL.lt sz_b1))
    have c392 := c390.other W7 (Or.inl ne391)
    have c393 := c392.other W15 (Or.inl ne391)
    have c394 := c393.other W25 (Or.inl ne391)
    have c395 := c394.other W37 (Or.inl ne391)
    have c396 := c395.other W51 (Or.inl ne391)
    have c397 := c396.other W67 (Or.inl ne391)
    have c398 := c397.other W85 (Or.inl ne391)
    have c399 := c398.other W105 (Or.inl ne391)
    have c400 := c399.other W127 (Or.inl ne391)
    have c401 := c400.other W151 (Or.inl ne391)
    have c402 := c401.other W177 (Or.inl ne391)
    have c403 := c402.other W205 (Or.inl ne391)
    have c404 := c403.other W235 (Or.inl ne391)
    have ne405 : o_OR ≠ o_GREATER_OR_EQUAL := (c264.ne c404 (fun q => absurd (Value.int.inj q) (by decide)))
    have c406 := c6.wr W7
    have c407 := c406.wr W15
    have c408 := c407.wr W25
    have c409 := c408.wr W37
    have c410 := c409.wr W51
    have c411 := c410.wr W67
    have c412 := c411.wr W85
    have c413 := c412.wr W105
    have c414 := c413.wr W127
    have c415 := c414.wr W151
    have c416 := c415.wr W177
    have c417 := c416.wr W205
    have c418 := c417.wr W235
    have c419 := F_o_OR_precedence.ext E1
    have c420 := c419.other W7 (Or.inl ne251)
    have c421 := c420.other W15 (Or.inl ne251)
    have c422 := c421.other W25 (Or.inl ne251)
    have c423 := c422.other W37 (Or.inl ne251)
    have c424 := c423.other W51 (Or.inl ne251)
    have c425 := c424.other W67 (Or.inl ne251)
    have c426 := c425.other W85 (Or.inl ne251)
    have c427 := c426.other W105 (Or.inl ne251)
    have c428 := c427.other W127 (Or.inl ne251)
    have c429 := c428.other W151 (Or.inl ne251)
    have c430 := c429.other W177 (Or.inl ne251)
    have c431 := c430.other W205 (Or.inl ne251)
    have c432 := c431.other W235 (Or.inl ne251)
    have c433 := F_o_EQUAL_precedence.ext E1
    have c434 := c433.other W7 (Or.inl ne266)
    have c435 := c434.other W15 (Or.inl ne266)
    have c436 := c435.other W25 (Or.inl ne266)
    have c437 := c436.other W37 (Or.inl ne266)
    have c438 := c437.other W51 (Or.inl ne266)
    have c439 := c438.other W67 (Or.inl ne266)
    have c440 := c439.other W85 (Or.inl ne266)
    have c441 := c440.other W105 (Or.inl ne266)
    have c442 := c441.other W127 (Or.inl ne266)
    have c443 := c442.other W151 (Or.inl ne266)
    have c444 := c443.other W177 (Or.inl ne266)
    have c445 := c444.other W205 (Or.inl ne266)
    have c446 := c445.other W235 (Or.inl ne266)
    obtain ⟨cq447, kq447, q447a, q447b, q447c⟩ := isOf hZ e389 c418
    obtain ⟨_, _, ⟨T447, L447, k447, n447⟩, -, X447, ⟨Lc447, hQ447, l447, y447, z447⟩, st447⟩ := X389.virtualBack hx (y := (⟨"com/example/treelational/treelational/xpath/Operator", "isComparison", "()Z"⟩ : MethodName)) (z := (⟨"com/example/treelational/treelational/xpath/Operator", "isComparison", "()Z"⟩ : MethodName)) hown (mvT hZ (own_w31 hw)) (mvT hZ (own_w32 hw)) (notFace_of_selects (args := #[]) (mvT hZ (own_w34 hw))) (mvT hZ (own_w34 hw)) (mvT hZ (own_w33 hw)) (by decide) (backOf (W := 0) (rm1_1 l Z a0 hw [] o_OR o_EQUAL h235 n0 (Nat.le_trans Z0 KC236.1) c432 c248 c446) hZ (own_w35 hw) (own_w3 hw) (by decide) (by decide)) q447a q447c (g := (mkF m 153 #[.val (.int i0), .val (.ref b1), .val (.int (0 : Int32)), .val (.ref o_OR), .val (.int (0 : Int32))] [(.ref o_OR)])) rfl (by rw [hml]; rfl) (Steps.refl _) (argsL := []) (rest := []) (lenOf pd___Z rfl) rfl (by show 2 * 0 + _ ≤ _; exact Nat.le_of_eq rfl) (hb hby at_153) (fun _ _ => ⟨rfl, e389, (by decide : 1 + 0 ≤ _), (by decide : 13 + 0 ≤ _)⟩)
    dsimp only [Pt.U, Pt.locs, Pt.cells, Pt.slots] at X447 l447 y447 z447 st447 hQ447
    subst l447 y447 z447
    obtain ⟨rfl, N447q, e447⟩ := hQ447
    have N447 := Fr.app N235 N447q
    obtain ⟨fs, hr, hrun, hended, hW, hsame⟩ := X447.leave (v := some (.int (1 : Int32))) (fun h => by rw [Bd.returns] at h; cases h)
    refine ⟨_, _, pre1 _ ?_, hrun, hended, _, _, rfl, ⟨rfl, N447⟩, ⟨_, rfl⟩, hW, hsame.mono (by decide) (by decide)⟩
    show Steps p.tables e below (T235.setTop (mkF m 98 #[.val (.int i0), .val (.ref b1), .unset, .unset, .unset] [(.int ((i0 &&& (2147483647 : Int32)) % (13 : Int32)))])) _
    rw [he0]
    show Steps p.tables e below (T235.setTop (mkF m 98 #[.val (.int i0), .val (.ref b1), .unset, .unset, .unset] [(.int (0 : Int32))])) _
    refine XS.istoreN X235.here hx rfl (hb hby at_98) rfl (l' := #[.val (.int i0), .val (.ref b1), .val (.int (0 : Int32)), .unset, .unset]) rfl ?_
    show Steps p.tables e below (T235.setTop (mkF m 99 #[.val (.int i0), .val (.ref b1), .val (.int (0 : Int32)), .unset, .unset] [])) _
    refine XS.aloadN X235.here hx rfl (hb hby at_99) rfl rfl ?_
    show Steps p.tables e below (T235.setTop (mkF m 100 #[.val (.int i0), .val (.ref b1), .val (.int (0 : Int32)), .unset, .unset] [(.ref b1)])) _
    refine XS.iloadN X235.here hx rfl (hb hby at_100) rfl ?_
    show Steps p.tables e below (T235.setTop (mkF m 101 #[.val (.int i0), .val (.ref b1), .val (.int (0 : Int32)), .unset, .unset] [(.int (0 : Int32)), (.ref b1)])) _
    refine X235.aaload hx (j := (0 : Int32)) (v := (.ref o_OR)) (by rw [e235]; exact Ar237.1) (State.isArrayOf_alike hZ.alike Ar237.2.1) rfl Ar237.2.2 hin237 hat237 (g := (mkF m 101 #[.val (.int i0), .val (.ref b1), .val (.int (0 : Int32)), .unset, .unset] [(.int (0 : Int32)), (.ref b1)])) rfl rfl (hb hby at_101) _ ?_
    show Steps p.tables e below (T235.setTop (mkF m 102 #[.val (.int i0), .val (.ref b1), .val (.int (0 : Int32)), .unset, .unset] [(.ref o_OR)])) _
    refine XS.astoreN X235.here hx rfl (hb hby at_102) rfl rfl (l' := #[.val (.int i0), .val (.ref b1), .val (.int (0 : Int32)), .val (.ref o_OR), .unset]) rfl ?_
    show Steps p.tables e below (T235.setTop (mkF m 103 #[.val (.int i0), .val (.ref b1), .val (.int (0 : Int32)), .val (.ref o_OR), .unset] [])) _
    refine XS.aloadN X235.here hx rfl (hb hby at_103) rfl rfl ?_
    show Steps p.tables e below (T235.setTop (mkF m 104 #[.val (.int i0), .val (.ref b1), .val (.int (0 : Int32)), .val (.ref o_OR), .unset] [(.ref o_OR)])) _
    refine st249 _ ?_
    show Steps p.tables e below (T249.setTop (mkF m 107 #[.val (.int i0), .val (.ref b1), .val (.int (0 : Int32)), .val (.ref o_OR), .unset] [(.ref o_EQUAL), (.ref o_OR)])) _
    refine Jvm.RoadKit.acmp (g := (mkF m 107 #[.val (.int i0), .val (.ref b1), .val (.int (0 : Int32)), .val (.ref o_OR), .unset] [(.ref o_EQUAL), (.ref o_OR)])) X249 hx rfl rfl rfl (pc0 := 107) (pc' := 110) (same := false) rfl (hb hby at_107) rfl (decide_eq_false fun q => ne280 (Value.ref.inj q)) (by decide) (by decide) ?_
    show Steps p.tables e below (T249.setTop (mkF m 110 #[.val (.int i0), .val (.ref b1), .val (.int (0 : Int32)), .val (.ref o_OR), .unset] [])) _
    refine XS.aloadN X249.here hx rfl (hb hby at_110) rfl rfl ?_
    show Steps p.tables e below (T249.setTop (mkF m 111 #[.val (.int i0), .val (.ref b1), .val (.int (0 : Int32)), .val (.ref o_OR), .unset] [(.ref o_OR)])) _
    refine st291 _ ?_
    show Steps p.tables e below (T291.setTop (mkF m 114 #[.val (.int i0), .val (.ref b1), .val (.int (0 : Int32)), .val (.ref o_OR), .unset] [(.ref o_NOT_EQUAL), (.ref o_OR)])) _
    refine Jvm.RoadKit.acmp (g := (mkF m 114 #[.val (.int i0), .val (.ref b1), .val (.int (0 : Int32)), .val (.ref o_OR), .unset] [(.ref o_NOT_EQUAL), (.ref o_OR)])) X291 hx rfl rfl rfl (pc0 := 114) (pc' := 117) (same := false) rfl (hb hby at_114) rfl (decide_eq_false fun q => ne307 (Value.ref.inj q)) (by decide) (by decide) ?_
    show Steps p.tables e below (T291.setTop (mkF m 117 #[.val (.int i0), .val (.ref b1), .val (.int (0 : Int32)), .val (.ref o_OR), .unset] [])) _
    refine XS.aloadN X291.here hx rfl (hb hby at_117) rfl rfl ?_
    show Steps p.tables e below (T291.setTop (mkF m 118 #[.val (.int i0), .val (.ref b1), .val (.int (0 : Int32)), .val (.ref o_OR), .unset] [(.ref o_OR)])) _
    refine st317 _ ?_
    show Steps p.tables e below (T317.setTop (mkF m 121 #[.val (.int i0), .val (.ref b1), .val (.int (0 : Int32)), .val (.ref o_OR), .unset] [(.ref o_LESS), (.ref o_OR)])) _
    refine Jvm.RoadKit.acmp (g := (mkF m 121 #[.val (.int i0), .val (.ref b1), .val (.int (0 : Int32)), .val (.ref o_OR), .unset] [(.ref o_LESS), (.ref o_OR)])) X317 hx rfl rfl rfl (pc0 := 121) (pc' := 124) (same := false) rfl (hb hby at_121) rfl (decide_eq_false fun q => ne333 (Value.ref.inj q)) (by decide) (by decide) ?_
    show Steps p.tables e below (T317.setTop (mkF m 124 #[.val (.int i0), .val (.ref b1), .val (.int (0 : Int32)), .val (.ref o_OR), .unset] [])) _
    refine XS.aloadN X317.here hx rfl (hb hby at_124) rfl rfl ?_
    show Steps p.tables e below (T317.setTop (mkF m 125 #[.val (.int i0), .val (.ref b1), .val (.int (0 : Int32)), .val (.ref o_OR), .unset] [(.ref o_OR)])) _
    refine st342 _ ?_
    show Steps p.tables e below (T342.setTop (mkF m 128 #[.val (.int i0), .val (.ref b1), .val (.int (0 : Int32)), .val (.ref o_OR), .unset] [(.ref o_LESS_OR_EQUAL), (.ref o_OR)])) _
    refine Jvm.RoadKit.acmp (g := (mkF m 128 #[.val (.int i0), .val (.ref b1), .val (.int (0 : Int32)), .val (.ref o_OR), .unset] [(.ref o_LESS_OR_EQUAL), (.ref o_OR)])) X342 hx rfl rfl rfl (pc0 := 128) (pc' := 131) (same := false) rfl (hb hby at_128) rfl (decide_eq_false fun q => ne358 (Value.ref.inj q)) (by decide) (by decide) ?_
    show Steps p.tables e below (T342.setTop (mkF m 131 #[.val (.int i0), .val (.ref b1), .val (.int (0 : Int32)), .val (.ref o_OR), .unset] [])) _
    refine XS.aloadN X342.here hx rfl (hb hby at_131) rfl rfl ?_
    show Steps p.tables e below (T342.setTop (mkF m 132 #[.val (.int i0), .val (.ref b1), .val (.int (0 : Int32)), .val (.ref o_OR), .unset] [(.ref o_OR)])) _
    refine st366 _ ?_
    show Steps p.tables e below (T366.setTop (mkF m 135 #[.val (.int i0), .val (.ref b1), .val (.int (0 : Int32)), .val (.ref o_OR), .unset] [(.ref o_GREATER), (.ref o_OR)])) _
    refine Jvm.RoadKit.acmp (g := (mkF m 135 #[.val (.int i0), .val (.ref b1), .val (.int (0 : Int32)), .val (.ref o_OR), .unset] [(.ref o_GREATER), (.ref o_OR)])) X366 hx rfl rfl rfl (pc0 := 135) (pc' := 138) (same := false) rfl (hb hby at_135) rfl (decide_eq_false fun q => ne382 (Value.ref.inj q)) (by decide) (by decide) ?_
    show Steps p.tables e below (T366.setTop (mkF m 138 #[.val (.int i0), .val (.ref b1), .val (.int (0 : Int32)), .val (.ref o_OR), .unset] [])) _
    refine XS.aloadN X366.here hx rfl (hb hby at_138) rfl rfl ?_
    show Steps p.tables e below (T366.setTop (mkF m 139 #[.val (.int i0), .val (.ref b1), .val (.int (0 : Int32)), .val (.ref o_OR), .unset] [(.ref o_OR)])) _
    refine st389 _ ?_
    show Steps p.tables e below (T389.setTop (mkF m 142 #[.val (.int i0), .val (.ref b1), .val (.int (0 : Int32)), .val (.ref o_OR), .unset] [(.ref o_GREATER_OR_EQUAL), (.ref o_OR)])) _
    refine Jvm.RoadKit.acmp (g := (mkF m 142 #[.val (.int i0), .val (.ref b1), .val (.int (0 : Int32)), .val (.ref o_OR), .unset] [(.ref o_GREATER_OR_EQUAL), (.ref o_OR)])) X389 hx rfl rfl rfl (pc0 := 142) (pc' := 149) (same := false) rfl (hb hby at_142) rfl (decide_eq_false fun q => ne405 (Value.ref.inj q)) (by decide) (by decide) ?_
    show Steps p.tables e below (T389.setTop (mkF m 149 #[.val (.int i0), .val (.ref b1), .val (.int (0 : Int32)), .val (.ref o_OR), .unset] [])) _
    refine XS.iconst X389.here hx rfl (hb hby at_149) ?_
    show Steps p.tables e below (T389.setTop (mkF m 150 #[.val (.int i0), .val (.ref b1), .val (.int (0 : Int32)), .val (.ref o_OR), .unset] [(.int (0 : Int32))])) _
    refine XS.istore X389.here hx rfl (hb hby at_150) rfl (l' := #[.val (.int i0), .val (.ref b1), .val (.int (0 : Int32)), .val (.ref o_OR), .val (.int (0 : Int32))]) rfl ?_
    show Steps p.tables e below (T389.setTop (mkF m 152 #[.val (.int i0), .val (.ref b1), .val (.int (0 : Int32)), .val (.ref o_OR), .val (.int (0 : Int32))] [])) _
    refine XS.aloadN X389.here hx rfl (hb hby at_152) rfl rfl ?_
    show Steps p.tables e below (T389.setTop (mkF m 153 #[.val (.int i0), .val (.ref b1), .val (.int (0 : Int32)), .val (.ref o_OR), .val (.int (0 : Int32))] [(.ref o_OR)])) _
    refine st447.trans ?_
    show Steps p.tables e below (T447.setTop (mkF m 156 #[.val (.int i0), .val (.ref b1), .val (.int (0 : Int32)), .val (.ref o_OR), .val (.int (0 : Int32))] [(.int (0 : Int32))])) _
    refine XS.iload X447.here hx rfl (hb hby at_156) rfl ?_
    show Steps p.tables e below (T447.setTop (mkF m 158 #[.val (.int i0), .val (.ref b1), .val (.int (0 : Int32)), .val (.ref o_OR), .val (.int (0 : Int32))] [(.int (0 : Int32)), (.int (0 : Int32))])) _
    refine XS.icmpNo X447.here hx rfl (hb hby at_158) rfl (teq (by decide : (0 : Int32) = (0 : Int32))).2 ?_
    show Steps p.tables e below (T447.setTop (mkF m 161 #[.val (.int i0), .val (.ref b1), .val (.int (0 : Int32)), .val (.ref o_OR), .val (.int (0 : Int32))] [])) _
    refine XS.iconst X447.here hx rfl (hb hby at_161) ?_
    show Steps p.tables e below (T447.setTop (mkF m 162 #[.val (.int i0), .val (.ref b1), .val (.int (0 : Int32)), .val (.ref o_OR), .val (.int (0 : Int32))] [(.int (1 : Int32))])) _
    refine XS.goto X447.here hx rfl (pc0 := 162) (pc' := 166) rfl (hb hby at_162) (by decide) (by decide) ?_
    show Steps p.tables e below (T447.setTop (mkF m 166 #[.val (.int i0), .val (.ref b1), .val (.int (0 : Int32)), .val (.ref o_OR), .val (.int (0 : Int32))] [(.int (1 : Int32))])) _
    exact retN X447 hx (t := .boolean) Bd.returns (by simp) (hb hby at_166) hr
  · obtain ⟨cl237, Ar237, qk237, Sz237, Ng237, Ha237, Gf237⟩ := V235
    have hin237 : ¬ ((1 : Int32) < 0 ∨ cl237.slots.size ≤ ((1 : Int32)).toNatClampNeg) := inb_of Sz237 ⟨by decide, by decide⟩
    have hat237 : cl237.slots[((1 : Int32)).toNatClampNeg]? = some (.ref o_AND) := Has.at Ha237 hin237 rfl
    have c238 := c19.wr W25
    have c239 := c238.wr W37
    have c240 := c239.wr W51
    have c241 := c240.wr W67
    have c242 := c241.wr W85
    have c243 := c242.wr W105
    have c244 := c243.wr W127
    have c245 := c244.wr W151
    have c246 := c245.wr W177
    have c247 := c246.wr W205
    have c248 := c247.wr W235
    obtain ⟨T249, X249, e249, st249⟩ := getS2 X235 hx hZ hown (host := "") (Or.inl (own_w8 hw)) Via.refl e235 c248 (g := (mkF m 104 #[.val (.int i0), .val (.ref b1), .val (.int (1 : Int32)), .val (.ref o_AND), .unset] [(.ref o_AND)])) rfl (hb hby at_104)
    have c250 := F_o_AND_ordinal.ext E1
    have ne251 : o_AND ≠ b1 := (Nat.ne_of_lt (Nat.lt_of_lt_of_le E_o_AND.lt sz_b1))
    have c252 := c250.other W7 (Or.inl ne251)
    have c253 := c252.other W15 (Or.inl ne251)
    have c254 := c253.other W25 (Or.inl ne251)
    have c255 := c254.other W37 (Or.inl ne251)
    have c256 := c255.other W51 (Or.inl ne251)
    have c257 := c256.other W67 (Or.inl ne251)
    have c258 := c257.other W85 (Or.inl ne251)
    have c259 := c258.other W105 (Or.inl ne251)
    have c260 := c259.other W127 (Or.inl ne251)
    have c261 := c260.other W151 (Or.inl ne251)
    have c262 := c261.other W177 (Or.inl ne251)
    have c263 := c262.other W205 (Or.inl ne251)
    have c264 := c263.other W235 (Or.inl ne251)
    have c265 := F_o_EQUAL_ordinal.ext E1
    have ne266 : o_EQUAL ≠ b1 := (Nat.ne_of_lt (Nat.lt_of_lt_of_le E_o_EQUAL.lt sz_b1))
    have c267 := c265.other W7 (Or.inl ne266)
    have c268 := c267.other W15 (Or.inl ne266)
    have c269 := c268.other W25 (Or.inl ne266)
    have c270 := c269.other W37 (Or.inl ne266)
    have c271 := c270.other W51 (Or.inl ne266)
    have c272 := c271.other W67 (Or.inl ne266)
    have c273 := c272.other W85 (Or.inl ne266)
    have c274 := c273.other W105 (Or.inl ne266)
    have c275 := c274.other W127 (Or.inl ne266)
    have c276 := c275.other W151 (Or.inl ne266)
    have c277 := c276.other W177 (Or.inl ne266)
    have c278 := c277.other W205 (Or.inl ne266)
    have c279 := c278.other W235 (Or.inl ne266)
    have ne280 : o_AND ≠ o_EQUAL := (c264.ne c279 (fun q => absurd (Value.int.inj q) (by decide)))
    have c281 := c30.wr W37
    have c282 := c281.wr W51
    have c283 := c282.wr W67
    have c284 := c283.wr W85
    have c285 := c284.wr W105
    have c286 := c285.wr W127
    have c287 := c286.wr W151
    have c288 := c287.wr W177
    have c289 := c288.wr W205
    have c290 := c289.wr W235
    obtain ⟨T291, X291, e291, st291⟩ := getS2 X249 hx hZ hown (host := "") (Or.inl (own_w10 hw)) Via.refl e249 c290 (g := (mkF m 111 #[.val (.int i0), .val (.ref b1), .val (.int (1 : Int32)), .val (.ref o_AND), .unset] [(.ref o_AND)])) rfl (hb hby at_111)
    have c292 := F_o_NOT_EQUAL_ordinal.ext E1
    have ne293 : o_NOT_EQUAL ≠ b1 := (Nat.ne_of_lt (Nat.lt_of_lt_of_le E_o_NOT_EQUAL.lt sz_b1))
    have c294 := c292.other W7 (Or.inl ne293)
    have c295 := c294.other W15 (Or.inl ne293)
    have c296 := c295.other W25 (Or.inl ne293)
    have c297 := c296.other W37 (Or.inl ne293)
    have c298 := c297.other W51 (Or.inl ne293)
    have c299 := c298.other W67 (Or.inl ne293)
    have c300 := c299.other W85 (Or.inl ne293)
    have c301 := c300.other W105 (Or.inl ne293)
    have c302 := c301.other W127 (Or.inl ne293)
    have c303 := c302.other W151 (Or.inl ne293)
    have c304 := c303.other W177 (Or.inl ne293)
    have c305 := c304.other W205 (Or.inl ne293)
    have c306 := c305.other W235 (Or.inl ne293)
    have ne307 : o_AND ≠ o_NOT_EQUAL := (c264.ne c306 (fun q => absurd (Value.int.inj q) (by decide)))
    have c308 := c43.wr W51
    have c309 := c308.wr W67
    have c310 := c309.wr W85
    have c311 := c310.wr W105
    have c312 := c311.wr W127
    have c313 := c312.wr W151
    have c314 := c313.wr W177
    have c315 := c314.wr W205
    have c316 := c315.wr W235
    obtain ⟨T317, X317, e317, st317⟩ := getS2 X291 hx hZ hown (host := "") (Or.inl (own_w12 hw)) Via.refl e291 c316 (g := (mkF m 118 #[.val (.int i0), .val (.ref b1), .val (.int (1 : Int32)), .val (.ref o_AND), .unset] [(.ref o_AND)])) rfl (hb hby at_118)
    have c318 := F_o_LESS_ordinal.ext E1
    have ne319 : o_LESS ≠ b1 := (Nat.ne_of_lt (Nat.lt_of_lt_of_le E_o_LESS.lt sz_b1))
    have c320 := c318.other W7 (Or.inl ne319)
    have c321 := c320.other W15 (Or.inl ne319)
    have c322 := c321.other W25 (Or.inl ne319)
    have c323 := c322.other W37 (Or.inl ne319)
    have c324 := c323.other W51 (Or.inl ne319)
    have c325 := c324.other W67 (Or.inl ne319)
    have c326 := c325.other W85 (Or.inl ne319)
    have c327 := c326.other W105 (Or.inl ne319)
    have c328 := c327.other W127 (Or.inl ne319)
    have c329 := c328.other W151 (Or.inl ne319)
    have c330 := c329.other W177 (Or.inl ne319)
    have c331 := c330.other W205 (Or.inl ne319)
    have c332 := c331.other W235 (Or.inl ne319)
    have ne333 : o_AND ≠ o_LESS := (c264.ne c332 (fun q => absurd (Value.int.inj q) (by decide)))
    have c334 := c58.wr W67
    have c335 := c334.wr W85
    have c336 := c335.wr W105
    have c337 := c336.wr W127
    have c338 := c337.wr W151
    have c339 := c338.wr W177
    have c340 := c339.wr W205
    have c341 := c340.wr W235
    obtain ⟨T342, X342, e342, st342⟩ := getS2 X317 hx hZ hown (host := "") (Or.inl (own_w14 hw)) Via.refl e317 c341 (g := (mkF m 125 #[.val (.int i0), .val (.ref b1), .val (.int (1 : Int32)), .val (.ref o_AND), .unset] [(.ref o_AND)])) rfl (hb hby at_125)
    have c343 := F_o_LESS_OR_EQUAL_ordinal.ext E1
    have ne344 : o_LESS_OR_EQUAL ≠ b1 := (Nat.ne_of_lt (Nat.lt_of_lt_of_le E_o_LESS_OR_EQUAL.lt sz_b1))
    have c345 := c343.other W7 (Or.inl ne344)
    have c346 := c345.other W15 (Or.inl ne344)
    have c347 := c346.other W25 (Or.inl ne344)
    have c348 := c347.other W37 (Or.inl ne344)
    have c349 := c348.other W51 (Or.inl ne344)
    have c350 := c349.other W67 (Or.inl ne344)
    have c351 := c350.other W85 (Or.inl ne344)
    have c352 := c351.other W105 (Or.inl ne344)
    have c353 := c352.other W127 (Or.inl ne344)
    have c354 := c353.other W151 (Or.inl ne344)
    have c355 := c354.other W177 (Or.inl ne344)
    have c356 := c355.other W205 (Or.inl ne344)
    have c357 := c356.other W235 (Or.inl ne344)
    have ne358 : o_AND ≠ o_LESS_OR_EQUAL := (c264.ne c357 (fun q => absurd (Value.int.inj q) (by decide)))
    have c359 := c75.wr W85
    have c360 := c359.wr W105
    have c361 := c360.wr W127
    have c362 := c361.wr W151
    have c363 := c362.wr W177
    have c364 := c363.wr W205
    have c365 := c364.wr W235
    obtain ⟨T366, X366, e366, st366⟩ := getS2 X342 hx hZ hown (host := "") (Or.inl (own_w16 hw)) Via.refl e342 c365 (g := (mkF m 132 #[.val (.int i0), .val (.ref b1), .val (.int (1 : Int32)), .val (.ref o_AND), .unset] [(.ref o_AND)])) rfl (hb hby at_132)
    have c367 := F_o_GREATER_ordinal.ext E1
    have ne368 : o_GREATER ≠ b1 := (Nat.ne_of_lt (Nat.lt_of_lt_of_le E_o_GREATER.lt sz_b1))
    have c369 := c367.other W7 (Or.inl ne368)
    have c370 := c369.other W15 (Or.inl ne368)
    have c371 := c370.other W25 (Or.inl ne368)
    have c372 := c371.other W37 (Or.inl ne368)
    have c373 := c372.other W51 (Or.inl ne368)
    have c374 := c373.other W67 (Or.inl ne368)
    have c375 := c374.other W85 (Or.inl ne368)
    have c376 := c375.other W105 (Or.inl ne368)
    have c377 := c376.other W127 (Or.inl ne368)
    have c378 := c377.other W151 (Or.inl ne368)
    have c379 := c378.other W177 (Or.inl ne368)
    have c380 := c379.other W205 (Or.inl ne368)
    have c381 := c380.other W235 (Or.inl ne368)
    have ne382 : o_AND ≠ o_GREATER := (c264.ne c381 (fun q => absurd (Value.int.inj q) (by decide)))
    have c383 := c94.wr W105
    have c384 := c383.wr W127
    have c385 := c384.wr W151
    have c386 := c385.wr W177
    have c387 := c386.wr W205
    have c388 := c387.wr W235
    obtain ⟨T389, X389, e389, st389⟩ := getS2 X366 hx hZ hown (host := "") (Or.inl (own_w18 hw)) Via.refl e366 c388 (g := (mkF m 139 #[.val (.int i0), .val (.ref b1), .val (.int (1 : Int32)), .val (.ref o_AND), .unset] [(.ref o_AND)])) rfl (hb hby at_139)
    have c390 := F_o_GREATER_OR_EQUAL_ordinal.ext E1
    have ne391 : o_GREATER_OR_EQUAL ≠ b1 := (Nat.ne_of_lt (Nat.lt_of_lt_of_le E_o_GREATER_OR_EQUAL.lt sz_b1))
    have c392 := c390.other W7 (Or.inl ne391)
    have c393 := c392.other W15 (Or.inl ne391)
    have c394 := c393.other W25 (Or.inl ne391)
    have c395 := c394.other W37 (Or.inl ne391)
    have c396 := c395.other W51 (Or.inl ne391)
    have c397 := c396.other W67 (Or.inl ne391)
    have c398 := c397.other W85 (Or.inl ne391)
    have c399 := c398.other W105 (Or.inl ne391)
    have c400 := c399.other W127 (Or.inl ne391)
    have c401 := c400.other W151 (Or.inl ne391)
    have c402 := c401.other W177 (Or.inl ne391)
    have c403 := c402.other W205 (Or.inl ne391)
    have c404 := c403.other W235 (Or.inl ne391)
    have ne405 : o_AND ≠ o_GREATER_OR_EQUAL := (c264.ne c404 (fun q => absurd (Value.int.inj q) (by decide)))
    have c406 := c14.wr W15
    have c407 := c406.wr W25
    have c408 := c407.wr W37
    have c409 := c408.wr W51
    have c410 := c409.wr W67
    have c411 := c410.wr W85
    have c412 := c411.wr W105
    have c413 := c412.wr W127
    have c414 := c413.wr W151
    have c415 := c414.wr W177
    have c416 := c415.wr W205
    have c417 := c416.wr W235
    have c418 := F_o_AND_precedence.ext E1
    have c419 := c418.other W7 (Or.inl ne251)
    have c420 := c419.other W15 (Or.inl ne251)
    have c421 := c420.other W25 (Or.inl ne251)
    have c422 := c421.other W37 (Or.inl ne251)
    have c423 := c422.other W51 (Or.inl ne251)
    have c424 := c423.other W67 (Or.inl ne251)
    have c425 := c424.other W85 (Or.inl ne251)
    have c426 := c425.other W105 (Or.inl ne251)
    have c427 := c426.other W127 (Or.inl ne251)
    have c428 := c427.other W151 (Or.inl ne251)
    have c429 := c428.other W177 (Or.inl ne251)
    have c430 := c429.other W205 (Or.inl ne251)
    have c431 := c430.other W235 (Or.inl ne251)
    have c432 := F_o_EQUAL_precedence.ext E1
    have c433 := c432.other W7 (Or.inl ne266)
    have c434 := c433.other W15 (Or.inl ne266)
    have c435 := c434.other W25 (Or.inl ne266)
    have c436 := c435.other W37 (Or.inl ne266)
    have c437 := c436.other W51 (Or.inl ne266)
    have c438 := c437.other W67 (Or.inl ne266)
    have c439 := c438.other W85 (Or.inl ne266)
    have c440 := c439.other W105 (Or.inl ne266)
    have c441 := c440.other W127 (Or.inl ne266)
    have c442 := c441.other W151 (Or.inl ne266)
    have c443 := c442.other W177 (Or.inl ne266)
    have c444 := c443.other W205 (Or.inl ne266)
    have c445 := c444.other W235 (Or.inl ne266)
    obtain ⟨cq446, kq446, q446a, q446b, q446c⟩ := isOf hZ e389 c417
    obtain ⟨_, _, ⟨T446, L446, k446, n446⟩, -, X446, ⟨Lc446, hQ446, l446, y446, z446⟩, st446⟩ := X389.virtualBack hx (y := (⟨"com/example/treelational/treelational/xpath/Operator", "isComparison", "()Z"⟩ : MethodName)) (z := (⟨"com/example/treelational/treelational/xpath/Operator", "isComparison", "()Z"⟩ : MethodName)) hown (mvT hZ (own_w31 hw)) (mvT hZ (own_w32 hw)) (notFace_of_selects (args := #[]) (mvT hZ (own_w34 hw))) (mvT hZ (own_w34 hw)) (mvT hZ (own_w33 hw)) (by decide) (backOf (W := 0) (rm1_2 l Z a0 hw [] o_AND o_EQUAL h235 n0 (Nat.le_trans Z0 KC236.1) c431 c248 c445) hZ (own_w35 hw) (own_w3 hw) (by decide) (by decide)) q446a q446c (g := (mkF m 153 #[.val (.int i0), .val (.ref b1), .val (.int (1 : Int32)), .val (.ref o_AND), .val (.int (0 : Int32))] [(.ref o_AND)])) rfl (by rw [hml]; rfl) (Steps.refl _) (argsL := []) (rest := []) (lenOf pd___Z rfl) rfl (by show 2 * 0 + _ ≤ _; exact Nat.le_of_eq rfl) (hb hby at_153) (fun _ _ => ⟨rfl, e389, (by decide : 1 + 0 ≤ _), (by decide : 13 + 0 ≤ _)⟩)
    dsimp only [Pt.U, Pt.locs, Pt.cells, Pt.slots] at X446 l446 y446 z446 st446 hQ446
    subst l446 y446 z446
    obtain ⟨rfl, N446q, e446⟩ := hQ446
    have N446 := Fr.app N235 N446q
    obtain ⟨fs, hr, hrun, hended, hW, hsame⟩ := X446.leave (v := some (.int (1 : Int32))) (fun h => by rw [Bd.returns] at h; cases h)
    refine ⟨_, _, pre1 _ ?_, hrun, hended, _, _, rfl, ⟨rfl, N446⟩, ⟨_, rfl⟩, hW, hsame.mono (by decide) (by decide)⟩
    show Steps p.tables e below (T235.setTop (mkF m 98 #[.val (.int i0), .val (.ref b1), .unset, .unset, .unset] [(.int ((i0 &&& (2147483647 : Int32)) % (13 : Int32)))])) _
    rw [he0]
    show Steps p.tables e below (T235.setTop (mkF m 98 #[.val (.int i0), .val (.ref b1), .unset, .unset, .unset] [(.int (1 : Int32))])) _
    refine XS.istoreN X235.here hx rfl (hb hby at_98) rfl (l' := #[.val (.int i0), .val (.ref b1), .val (.int (1 : Int32)), .unset, .unset]) rfl ?_
    show Steps p.tables e below (T235.setTop (mkF m 99 #[.val (.int i0), .val (.ref b1), .val (.int (1 : Int32)), .unset, .unset] [])) _
    refine XS.aloadN X235.here hx rfl (hb hby at_99) rfl rfl ?_
    show Steps p.tables e below (T235.setTop (mkF m 100 #[.val (.int i0), .val (.ref b1), .val (.int (1 : Int32)), .unset, .unset] [(.ref b1)])) _
    refine XS.iloadN X235.here hx rfl (hb hby at_100) rfl ?_
    show Steps p.tables e below (T235.setTop (mkF m 101 #[.val (.int i0), .val (.ref b1), .val (.int (1 : Int32)), .unset, .unset] [(.int (1 : Int32)), (.ref b1)])) _
    refine X235.aaload hx (j := (1 : Int32)) (v := (.ref o_AND)) (by rw [e235]; exact Ar237.1) (State.isArrayOf_alike hZ.alike Ar237.2.1) rfl Ar237.2.2 hin237 hat237 (g := (mkF m 101 #[.val (.int i0), .val (.ref b1), .val (.int (1 : Int32)), .unset, .unset] [(.int (1 : Int32)), (.ref b1)])) rfl rfl (hb hby at_101) _ ?_
    show Steps p.tables e below (T235.setTop (mkF m 102 #[.val (.int i0), .val (.ref b1), .val (.int (1 : Int32)), .unset, .unset] [(.ref o_AND)])) _
    refine XS.astoreN X235.here hx rfl (hb hby at_102) rfl rfl (l' := #[.val (.int i0), .val (.ref b1), .val (.int (1 : Int32)), .val (.ref o_AND), .unset]) rfl ?_
    show Steps p.tables e below (T235.setTop (mkF m 103 #[.val (.int i0), .val (.ref b1), .val (.int (1 : Int32)), .val (.ref o_AND), .unset] [])) _
    refine XS.aloadN X235.here hx rfl (hb hby at_103) rfl rfl ?_
    show Steps p.tables e below (T235.setTop (mkF m 104 #[.val (.int i0), .val (.ref b1), .val (.int (1 : Int32)), .val (.ref o_AND), .unset] [(.ref o_AND)])) _
    refine st249 _ ?_
    show Steps p.tables e below (T249.setTop (mkF m 107 #[.val (.int i0), .val (.ref b1), .val (.int (1 : Int32)), .val (.ref o_AND), .unset] [(.ref o_EQUAL), (.ref o_AND)])) _
    refine Jvm.RoadKit.acmp (g := (mkF m 107 #[.val (.int i0), .val (.ref b1), .val (.int (1 : Int32)), .val (.ref o_AND), .unset] [(.ref o_EQUAL), (.ref o_AND)])) X249 hx rfl rfl rfl (pc0 := 107) (pc' := 110) (same := false) rfl (hb hby at_107) rfl (decide_eq_false fun q => ne280 (Value.ref.inj q)) (by decide) (by decide) ?_
    show Steps p.tables e below (T249.setTop (mkF m 110 #[.val (.int i0), .val (.ref b1), .val (.int (1 : Int32)), .val (.ref o_AND), .unset] [])) _
    refine XS.aloadN X249.here hx rfl (hb hby at_110) rfl rfl ?_
    show Steps p.tables e below (T249.setTop (mkF m 111 #[.val (.int i0), .val (.ref b1), .val (.int (1 : Int32)), .val (.ref o_AND), .unset] [(.ref o_AND)])) _
    refine st291 _ ?_
    show Steps p.tables e below (T291.setTop (mkF m 114 #[.val (.int i0), .val (.ref b1), .val (.int (1 : Int32)), .val (.ref o_AND), .unset] [(.ref o_NOT_EQUAL), (.ref o_AND)])) _
    refine Jvm.RoadKit.acmp (g := (mkF m 114 #[.val (.int i0), .val (.ref b1), .val (.int (1 : Int32)), .val (.ref o_AND), .unset] [(.ref o_NOT_EQUAL), (.ref o_AND)])) X291 hx rfl rfl rfl (pc0 := 114) (pc' := 117) (same := false) rfl (hb hby at_114) rfl (decide_eq_false fun q => ne307 (Value.ref.inj q)) (by decide) (by decide) ?_
    show Steps p.tables e below (T291.setTop (mkF m 117 #[.val (.int i0), .val (.ref b1), .val (.int (1 : Int32)), .val (.ref o_AND), .unset] [])) _
    refine XS.aloadN X291.here hx rfl (hb hby at_117) rfl rfl ?_
    show Steps p.tables e below (T291.setTop (mkF m 118 #[.val (.int i0), .val (.ref b1), .val (.int (1 : Int32)), .val (.ref o_AND), .unset] [(.ref o_AND)])) _
    refine st317 _ ?_
    show Steps p.tables e below (T317.setTop (mkF m 121 #[.val (.int i0), .val (.ref b1), .val (.int (1 : Int32)), .val (.ref o_AND), .unset] [(.ref o_LESS), (.ref o_AND)])) _
    refine Jvm.RoadKit.acmp (g := (mkF m 121 #[.val (.int i0), .val (.ref b1), .val (.int (1 : Int32)), .val (.ref o_AND), .unset] [(.ref o_LESS), (.ref o_AND)])) X317 hx rfl rfl rfl (pc0 := 121) (pc' := 124) (same := false) rfl (hb hby at_121) rfl (decide_eq_false fun q => ne333 (Value.ref.inj q)) (by decide) (by decide) ?_
    show Steps p.tables e below (T317.setTop (mkF m 124 #[.val (.int i0), .val (.ref b1), .val (.int (1 : Int32)), .val (.ref o_AND), .unset] [])) _
    refine XS.aloadN X317.here hx rfl (hb hby at_124) rfl rfl ?_
    show Steps p.tables e below (T317.setTop (mkF m 125 #[.val (.int i0), .val (.ref b1), .val (.int (1 : Int32)), .val (.ref o_AND), .unset] [(.ref o_AND)])) _
    refine st342 _ ?_
    show Steps p.tables e below (T342.setTop (mkF m 128 #[.val (.int i0), .val (.ref b1), .val (.int (1 : Int32)), .val (.ref o_AND), .unset] [(.ref o_LESS_OR_EQUAL), (.ref o_AND)])) _
    refine Jvm.RoadKit.acmp (g := (mkF m 128 #[.val (.int i0), .val (.ref b1), .val (.int (1 : Int32)), .val (.ref o_AND), .unset] [(.ref o_LESS_OR_EQUAL), (.ref o_AND)])) X342 hx rfl rfl rfl (pc0 := 128) (pc' := 131) (same := false) rfl (hb hby at_128) rfl (decide_eq_false fun q => ne358 (Value.ref.inj q)) (by decide) (by decide) ?_
    show Steps p.tables e below (T342.setTop (mkF m 131 #[.val (.int i0), .val (.ref b1), .val (.int (1 : Int32)), .val (.ref o_AND), .unset] [])) _
    refine XS.aloadN X342.here hx rfl (hb hby at_131) rfl rfl ?_
    show Steps p.tables e below (T342.setTop (mkF m 132 #[.val (.int i0), .val (.ref b1), .val (.int (1 : Int32)), .val (.ref o_AND), .unset] [(.ref o_AND)])) _
    refine st366 _ ?_
    show Steps p.tables e below (T366.setTop (mkF m 135 #[.val (.int i0), .val (.ref b1), .val (.int (1 : Int32)), .val (.ref o_AND), .unset] [(.ref o_GREATER), (.ref o_AND)])) _
    refine Jvm.RoadKit.acmp (g := (mkF m 135 #[.val (.int i0), .val (.ref b1), .val (.int (1 : Int32)), .val (.ref o_AND), .unset] [(.ref o_GREATER), (.ref o_AND)])) X366 hx rfl rfl rfl (pc0 := 135) (pc' := 138) (same := false) rfl (hb hby at_135) rfl (decide_eq_false fun q => ne382 (Value.ref.inj q)) (by decide) (by decide) ?_
    show Steps p.tables e below (T366.setTop (mkF m 138 #[.val (.int i0), .val (.ref b1), .val (.int (1 : Int32)), .val (.ref o_AND), .unset] [])) _
    refine XS.aloadN X366.here hx rfl (hb hby at_138) rfl rfl ?_
    show Steps p.tables e below (T366.setTop (mkF m 139 #[.val (.int i0), .val (.ref b1), .val (.int (1 : Int32)), .val (.ref o_AND), .unset] [(.ref o_AND)])) _
    refine st389 _ ?_
    show Steps p.tables e below (T389.setTop (mkF m 142 #[.val (.int i0), .val (.ref b1), .val (.int (1 : Int32)), .val (.ref o_AND), .unset] [(.ref o_GREATER_OR_EQUAL), (.ref o_AND)])) _
    refine Jvm.RoadKit.acmp (g := (mkF m 142 #[.val (.int i0), .val (.ref b1), .val (.int (1 : Int32)), .val (.ref o_AND), .unset] [(.ref o_GREATER_OR_EQUAL), (.ref o_AND)])) X389 hx rfl rfl rfl (pc0 := 142) (pc' := 149) (same := false) rfl (hb hby at_142) rfl (decide_eq_false fun q => ne405 (Value.ref.inj q)) (by decide) (by decide) ?_
    show Steps p.tables e below (T389.setTop (mkF m 149 #[.val (.int i0), .val (.ref b1), .val (.int (1 : Int32)), .val (.ref o_AND), .unset] [])) _
    refine XS.iconst X389.here hx rfl (hb hby at_149) ?_
    show Steps p.tables e below (T389.setTop (mkF m 150 #[.val (.int i0), .val (.ref b1), .val (.int (1 : Int32)), .val (.ref o_AND), .unset] [(.int (0 : Int32))])) _
    refine XS.istore X389.here hx rfl (hb hby at_150) rfl (l' := #[.val (.int i0), .val (.ref b1), .val (.int (1 : Int32)), .val (.ref o_AND), .val (.int (0 : Int32))]) rfl ?_
    show Steps p.tables e below (T389.setTop (mkF m 152 #[.val (.int i0), .val (.ref b1), .val (.int (1 : Int32)), .val (.ref o_AND), .val (.int (0 : Int32))] [])) _
    refine XS.aloadN X389.here hx rfl (hb hby at_152) rfl rfl ?_
    show Steps p.tables e below (T389.setTop (mkF m 153 #[.val (.int i0), .val (.ref b1), .val (.int (1 : Int32)), .val (.ref o_AND), .val (.int (0 : Int32))] [(.ref o_AND)])) _
    refine st446.trans ?_
    show Steps p.tables e below (T446.setTop (mkF m 156 #[.val (.int i0), .val (.ref b1), .val (.int (1 : Int32)), .val (.ref o_AND), .val (.int (0 : Int32))] [(.int (0 : Int32))])) _
    refine XS.iload X446.here hx rfl (hb hby at_156) rfl ?_
    show Steps p.tables e below (T446.setTop (mkF m 158 #[.val (.int i0), .val (.ref b1), .val (.int (1 : Int32)), .val (.ref o_AND), .val (.int (0 : Int32))] [(.int (0 : Int32)), (.int (0 : Int32))])) _
    refine XS.icmpNo X446.here hx rfl (hb hby at_158) rfl (teq (by decide : (0 : Int32) = (0 : Int32))).2 ?_
    show Steps p.tables e below (T446.setTop (mkF m 161 #[.val (.int i0), .val (.ref b1), .val (.int (1 : Int32)), .val (.ref o_AND), .val (.int (0 : Int32))] [])) _
    refine XS.iconst X446.here hx rfl (hb hby at_161) ?_
    show Steps p.tables e below (T446.setTop (mkF m 162 #[.val (.int i0), .val (.ref b1), .val (.int (1 : Int32)), .val (.ref o_AND), .val (.int (0 : Int32))] [(.int (1 : Int32))])) _
    refine XS.goto X446.here hx rfl (pc0 := 162) (pc' := 166) rfl (hb hby at_162) (by decide) (by decide) ?_
    show Steps p.tables e below (T446.setTop (mkF m 166 #[.val (.int i0), .val (.ref b1), .val (.int (1 : Int32)), .val (.ref o_AND), .val (.int (0 : Int32))] [(.int (1 : Int32))])) _
    exact retN X446 hx (t := .boolean) Bd.returns (by simp) (hb hby at_166) hr
  · obtain ⟨cl237, Ar237, qk237, Sz237, Ng237, Ha237, Gf237⟩ := V235
    have hin237 : ¬ ((2 : Int32) < 0 ∨ cl237.slots.size ≤ ((2 : Int32)).toNatClampNeg) := inb_of Sz237 ⟨by decide, by decide⟩
    have hat237 : cl237.slots[((2 : Int32)).toNatClampNeg]? = some (.ref o_EQUAL) := Has.at Ha237 hin237 rfl
    have c238 := c19.wr W25
    have c239 := c238.wr W37
    have c240 := c239.wr W51
    have c241 := c240.wr W67
    have c242 := c241.wr W85
    have c243 := c242.wr W105
    have c244 := c243.wr W127
    have c245 := c244.wr W151
    have c246 := c245.wr W177
    have c247 := c246.wr W205
    have c248 := c247.wr W235
    obtain ⟨T249, X249, e249, st249⟩ := getS2 X235 hx hZ hown (host := "") (Or.inl (own_w8 hw)) Via.refl e235 c248 (g := (mkF m 104 #[.val (.int i0), .val (.ref b1), .val (.int (2 : Int32)), .val (.ref o_EQUAL), .unset] [(.ref o_EQUAL)])) rfl (hb hby at_104)
    have c250 := c24.wr W25
    have c251 := c250.wr W37
    have c252 := c251.wr W51
    have c253 := c252.wr W67
    have c254 := c253.wr W85
    have c255 := c254.wr W105
    have c256 := c255.wr W127
    have c257 := c256.wr W151
    have c258 := c257.wr W177
    have c259 := c258.wr W205
    have c260 := c259.wr W235
    have c261 := F_o_EQUAL_precedence.ext E1
    have ne262 : o_EQUAL ≠ b1 := (Nat.ne_of_lt (Nat.lt_of_lt_of_le E_o_EQUAL.lt sz_b1))
    have c263 := c261.other W7 (Or.inl ne262)
    have c264 := c263.other W15 (Or.inl ne262)
    have c265 := c264.other W25 (Or.inl ne262)
    have c266 := c265.other W37 (Or.inl ne262)
    have c267 := c266.other W51 (Or.inl ne262)
    have c268 := c267.other W67 (Or.inl ne262)
    have c269 := c268.other W85 (Or.inl ne262)
    have c270 := c269.other W105 (Or.inl ne262)
    have c271 := c270.other W127 (Or.inl ne262)
    have c272 := c271.other W151 (Or.inl ne262)
    have c273 := c272.other W177 (Or.inl ne262)
    have c274 := c273.other W205 (Or.inl ne262)
    have c275 := c274.other W235 (Or.inl ne262)
    have c276 := c43.wr W51
    have c277 := c276.wr W67
    have c278 := c277.wr W85
    have c279 := c278.wr W105
    have c280 := c279.wr W127
    have c281 := c280.wr W151
    have c282 := c281.wr W177
    have c283 := c282.wr W205
    have c284 := c283.wr W235
    have c285 := F_o_LESS_precedence.ext E1
    have ne286 : o_LESS ≠ b1 := (Nat.ne_of_lt (Nat.lt_of_lt_of_le E_o_LESS.lt sz_b1))
    have c287 := c285.other W7 (Or.inl ne286)
    have c288 := c287.other W15 (Or.inl ne286)
    have c289 := c288.other W25 (Or.inl ne286)
    have c290 := c289.other W37 (Or.inl ne286)
    have c291 := c290.other W51 (Or.inl ne286)
    have c292 := c291.other W67 (Or.inl ne286)
    have c293 := c292.other W85 (Or.inl ne286)
    have c294 := c293.other W105 (Or.inl ne286)
    have c295 := c294.other W127 (Or.inl ne286)
    have c296 := c295.other W151 (Or.inl ne286)
    have c297 := c296.other W177 (Or.inl ne286)
    have c298 := c297.other W205 (Or.inl ne286)
    have c299 := c298.other W235 (Or.inl ne286)
    obtain ⟨cq300, kq300, q300a, q300b, q300c⟩ := isOf hZ e249 c260
    obtain ⟨_, _, ⟨T300, L300, k300, n300⟩, -, X300, ⟨Lc300, hQ300, l300, y300, z300⟩, st300⟩ := X249.virtualBack hx (y := (⟨"com/example/treelational/treelational/xpath/Operator", "isComparison", "()Z"⟩ : MethodName)) (z := (⟨"com/example/treelational/treelational/xpath/Operator", "isComparison", "()Z"⟩ : MethodName)) hown (mvT hZ (own_w31 hw)) (mvT hZ (own_w32 hw)) (notFace_of_selects (args := #[]) (mvT hZ (own_w34 hw))) (mvT hZ (own_w34 hw)) (mvT hZ (own_w33 hw)) (by decide) (backOf (W := 0) (rm1_3 l Z a0 hw [] o_EQUAL o_LESS h235 n0 (Nat.le_trans Z0 KC236.1) c275 c248 c284 c299) hZ (own_w35 hw) (own_w3 hw) (by decide) (by decide)) q300a q300c (g := (mkF m 153 #[.val (.int i0), .val (.ref b1), .val (.int (2 : Int32)), .val (.ref o_EQUAL), .val (.int (1 : Int32))] [(.ref o_EQUAL)])) rfl (by rw [hml]; rfl) (Steps.refl _) (argsL := []) (rest := []) (lenOf pd___Z rfl) rfl (by show 2 * 0 + _ ≤ _; exact Nat.le_of_eq rfl) (hb hby at_153) (fun _ _ => ⟨rfl, e249, (by decide : 1 + 0 ≤ _), (by decide : 13 + 0 ≤ _)⟩)
    dsimp only [Pt.U, Pt.locs, Pt.cells, Pt.slots] at X300 l300 y300 z300 st300 hQ300
    subst l300 y300 z300
    obtain ⟨rfl, N300q, e300⟩ := hQ300
    have N300 := Fr.app N235 N300q
    obtain ⟨fs, hr, hrun, hended, hW, hsame⟩ := X300.leave (v := some (.int (1 : Int32))) (fun h => by rw [Bd.returns] at h; cases h)
    refine ⟨_, _, pre1 _ ?_, hrun, hended, _, _, rfl, ⟨rfl, N300⟩, ⟨_, rfl⟩, hW, hsame.mono (by decide) (by decide)⟩
    show Steps p.tables e below (T235.setTop (mkF m 98 #[.val (.int i0), .val (.ref b1), .unset, .unset, .unset] [(.int ((i0 &&& (2147483647 : Int32)) % (13 : Int32)))])) _
    rw [he0]
    show Steps p.tables e below (T235.setTop (mkF m 98 #[.val (.int i0), .val (.ref b1), .unset, .unset, .unset] [(.int (2 : Int32))])) _
    refine XS.istoreN X235.here hx rfl (hb hby at_98) rfl (l' := #[.val (.int i0), .val (.ref b1), .val (.int (2 : Int32)), .unset, .unset]) rfl ?_
    show Steps p.tables e below (T235.setTop (mkF m 99 #[.val (.int i0), .val (.ref b1), .val (.int (2 : Int32)), .unset, .unset] [])) _
    refine XS.aloadN X235.here hx rfl (hb hby at_99) rfl rfl ?_
    show Steps p.tables e below (T235.setTop (mkF m 100 #[.val (.int i0), .val (.ref b1), .val (.int (2 : Int32)), .unset, .unset] [(.ref b1)])) _
    refine XS.iloadN X235.here hx rfl (hb hby at_100) rfl ?_
    show Steps p.tables e below (T235.setTop (mkF m 101 #[.val (.int i0), .val (.ref b1), .val (.int (2 : Int32)), .unset, .unset] [(.int (2 : Int32)), (.ref b1)])) _
    refine X235.aaload hx (j := (2 : Int32)) (v := (.ref o_EQUAL)) (by rw [e235]; exact Ar237.1) (State.isArrayOf_alike hZ.alike Ar237.2.1) rfl Ar237.2.2 hin237 hat237 (g := (mkF m 101 #[.val (.int i0), .val (.ref b1), .val (.int (2 : Int32)), .unset, .unset] [(.int (2 : Int32)), (.ref b1)])) rfl rfl (hb hby at_101) _ ?_
    show Steps p.tables e below (T235.setTop (mkF m 102 #[.val (.int i0), .val (.ref b1), .val (.int (2 : Int32)), .unset, .unset] [(.ref o_EQUAL)])) _
    refine XS.astoreN X235.here hx rfl (hb hby at_102) rfl rfl (l' := #[.val (.int i0), .val (.ref b1), .val (.int (2 : Int32)), .val (.ref o_EQUAL), .unset]) rfl ?_
    show Steps p.tables e below (T235.setTop (mkF m 103 #[.val (.int i0), .val (.ref b1), .val (.int (2 : Int32)), .val (.ref o_EQUAL), .unset] [])) _
    refine XS.aloadN X235.here hx rfl (hb hby at_103) rfl rfl ?_
    show Steps p.tables e below (T235.setTop (mkF m 104 #[.val (.int i0), .val (.ref b1), .val (.int (2 : Int32)), .val (.ref o_EQUAL), .unset] [(.ref o_EQUAL)])) _
    refine st249 _ ?_
    show Steps p.tables e below (T249.setTop (mkF m 107 #[.val (.int i0), .val (.ref b1), .val (.int (2 : Int32)), .val (.ref o_EQUAL), .unset] [(.ref o_EQUAL), (.ref o_EQUAL)])) _
    refine Jvm.RoadKit.acmp (g := (mkF m 107 #[.val (.int i0), .val (.ref b1), .val (.int (2 : Int32)), .val (.ref o_EQUAL), .unset] [(.ref o_EQUAL), (.ref o_EQUAL)])) X249 hx rfl rfl rfl (pc0 := 107) (pc' := 145) (same := true) rfl (hb hby at_107) rfl (decide_eq_true rfl) (by decide) (by decide) ?_
    show Steps p.tables e below (T249.setTop (mkF m 145 #[.val (.int i0), .val (.ref b1), .val (.int (2 : Int32)), .val (.ref o_EQUAL), .unset] [])) _
    refine XS.iconst X249.here hx rfl (hb hby at_145) ?_
    show Steps p.tables e below (T249.setTop (mkF m 146 #[.val (.int i0), .val (.ref b1), .val (.int (2 : Int32)), .val (.ref o_EQUAL), .unset] [(.int (1 : Int32))])) _
    refine XS.goto X249.here hx rfl (pc0 := 146) (pc' := 150) rfl (hb hby at_146) (by decide) (by decide) ?_
    show Steps p.tables e below (T249.setTop (mkF m 150 #[.val (.int i0), .val (.ref b1), .val (.int (2 : Int32)), .val (.ref o_EQUAL), .unset] [(.int (1 : Int32))])) _
    refine XS.istore X249.here hx rfl (hb hby at_150) rfl (l' := #[.val (.int i0), .val (.ref b1), .val (.int (2 : Int32)), .val (.ref o_EQUAL), .val (.int (1 : Int32))]) rfl ?_
    show Steps p.tables e below (T249.setTop (mkF m 152 #[.val (.int i0), .val (.ref b1), .val (.int (2 : Int32)), .val (.ref o_EQUAL), .val (.int (1 : Int32))] [])) _
    refine XS.aloadN X249.here hx rfl (hb hby at_152) rfl rfl ?_
    show Steps p.tables e below (T249.setTop (mkF m 153 #[.val (.int i0), .val (.ref b1), .val (.int (2 : Int32)), .val (.ref o_EQUAL), .val (.int (1 : Int32))] [(.ref o_EQUAL)])) _
    refine st300.trans ?_
    show Steps p.tables e below (T300.setTop (mkF m 156 #[.val (.int i0), .val (.ref b1), .val (.int (2 : Int32)), .val (.ref o_EQUAL), .val (.int (1 : Int32))] [(.int (1 : Int32))])) _
    refine XS.iload X300.here hx rfl (hb hby at_156) rfl ?_
    show Steps p.tables e below (T300.setTop (mkF m 158 #[.val (.int i0), .val (.ref b1), .val (.int (2 : Int32)), .val (.ref o_EQUAL), .val (.int (1 : Int32))] [(.int (1 : Int32)), (.int (1 : Int32))])) _
    refine XS.icmpNo X300.here hx rfl (hb hby at_158) rfl (teq (by decide : (1 : Int32) = (1 : Int32))).2 ?_
    show Steps p.tables e below (T300.setTop (mkF m 161 #[.val (.int i0), .val (.ref b1), .val (.int (2 : Int32)), .val (.ref o_EQUAL), .val (.int (1 : Int32))] [])) _
    refine XS.iconst X300.here hx rfl (hb hby at_161) ?_
    show Steps p.tables e below (T300.setTop (mkF m 162 #[.val (.int i0), .val (.ref b1), .val (.int (2 : Int32)), .val (.ref o_EQUAL), .val (.int (1 : Int32))] [(.int (1 : Int32))])) _
    refine XS.goto X300.here hx rfl (pc0 := 162) (pc' := 166) rfl (hb hby at_162) (by decide) (by decide) ?_
    show Steps p.tables e below (T300.setTop (mkF m 166 #[.val (.int i0), .val (.ref b1), .val (.int (2 : Int32)), .val (.ref o_EQUAL), .val (.int (1 : Int32))] [(.int (1 : Int32))])) _
    exact retN X300 hx (t := .boolean) Bd.returns (by simp) (hb hby at_166) hr
  · obtain ⟨cl237, Ar237, qk237, Sz237, Ng237, Ha237, Gf237⟩ := V235
    have hin237 : ¬ ((3 : Int32) < 0 ∨ cl237.slots.size ≤ ((3 : Int32)).toNatClampNeg) := inb_of Sz237 ⟨by decide, by decide⟩
    have hat237 : cl237.slots[((3 : Int32)).toNatClampNeg]? = some (.ref o_NOT_EQUAL) := Has.at Ha237 hin237 rfl
    have c238 := c19.wr W25
    have c239 := c238.wr W37
    have c240 := c239.wr W51
    have c241 := c240.wr W67
    have c242 := c241.wr W85
    have c243 := c242.wr W105
    have c244 := c243.wr W127
    have c245 := c244.wr W151
    have c246 := c245.wr W177
    have c247 := c246.wr W205
    have c248 := c247.wr W235
    obtain ⟨T249, X249, e249, st249⟩ := getS2 X235 hx hZ hown (host := "") (Or.inl (own_w8 hw)) Via.refl e235 c248 (g := (mkF m 104 #[.val (.int i0), .val (.ref b1), .val (.int (3 : Int32)), .val (.ref o_NOT_EQUAL), .unset] [(.ref o_NOT_EQUAL)])) rfl (hb hby at_104)
    have c250 := F_o_NOT_EQUAL_ordinal.ext E1
    have ne251 : o_NOT_EQUAL ≠ b1 := (Nat.ne_of_lt (Nat.lt_of_lt_of_le E_o_NOT_EQUAL.lt sz_b1))
    have c252 := c250.other W7 (Or.inl ne251)
    have c253 := c252.other W15 (Or.inl ne251)
    have c254 := c253.other W25 (Or.inl ne251)
    have c255 := c254.other W37 (Or.inl ne251)
    have c256 := c255.other W51 (Or.inl ne251)
    have c257 := c256.other W67 (Or.inl ne251)
    have c258 := c257.other W85 (Or.inl ne251)
    have c259 := c258.other W105 (Or.inl ne251)
    have c260 := c259.other W127 (Or.inl ne251)
    have c261 := c260.other W151 (Or.inl ne251)
    have c262 := c261.other W177 (Or.inl ne251)
    have c263 := c262.other W205 (Or.inl ne251)
    have c264 := c263.other W235 (Or.inl ne251)
    have c265 := F_o_EQUAL_ordinal.ext E1
    have ne266 : o_EQUAL ≠ b1 := (Nat.ne_of_lt (Nat.lt_of_lt_of_le E_o_EQUAL.lt sz_b1))
    have c267 := c265.other W7 (Or.inl ne266)
    have c268 := c267.other W15 (Or.inl ne266)
    have c269 := c268.other W25 (Or.inl ne266)
    have c270 := c269.other W37 (Or.inl ne266)
    have c271 := c270.other W51 (Or.inl ne266)
    have c272 := c271.other W67 (Or.inl ne266)
    have c273 := c272.other W85 (Or.inl ne266)
    have c274 := c273.other W105 (Or.inl ne266)
    have c275 := c274.other W127 (Or.inl ne266)
    have c276 := c275.other W151 (Or.inl ne266)
    have c277 := c276.other W177 (Or.inl ne266)
    have c278 := c277.other W205 (Or.inl ne266)
    have c279 := c278.other W235 (Or.inl ne266)
    have ne280 : o_NOT_EQUAL ≠ o_EQUAL := (c264.ne c279 (fun q => absurd (Value.int.inj q) (by decide)))
    have c281 := c30.wr W37
    have c282 := c281.wr W51
    have c283 := c282.wr W67
    have c284 := c283.wr W85
    have c285 := c284.wr W105
    have c286 := c285.wr W127
    have c287 := c286.wr W151
    have c288 := c287.wr W177
    have c289 := c288.wr W205
    have c290 := c289.wr W235
    obtain ⟨T291, X291, e291, st291⟩ := getS2 X249 hx hZ hown (host := "") (Or.inl (own_w10 hw)) Via.refl e249 c290 (g := (mkF m 111 #[.val (.int i0), .val (.ref b1), .val (.int (3 : Int32)), .val (.ref o_NOT_EQUAL), .unset] [(.ref o_NOT_EQUAL)])) rfl (hb hby at_111)
    have c292 := c36.wr W37
    have c293 := c292.wr W51
    have c294 := c293.wr W67
    have c295 := c294.wr W85
    have c296 := c295.wr W105
    have c297 := c296.wr W127
    have c298 := c297.wr W151
    have c299 := c298.wr W177
    have c300 := c299.wr W205
    have c301 := c300.wr W235
    have c302 := F_o_NOT_EQUAL_precedence.ext E1
    have c303 := c302.other W7 (Or.inl ne251)
    have c304 := c303.other W15 (Or.inl ne251)
    have c305 := c304.other W25 (Or.inl ne251)
    have c306 := c305.other W37 (Or.inl ne251)
    have c307 := c306.other W51 (Or.inl ne251)
    have c308 := c307.other W67 (Or.inl ne251)
    have c309 := c308.other W85 (Or.inl ne251)
    have c310 := c309.other W105 (Or.inl ne251)
    have c311 := c310.other W127 (Or.inl ne251)
    have c312 := c311.other W151 (Or.inl ne251)
    have c313 := c312.other W177 (Or.inl ne251)
    have c314 := c313.other W205 (Or.inl ne251)
    have c315 := c314.other W235 (Or.inl ne251)
    have c316 := F_o_EQUAL_precedence.ext E1
    have c317 := c316.other W7 (Or.inl ne266)
    have c318 := c317.other W15 (Or.inl ne266)
    have c319 := c318.other W25 (Or.inl ne266)
    have c320 := c319.other W37 (Or.inl ne266)
    have c321 := c320.other W51 (Or.inl ne266)
    have c322 := c321.other W67 (Or.inl ne266)
    have c323 := c322.other W85 (Or.inl ne266)
    have c324 := c323.other W105 (Or.inl ne266)
    have c325 := c324.other W127 (Or.inl ne266)
    have c326 := c325.other W151 (Or.inl ne266)
    have c327 := c326.other W177 (Or.inl ne266)
    have c328 := c327.other W205 (Or.inl ne266)
    have c329 := c328.other W235 (Or.inl ne266)
    have c330 := c43.wr W51
    have c331 := c330.wr W67
    have c332 := c331.wr W85
    have c333 := c332.wr W105
    have c334 := c333.wr W127
    have c335 := c334.wr W151
    have c336 := c335.wr W177
    have c337 := c336.wr W205
    have c338 := c337.wr W235
    have c339 := F_o_LESS_precedence.ext E1
    have ne340 : o_LESS ≠ b1 := (Nat.ne_of_lt (Nat.lt_of_lt_of_le E_o_LESS.lt sz_b1))
    have c341 := c339.other W7 (Or.inl ne340)
    have c342 := c341.other W15 (Or.inl ne340)
    have c343 := c342.other W25 (Or.inl ne340)
    have c344 := c343.other W37 (Or.inl ne340)
    have c345 := c344.other W51 (Or.inl ne340)
    have c346 := c345.other W67 (Or.inl ne340)
    have c347 := c346.other W85 (Or.inl ne340)
    have c348 := c347.other W105 (Or.inl ne340)
    have c349 := c348.other W127 (Or.inl ne340)
    have c350 := c349.other W151 (Or.inl ne340)
    have c351 := c350.other W177 (Or.inl ne340)
    have c352 := c351.other W205 (Or.inl ne340)
    have c353 := c352.other W235 (Or.inl ne340)
    obtain ⟨cq354, kq354, q354a, q354b, q354c⟩ := isOf hZ e291 c301
    obtain ⟨_, _, ⟨T354, L354, k354, n354⟩, -, X354, ⟨Lc354, hQ354, l354, y354, z354⟩, st354⟩ := X291.virtualBack hx (y := (⟨"com/example/treelational/treelational/xpath/Operator", "isComparison", "()Z"⟩ : MethodName)) (z := (⟨"com/example/treelational/treelational/xpath/Operator", "isComparison", "()Z"⟩ : MethodName)) hown (mvT hZ (own_w31 hw)) (mvT hZ (own_w32 hw)) (notFace_of_selects (args := #[]) (mvT hZ (own_w34 hw))) (mvT hZ (own_w34 hw)) (mvT hZ (own_w33 hw)) (by decide) (backOf (W := 0) (rm1_4 l Z a0 hw [] o_NOT_EQUAL o_EQUAL o_LESS h235 n0 (Nat.le_trans Z0 KC236.1) c315 c248 c329 c338 c353) hZ (own_w35 hw) (own_w3 hw) (by decide) (by decide)) q354a q354c (g := (mkF m 153 #[.val (.int i0), .val (.ref b1), .val (.int (3 : Int32)), .val (.ref o_NOT_EQUAL), .val (.int (1 : Int32))] [(.ref o_NOT_EQUAL)])) rfl (by rw [hml]; rfl) (Steps.refl _) (argsL := []) (rest := []) (lenOf pd___Z rfl) rfl (by show 2 * 0 + _ ≤ _; exact Nat.le_of_eq rfl) (hb hby at_153) (fun _ _ => ⟨rfl, e291, (by decide : 1 + 0 ≤ _), (by decide : 13 + 0 ≤ _)⟩)
    dsimp only [Pt.U, Pt.locs, Pt.cells, Pt.slots] at X354 l354 y354 z354 st354 hQ354
    subst l354 y354 z354
    obtain ⟨rfl, N354q, e354⟩ := hQ354
    have N354 := Fr.app N235 N354q
    obtain ⟨fs, hr, hrun, hended, hW, hsame⟩ := X354.leave (v := some (.int (1 : Int32))) (fun h => by rw [Bd.returns] at h; cases h)
    refine ⟨_, _, pre1 _ ?_, hrun, hended, _, _, rfl, ⟨rfl, N354⟩, ⟨_, rfl⟩, hW, hsame.mono (by decide) (by decide)⟩
    show Steps p.tables e below (T235.setTop (mkF m 98 #[.val (.int i0), .val (.ref b1), .unset, .unset, .unset] [(.int ((i0 &&& (2147483647 : Int32)) % (13 : Int32)))])) _
    rw [he0]
    show Steps p.tables e below (T235.setTop (mkF m 98 #[.val (.int i0), .val (.ref b1), .unset, .unset, .unset] [(.int (3 : Int32))])) _
    refine XS.istoreN X235.here hx rfl (hb hby at_98) rfl (l' := #[.val (.int i0), .val (.ref b1), .val (.int (3 : Int32)), .unset, .unset]) rfl ?_
    show Steps p.tables e below (T235.setTop (mkF m 99 #[.val (.int i0), .val (.ref b1), .val (.int (3 : Int32)), .unset, .unset] [])) _
    refine XS.aloadN X235.here hx rfl (hb hby at_99) rfl rfl ?_
    show Steps p.tables e below (T235.setTop (mkF m 100 #[.val (.int i0), .val (.ref b1), .val (.int (3 : Int32)), .unset, .unset] [(.ref b1)])) _
    refine XS.iloadN X235.here hx rfl (hb hby at_100) rfl ?_
    show Steps p.tables e below (T235.setTop (mkF m 101 #[.val (.int i0), .val (.ref b1), .val (.int (3 : Int32)), .unset, .unset] [(.int (3 : Int32)), (.ref b1)])) _
    refine X235.aaload hx (j := (3 : Int32)) (v := (.ref o_NOT_EQUAL)) (by rw [e235]; exact Ar237.1) (State.isArrayOf_alike hZ.alike Ar237.2.1) rfl Ar237.2.2 hin237 hat237 (g := (mkF m 101 #[.val (.int i0), .val (.ref b1), .val (.int (3 : Int32)), .unset, .unset] [(.int (3 : Int32)), (.ref b1)])) rfl rfl (hb hby at_101) _ ?_
    show Steps p.tables e below (T235.setTop (mkF m 102 #[.val (.int i0), .val (.ref b1), .val (.int (3 : Int32)), .unset, .unset] [(.ref o_NOT_EQUAL)])) _
    refine XS.astoreN X235.here hx rfl (hb hby at_102) rfl rfl (l' := #[.val (.int i0), .val (.ref b1), .val (.int (3 : Int32)), .val (.ref o_NOT_EQUAL), .unset]) rfl ?_
    show Steps p.tables e below (T235.setTop (mkF m 103 #[.val (.int i0), .val (.ref b1), .val (.int (3 : Int32)), .val (.ref o_NOT_EQUAL), .unset] [])) _
    refine XS.aloadN X235.here hx rfl (hb hby at_103) rfl rfl ?_
    show Steps p.tables e below (T235.setTop (mkF m 104 #[.val (.int i0), .val (.ref b1), .val (.int (3 : Int32)), .val (.ref o_NOT_EQUAL), .unset] [(.ref o_NOT_EQUAL)])) _
    refine st249 _ ?_
    show Steps p.tables e below (T249.setTop (mkF m 107 #[.val (.int i0), .val (.ref b1), .val (.int (3 : Int32)), .val (.ref o_NOT_EQUAL), .unset] [(.ref o_EQUAL), (.ref o_NOT_EQUAL)])) _
    refine Jvm.RoadKit.acmp (g := (mkF m 107 #[.val (.int i0), .val (.ref b1), .val (.int (3 : Int32)), .val (.ref o_NOT_EQUAL), .unset] [(.ref o_EQUAL), (.ref o_NOT_EQUAL)])) X249 hx rfl rfl rfl (pc0 := 107) (pc' := 110) (same := false) rfl (hb hby at_107) rfl (decide_eq_false fun q => ne280 (Value.ref.inj q)) (by decide) (by decide) ?_
    show Steps p.tables e below (T249.setTop (mkF m 110 #[.val (.int i0), .val (.ref b1), .val (.int (3 : Int32)), .val (.ref o_NOT_EQUAL), .unset] [])) _
    refine XS.aloadN X249.here hx rfl (hb hby at_110) rfl rfl ?_
    show Steps p.tables e below (T249.setTop (mkF m 111 #[.val (.int i0), .val (.ref b1), .val (.int (3 : Int32)), .val (.ref o_NOT_EQUAL), .unset] [(.ref o_NOT_EQUAL)])) _
    refine st291 _ ?_
    show Steps p.tables e below (T291.setTop (mkF m 114 #[.val (.int i0), .val (.ref b1), .val (.int (3 : Int32)), .val (.ref o_NOT_EQUAL), .unset] [(.ref o_NOT_EQUAL), (.ref o_NOT_EQUAL)])) _
    refine Jvm.RoadKit.acmp (g := (mkF m 114 #[.val (.int i0), .val (.ref b1), .val (.int (3 : Int32)), .val (.ref o_NOT_EQUAL), .unset] [(.ref o_NOT_EQUAL), (.ref o_NOT_EQUAL)])) X291 hx rfl rfl rfl (pc0 := 114) (pc' := 145) (same := true) rfl (hb hby at_114) rfl (decide_eq_true rfl) (by decide) (by decide) ?_
    show Steps p.tables e below (T291.setTop (mkF m 145 #[.val (.int i0), .val (.ref b1), .val (.int (3 : Int32)), .val (.ref o_NOT_EQUAL), .unset] [])) _
    refine XS.iconst X291.here hx rfl (hb hby at_145) ?_
    show Steps p.tables e below (T291.setTop (mkF m 146 #[.val (.int i0), .val (.ref b1), .val (.int (3 : Int32)), .val (.ref o_NOT_EQUAL), .unset] [(.int (1 : Int32))])) _
    refine XS.goto X291.here hx rfl (pc0 := 146) (pc' := 150) rfl (hb hby at_146) (by decide) (by decide) ?_
    show Steps p.tables e below (T291.setTop (mkF m 150 #[.val (.int i0), .val (.ref b1), .val (.int (3 : Int32)), .val (.ref o_NOT_EQUAL), .unset] [(.int (1 : Int32))])) _
    refine XS.istore X291.here hx rfl (hb hby at_150) rfl (l' := #[.val (.int i0), .val (.ref b1), .val (.int (3 : Int32)), .val (.ref o_NOT_EQUAL), .val (.int (1 : Int32))]) rfl ?_
    show Steps p.tables e below (T291.setTop (mkF m 152 #[.val (.int i0), .val (.ref b1), .val (.int (3 : Int32)), .val (.ref o_NOT_EQUAL), .val (.int (1 : Int32))] [])) _
    refine XS.aloadN X291.here hx rfl (hb hby at_152) rfl rfl ?_
    show Steps p.tables e below (T291.setTop (mkF m 153 #[.val (.int i0), .val (.ref b1), .val (.int (3 : Int32)), .val (.ref o_NOT_EQUAL), .val (.int (1 : Int32))] [(.ref o_NOT_EQUAL)])) _
    refine st354.trans ?_
    show Steps p.tables e below (T354.setTop (mkF m 156 #[.val (.int i0), .val (.ref b1), .val (.int (3 : Int32)), .val (.ref o_NOT_EQUAL), .val (.int (1 : Int32))] [(.int (1 : Int32))])) _
    refine XS.iload X354.here hx rfl (hb hby at_156) rfl ?_
    show Steps p.tables e below (T354.setTop (mkF m 158 #[.val (.int i0), .val (.ref b1), .val (.int (3 : Int32)), .val (.ref o_NOT_EQUAL), .val (.int (1 : Int32))] [(.int (1 : Int32)), (.int (1 : Int32))])) _
    refine XS.icmpNo X354.here hx rfl (hb hby at_158) rfl (teq (by decide : (1 : Int32) = (1 : Int32))).2 ?_
    show Steps p.tables e below (T354.setTop (mkF m 161 #[.val (.int i0), .val (.ref b1), .val (.int (3 : Int32)), .val (.ref o_NOT_EQUAL), .val (.int (1 : Int32))] [])) _
    refine XS.iconst X354.here hx rfl (hb hby at_161) ?_
    show Steps p.tables e below (T354.setTop (mkF m 162 #[.val (.int i0), .val (.ref b1), .val (.int (3 : Int32)), .val (.ref o_NOT_EQUAL), .val (.int (1 : Int32))] [(.int (1 : Int32))])) _
    refine XS.goto X354.here hx rfl (pc0 := 162) (pc' := 166) rfl (hb hby at_162) (by decide) (by decide) ?_
    show Steps p.tables e below (T354.setTop (mkF m 166 #[.val (.int i0), .val (.ref b1), .val (.int (3 : Int32)), .val (.ref o_NOT_EQUAL), .val (.int (1 : Int32))] [(.int (1 : Int32))])) _
    exact retN X354 hx (t := .boolean) Bd.returns (by simp) (hb hby at_166) hr
  · obtain ⟨cl237, Ar237, qk237, Sz237, Ng237, Ha237, Gf237⟩ := V235
    have hin237 : ¬ ((4 : Int32) < 0 ∨ cl237.slots.size ≤ ((4 : Int32)).toNatClampNeg) := inb_of Sz237 ⟨by decide, by decide⟩
    have hat237 : cl237.slots[((4 : Int32)).toNatClampNeg]? = some (.ref o_LESS) := Has.at Ha237 hin237 rfl
    have c238 := c19.wr W25
    have c239 := c238.wr W37
    have c240 := c239.wr W51
    have c241 := c240.wr W67
    have c242 := c241.wr W85
    have c243 := c242.wr W105
    have c244 := c243.wr W127
    have c245 := c244.wr W151
    have c246 := c245.wr W177
    have c247 := c246.wr W205
    have c248 := c247.wr W235
    obtain ⟨T249, X249, e249, st249⟩ := getS2 X235 hx hZ hown (host := "") (Or.inl (own_w8 hw)) Via.refl e235 c248 (g := (mkF m 104 #[.val (.int i0), .val (.ref b1), .val (.int (4 : Int32)), .val (.ref o_LESS), .unset] [(.ref o_LESS)])) rfl (hb hby at_104)
    have c250 := F_o_LESS_ordinal.ext E1
    have ne251 : o_LESS ≠ b1 := (Nat.ne_of_lt (Nat.lt_of_lt_of_le E_o_LESS.lt sz_b1))
    have c252 := c250.other W7 (Or.inl ne251)
    have c253 := c252.other W15 (Or.inl ne251)
    have c254 := c253.other W25 (Or.inl ne251)
    have c255 := c254.other W37 (Or.inl ne251)
    have c256 := c255.other W51 (Or.inl ne251)
    have c257 := c256.other W67 (Or.inl ne251)
    have c258 := c257.other W85 (Or.inl ne251)
    have c259 := c258.other W105 (Or.inl ne251)
    have c260 := c259.other W127 (Or.inl ne251)
    have c261 := c260.other W151 (Or.inl ne251)
    have c262 := c261.other W177 (Or.inl ne251)
    have c263 := c262.other W205 (Or.inl ne251)
    have c264 := c263.other W235 (Or.inl ne251)
    have c265 := F_o_EQUAL_ordinal.ext E1
    have ne266 : o_EQUAL ≠ b1 := (Nat.ne_of_lt (Nat.lt_of_lt_of_le E_o_EQUAL.lt sz_b1))
    have c267 := c265.other W7 (Or.inl ne266)
    have c268 := c267.other W15 (Or.inl ne266)
    have c269 := c268.other W25 (Or.inl ne266)
    have c270 := c269.other W37 (Or.inl ne266)
    have c271 := c270.other W51 (Or.inl ne266)
    have c272 := c271.other W67 (Or.inl ne266)
    have c273 := c272.other W85 (Or.inl ne266)
    have c274 := c273.other W105 (Or.inl ne266)
    have c275 := c274.other W127 (Or.inl ne266)
    have c276 := c275.other W151 (Or.inl ne266)
    have c277 := c276.other W177 (Or.inl ne266)
    have c278 := c277.other W205 (Or.inl ne266)
    have c279 := c278.other W235 (Or.inl ne266)
    have ne280 : o_LESS ≠ o_EQUAL := (c264.ne c279 (fun q => absurd (Value.int.inj q) (by decide)))
    have c281 := c30.wr W37
    have c282 := c281.wr W51
    have c283 := c282.wr W67
    have c284 := c283.wr W85
    have c285 := c284.wr W105
    have c286 := c285.wr W127
    have c287 := c286.wr W151
    have c288 := c287.wr W177
    have c289 := c288.wr W205
    have c290 := c289.wr W235
    obtain ⟨T291, X291, e291, st291⟩ := getS2 X249 hx hZ hown (host := "") (Or.inl (own_w10 hw)) Via.refl e249 c290 (g := (mkF m 111 #[.val (.int i0), .val (.ref b1), .val (.int (4 : Int32)), .val (.ref o_LESS), .unset] [(.ref o_LESS)])) rfl (hb hby at_111)
    have c292 := F_o_NOT_EQUAL_ordinal.ext E1
    have ne293 : o_NOT_EQUAL ≠ b1 := (Nat.ne_of_lt (Nat.lt_of_lt_of_le E_o_NOT_EQUAL.lt sz_b1))
    have c294 := c292.other W7 (Or.inl ne293)
    have c295 := c294.other W15 (Or.inl ne293)
    have c296 := c295.other W25 (Or.inl ne293)
    have c297 := c296.other W37 (Or.inl ne293)
    have c298 := c297.other W51 (Or.inl ne293)
    have c299 := c298.other W67 (Or.inl ne293)
    have c300 := c299.other W85 (Or.inl ne293)
    have c301 := c300.other W105 (Or.inl ne293)
    have c302 := c301.other W127 (Or.inl ne293)
    have c303 := c302.other W151 (Or.inl ne293)
    have c304 := c303.other W177 (Or.inl ne293)
    have c305 := c304.other W205 (Or.inl ne293)
    have c306 := c305.other W235 (Or.inl ne293)
    have ne307 : o_LESS ≠ o_NOT_EQUAL := (c264.ne c306 (fun q => absurd (Value.int.inj q) (by decide)))
    have c308 := c43.wr W51
    have c309 := c308.wr W67
    have c310 := c309.wr W85
    have c311 := c310.wr W105
    have c312 := c311.wr W127
    have c313 := c312.wr W151
    have c314 := c313.wr W177
    have c315 := c314.wr W205
    have c316 := c315.wr W235
    obtain ⟨T317, X317, e317, st317⟩ := getS2 X291 hx hZ hown (host := "") (Or.inl (own_w12 hw)) Via.refl e291 c316 (g := (mkF m 118 #[.val (.int i0), .val (.ref b1), .val (.int (4 : Int32)), .val (.ref o_LESS), .unset] [(.ref o_LESS)])) rfl (hb hby at_118)
    have c318 := c50.wr W51
    have c319 := c318.wr W67
    have c320 := c319.wr W85
    have c321 := c320.wr W105
    have c322 := c321.wr W127
    have c323 := c322.wr W151
    have c324 := c323.wr W177
    have c325 := c324.wr W205
    have c326 := c325.wr W235
    have c327 := F_o_LESS_precedence.ext E1
    have c328 := c327.other W7 (Or.inl ne251)
    have c329 := c328.other W15 (Or.inl ne251)
    have c330 := c329.other W25 (Or.inl ne251)
    have c331 := c330.other W37 (Or.inl ne251)
    have c332 := c331.other W51 (Or.inl ne251)
    have c333 := c332.other W67 (Or.inl ne251)
    have c334 := c333.other W85 (Or.inl ne251)
    have c335 := c334.other W105 (Or.inl ne251)
    have c336 := c335.other W127 (Or.inl ne251)
    have c337 := c336.other W151 (Or.inl ne251)
    have c338 := c337.other W177 (Or.inl ne251)
    have c339 := c338.other W205 (Or.inl ne251)
    have c340 := c339.other W235 (Or.inl ne251)
    have c341 := F_o_EQUAL_precedence.ext E1
    have c342 := c341.other W7 (Or.inl ne266)
    have c343 := c342.other W15 (Or.inl ne266)
    have c344 := c343.other W25 (Or.inl ne266)
    have c345 := c344.other W37 (Or.inl ne266)
    have c346 := c345.other W51 (Or.inl ne266)
    have c347 := c346.other W67 (Or.inl ne266)
    have c348 := c347.other W85 (Or.inl ne266)
    have c349 := c348.other W105 (Or.inl ne266)
    have c350 := c349.other W127 (Or.inl ne266)
    have c351 := c350.other W151 (Or.inl ne266)
    have c352 := c351.other W177 (Or.inl ne266)
    have c353 := c352.other W205 (Or.inl ne266)
    have c354 := c353.other W235 (Or.inl ne266)
    obtain ⟨cq355, kq355, q355a, q355b, q355c⟩ := isOf hZ e317 c326
    obtain ⟨_, _, ⟨T355, L355, k355, n355⟩, -, X355, ⟨Lc355, hQ355, l355, y355, z355⟩, st355⟩ := X317.virtualBack hx (y := (⟨"com/example/treelational/treelational/xpath/Operator", "isComparison", "()Z"⟩ : MethodName)) (z := (⟨"com/example/treelational/treelational/xpath/Operator", "isComparison", "()Z"⟩ : MethodName)) hown (mvT hZ (own_w31 hw)) (mvT hZ (own_w32 hw)) (notFace_of_selects (args := #[]) (mvT hZ (own_w34 hw))) (mvT hZ (own_w34 hw)) (mvT hZ (own_w33 hw)) (by decide) (backOf (W := 0) (rm1_5 l Z a0 hw [] o_LESS o_EQUAL h235 n0 (Nat.le_trans Z0 KC236.1) c340 c248 c354 c316) hZ (own_w35 hw) (own_w3 hw) (by decide) (by decide)) q355a q355c (g := (mkF m 153 #[.val (.int i0), .val (.ref b1), .val (.int (4 : Int32)), .val (.ref o_LESS), .val (.int (1 : Int32))] [(.ref o_LESS)])) rfl (by rw [hml]; rfl) (Steps.refl _) (argsL := []) (rest := []) (lenOf pd___Z rfl) rfl (by show 2 * 0 + _ ≤ _; exact Nat.le_of_eq rfl) (hb hby at_153) (fun _ _ => ⟨rfl, e317, (by decide : 1 + 0 ≤ _), (by decide : 13 + 0 ≤ _)⟩)
    dsimp only [Pt.U, Pt.locs, Pt.cells, Pt.slots] at X355 l355 y355 z355 st355 hQ355
    subst l355 y355 z355
    obtain ⟨rfl, N355q, e355⟩ := hQ355
    have N355 := Fr.app N235 N355q
    obtain ⟨fs, hr, hrun, hended, hW, hsame⟩ := X355.leave (v := some (.int (1 : Int32))) (fun h => by rw [Bd.returns] at h; cases h)
    refine ⟨_, _, pre1 _ ?_, hrun, hended, _, _, rfl, ⟨rfl, N355⟩, ⟨_, rfl⟩, hW, hsame.mono (by decide) (by decide)⟩
    show Steps p.tables e below (T235.setTop (mkF m 98 #[.val (.int i0), .val (.ref b1), .unset, .unset, .unset] [(.int ((i0 &&& (2147483647 : Int32)) % (13 : Int32)))])) _
    rw [he0]
    show Steps p.tables e below (T235.setTop (mkF m 98 #[.val (.int i0), .val (.ref b1), .unset, .unset, .unset] [(.int (4 : Int32))])) _
    refine XS.istoreN X235.here hx rfl (hb hby at_98) rfl (l' := #[.val (.int i0), .val (.ref b1), .val (.int (4 : Int32)), .unset, .unset]) rfl ?_
    show Steps p.tables e below (T235.setTop (mkF m 99 #[.val (.int i0), .val (.ref b1), .val (.int (4 : Int32)), .unset, .unset] [])) _
    refine XS.aloadN X235.here hx rfl (hb hby at_99) rfl rfl ?_
    show Steps p.tables e below (T235.setTop (mkF m 100 #[.val (.int i0), .val (.ref b1), .val (.int (4 : Int32)), .unset, .unset] [(.ref b1)])) _
    refine XS.iloadN X235.here hx rfl (hb hby at_100) rfl ?_
    show Steps p.tables e below (T235.setTop (mkF m 101 #[.val (.int i0), .val (.ref b1), .val (.int (4 : Int32)), .unset, .unset] [(.int (4 : Int32)), (.ref b1)])) _
    refine X235.aaload hx (j := (4 : Int32)) (v := (.ref o_LESS)) (by rw [e235]; exact Ar237.1) (State.isArrayOf_alike hZ.alike Ar237.2.1) rfl Ar237.2.2 hin237 hat237 (g := (mkF m 101 #[.val (.int i0), .val (.ref b1), .val (.int (4 : Int32)), .unset, .unset] [(.int (4 : Int32)), (.ref b1)])) rfl rfl (hb hby at_101) _ ?_
    show Steps p.tables e below (T235.setTop (mkF m 102 #[.val (.int i0), .val (.ref b1), .val (.int (4 : Int32)), .unset, .unset] [(.ref o_LESS)])) _
    refine XS.astoreN X235.here hx rfl (hb hby at_102) rfl rfl (l' := #[.val (.int i0), .val (.ref b1), .val (.int (4 : Int32)), .val (.ref o_LESS), .unset]) rfl ?_
    show Steps p.tables e below (T235.setTop (mkF m 103 #[.val (.int i0), .val (.ref b1), .val (.int (4 : Int32)), .val (.ref o_LESS), .unset] [])) _
    refine XS.aloadN X235.here hx rfl (hb hby at_103) rfl rfl ?_
    show Steps p.tables e below (T235.setTop (mkF m 104 #[.val (.int i0), .val (.ref b1), .val (.int (4 : Int32)), .val (.ref o_LESS), .unset] [(.ref o_LESS)])) _
    refine st249 _ ?_
    show Steps p.tables e below (T249.setTop (mkF m 107 #[.val (.int i0), .val (.ref b1), .val (.int (4 : Int32)), .val (.ref o_LESS), .unset] [(.ref o_EQUAL), (.ref o_LESS)])) _
    refine Jvm.RoadKit.acmp (g := (mkF m 107 #[.val (.int i0), .val (.ref b1), .val (.int (4 : Int32)), .val (.ref o_LESS), .unset] [(.ref o_EQUAL), (.ref o_LESS)])) X249 hx rfl rfl rfl (pc0 := 107) (pc' := 110) (same := false) rfl (hb hby at_107) rfl (decide_eq_false fun q => ne280 (Value.ref.inj q)) (by decide) (by decide) ?_
    show Steps p.tables e below (T249.setTop (mkF m 110 #[.val (.int i0), .val (.ref b1), .val (.int (4 : Int32)), .val (.ref o_LESS), .unset] [])) _
    refine XS.aloadN X249.here hx rfl (hb hby at_110) rfl rfl ?_
    show Steps p.tables e below (T249.setTop (mkF m 111 #[.val (.int i0), .val (.ref b1), .val (.int (4 : Int32)), .val (.ref o_LESS), .unset] [(.ref o_LESS)])) _
    refine st291 _ ?_
    show Steps p.tables e below (T291.setTop (mkF m 114 #[.val (.int i0), .val (.ref b1), .val (.int (4 : Int32)), .val (.ref o_LESS), .unset] [(.ref o_NOT_EQUAL), (.ref o_LESS)])) _
    refine Jvm.RoadKit.acmp (g := (mkF m 114 #[.val (.int i0), .val (.ref b1), .val (.int (4 : Int32)), .val (.ref o_LESS), .unset] [(.ref o_NOT_EQUAL), (.ref o_LESS)])) X291 hx rfl rfl rfl (pc0 := 114) (pc' := 117) (same := false) rfl (hb hby at_114) rfl (decide_eq_false fun q => ne307 (Value.ref.inj q)) (by decide) (by decide) ?_
    show Steps p.tables e below (T291.setTop (mkF m 117 #[.val (.int i0), .val (.ref b1), .val (.int (4 : Int32)), .val (.ref o_LESS), .unset] [])) _
    refine XS.aloadN X291.here hx rfl (hb hby at_117) rfl rfl ?_
    show Steps p.tables e below (T291.setTop (mkF m 118 #[.val (.int i0), .val (.ref b1), .val (.int (4 : Int32)), .val (.ref o_LESS), .unset] [(.ref o_LESS)])) _
    refine st317 _ ?_
    show Steps p.tables e below (T317.setTop (mkF m 121 #[.val (.int i0), .val (.ref b1), .val (.int (4 : Int32)), .val (.ref o_LESS), .unset] [(.ref o_LESS), (.ref o_LESS)])) _
    refine Jvm.RoadKit.acmp (g := (mkF m 121 #[.val (.int i0), .val (.ref b1), .val (.int (4 : Int32)), .val (.ref o_LESS), .unset] [(.ref o_LESS), (.ref o_LESS)])) X317 hx rfl rfl rfl (pc0 := 121) (pc' := 145) (same := true) rfl (hb hby at_121) rfl (decide_eq_true rfl) (by decide) (by decide) ?_
    show Steps p.tables e below (T317.setTop (mkF m 145 #[.val (.int i0), .val (.ref b1), .val (.int (4 : Int32)), .val (.ref o_LESS), .unset] [])) _
    refine XS.iconst X317.here hx rfl (hb hby at_145) ?_
    show Steps p.tables e below (T317.setTop (mkF m 146 #[.val (.int i0), .val (.ref b1), .val (.int (4 : Int32)), .val (.ref o_LESS), .unset] [(.int (1 : Int32))])) _
    refine XS.goto X317.here hx rfl (pc0 := 146) (pc' := 150) rfl (hb hby at_146) (by decide) (by decide) ?_
    show Steps p.tables e below (T317.setTop (mkF m 150 #[.val (.int i0), .val (.ref b1), .val (.int (4 : Int32)), .val (.ref o_LESS), .unset] [(.int (1 : Int32))])) _
    refine XS.istore X317.here hx rfl (hb hby at_150) rfl (l' := #[.val (.int i0), .val (.ref b1), .val (.int (4 : Int32)), .val (.ref o_LESS), .val (.int (1 : Int32))]) rfl ?_
    show Steps p.tables e below (T317.setTop (mkF m 152 #[.val (.int i0), .val (.ref b1), .val (.int (4 : Int32)), .val (.ref o_LESS), .val (.int (1 : Int32))] [])) _
    refine XS.aloadN X317.here hx rfl (hb hby at_152) rfl rfl ?_
    show Steps p.tables e below (T317.setTop (mkF m 153 #[.val (.int i0), .val (.ref b1), .val (.int (4 : Int32)), .val (.ref o_LESS), .val (.int (1 : Int32))] [(.ref o_LESS)])) _
    refine st355.trans ?_
    show Steps p.tables e below (T355.setTop (mkF m 156 #[.val (.int i0), .val (.ref b1), .val (.int (4 : Int32)), .val (.ref o_LESS), .val (.int (1 : Int32))] [(.int (1 : Int32))])) _
    refine XS.iload X355.here hx rfl (hb hby at_156) rfl ?_
    show Steps p.tables e below (T355.setTop (mkF m 158 #[.val (.int i0), .val (.ref b1), .val (.int (4 : Int32)), .val (.ref o_LESS), .val (.int (1 : Int32))] [(.int (1 : Int32)), (.int (1 : Int32))])) _
    refine XS.icmpNo X355.here hx rfl (hb hby at_158) rfl (teq (by decide : (1 : Int32) = (1 : Int32))).2 ?_
    show Steps p.tables e below (T355.setTop (mkF m 161 #[.val (.int i0), .val (.ref b1), .val (.int (4 : Int32)), .val (.ref o_LESS), .val (.int (1 : Int32))] [])) _
    refine XS.iconst X355.here hx rfl (hb hby at_161) ?_
    show Steps p.tables e below (T355.setTop (mkF m 162 #[.val (.int i0), .val (.ref b1), .val (.int (4 : Int32)), .val (.ref o_LESS), .val (.int (1 : Int32))] [(.int (1 : Int32))])) _
    refine XS.goto X355.here hx rfl (pc0 := 162) (pc' := 166) rfl (hb hby at_162) (by decide) (by decide) ?_
    show Steps p.tables e below (T355.setTop (mkF m 166 #[.val (.int i0), .val (.ref b1), .val (.int (4 : Int32)), .val (.ref o_LESS), .val (.int (1 : Int32))] [(.int (1 : Int32))])) _
    exact retN X355 hx (t := .boolean) Bd.returns (by simp) (hb hby at_166) hr
  · obtain ⟨cl237, Ar237, qk237, Sz237, Ng237, Ha237, Gf237⟩ := V235
    have hin237 : ¬ ((5 : Int32) < 0 ∨ cl237.slots.size ≤ ((5 : Int32)).toNatClampNeg) := inb_of Sz237 ⟨by decide, by decide⟩
    have hat237 : cl237.slots[((5 : Int32)).toNatClampNeg]? = some (.ref o_LESS_OR_EQUAL) := Has.at Ha237 hin237 rfl
    have c238 := c19.wr W25
    have c239 := c238.wr W37
    have c240 := c239.wr W51
    have c241 := c240.wr W67
    have c242 := c241.wr W85
    have c243 := c242.wr W105
    have c244 := c243.wr W127
    have c245 := c244.wr W151
    have c246 := c245.wr W177
    have c247 := c246.wr W205
    have c248 := c247.wr W235
    obtain ⟨T249, X249, e249, st249⟩ := getS2 X235 hx hZ hown (host := "") (Or.inl (own_w8 hw)) Via.refl e235 c248 (g := (mkF m 104 #[.val (.int i0), .val (.ref b1), .val (.int (5 : Int32)), .val (.ref o_LESS_OR_EQUAL), .unset] [(.ref o_LESS_OR_EQUAL)])) rfl (hb hby at_104)
    have c250 := F_o_LESS_OR_EQUAL_ordinal.ext E1
    have ne251 : o_LESS_OR_EQUAL ≠ b1 := (Nat.ne_of_lt (Nat.lt_of_lt_of_le E_o_LESS_OR_EQUAL.lt sz_b1))
    have c252 := c250.other W7 (Or.inl ne251)
    have c253 := c252.other W15 (Or.inl ne251)
    have c254 := c253.other W25 (Or.inl ne251)
    have c255 := c254.other W37 (Or.inl ne251)
    have c256 := c255.other W51 (Or.inl ne251)
    have c257 := c256.other W67 (Or.inl ne251)
    have c258 := c257.other W85 (Or.inl ne251)
    have c259 := c258.other W105 (Or.inl ne251)
    have c260 := c259.other W127 (Or.inl ne251)
    have c261 := c260.other W151 (Or.inl ne251)
    have c262 := c261.other W177 (Or.inl ne251)
    have c263 := c262.other W205 (Or.inl ne251)
    have c264 := c263.other W235 (Or.inl ne251)
    have c265 := F_o_EQUAL_ordinal.ext E1
    have ne266 : o_EQUAL ≠ b1 := (Nat.ne_of_lt (Nat.lt_of_lt_of_le E_o_EQUAL.lt sz_b1))
    have c267 := c265.other W7 (Or.inl ne266)
    have c268 := c267.other W15 (Or.inl ne266)
    have c269 := c268.other W25 (Or.inl ne266)
    have c270 := c269.other W37 (Or.inl ne266)
    have c271 := c270.other W51 (Or.inl ne266)
    have c272 := c271.other W67 (Or.inl ne266)
    have c273 := c272.other W85 (Or.inl ne266)
    have c274 := c273.other W105 (Or.inl ne266)
    have c275 := c274.other W127 (Or.inl ne266)
    have c276 := c275.other W151 (Or.inl ne266)
    have c277 := c276.other W177 (Or.inl ne266)
    have c278 := c277.other W205 (Or.inl ne266)
    have c279 := c278.other W235 (Or.inl ne266)
    have ne280 : o_LESS_OR_EQUAL ≠ o_EQUAL := (c264.ne c279 (fun q => absurd (Value.int.inj q) (by decide)))
    have c281 := c30.wr W37
    have c282 := c281.wr W51
    have c283 := c282.wr W67
    have c284 := c283.wr W85
    have c285 := c284.wr W105
    have c286 := c285.wr W127
    have c287 := c286.wr W151
    have c288 := c287.wr W177
    have c289 := c288.wr W205
    have c290 := c289.wr W235
    obtain ⟨T291, X291, e291, st291⟩ := getS2 X249 hx hZ hown (host := "") (Or.inl (own_w10 hw)) Via.refl e249 c290 (g := (mkF m 111 #[.val (.int i0), .val (.ref b1), .val (.int (5 : Int32)), .val (.ref o_LESS_OR_EQUAL), .unset] [(.ref o_LESS_OR_EQUAL)])) rfl (hb hby at_111)
    have c292 := F_o_NOT_EQUAL_ordinal.ext E1
    have ne293 : o_NOT_EQUAL ≠ b1 := (Nat.ne_of_lt (Nat.lt_of_lt_of_le E_o_NOT_EQUAL.lt sz_b1))
    have c294 := c292.other W7 (Or.inl ne293)
    have c295 := c294.other W15 (Or.inl ne293)
    have c296 := c295.other W25 (Or.inl ne293)
    have c297 := c296.other W37 (Or.inl ne293)
    have c298 := c297.other W51 (Or.inl ne293)
    have c299 := c298.other W67 (Or.inl ne293)
    have c300 := c299.other W85 (Or.inl ne293)
    have c301 := c300.other W105 (Or.inl ne293)
    have c302 := c301.other W127 (Or.inl ne293)
    have c303 := c302.other W151 (Or.inl ne293)
    have c304 := c303.other W177 (Or.inl ne293)
    have c305 := c304.other W205 (Or.inl ne293)
    have c306 := c305.other W235 (Or.inl ne293)
    have ne307 : o_LESS_OR_EQUAL ≠ o_NOT_EQUAL := (c264.ne c306 (fun q => absurd (Value.int.inj q) (by decide)))
    have c308 := c43.wr W51
    have c309 := c308.wr W67
    have c310 := c309.wr W85
    have c311 := c310.wr W105
    have c312 := c311.wr W127
    have c313 := c312.wr W151
    have c314 := c313.wr W177
    have c315 := c314.wr W205
    have c316 := c315.wr W235
    obtain ⟨T317, X317, e317, st317⟩ := getS2 X291 hx hZ hown (host := "") (Or.inl (own_w12 hw)) Via.refl e291 c316 (g := (mkF m 118 #[.val (.int i0), .val (.ref b1), .val (.int (5 : Int32)), .val (.ref o_LESS_OR_EQUAL), .unset] [(.ref o_LESS_OR_EQUAL)])) rfl (hb hby at_118)
    have c318 := F_o_LESS_ordinal.ext E1
    have ne319 : o_LESS ≠ b1 := (Nat.ne_of_lt (Nat.lt_of_lt_of_le E_o_LESS.lt sz_b1))
    have c320 := c318.other W7 (Or.inl ne319)
    have c321 := c320.other W15 (Or.inl ne319)
    have c322 := c321.other W25 (Or.inl ne319)
    have c323 := c322.other W37 (Or.inl ne319)
    have c324 := c323.other W51 (Or.inl ne319)
    have c325 := c324.other W67 (Or.inl ne319)
    have c326 := c325.other W85 (Or.inl ne319)
    have c327 := c326.other W105 (Or.inl ne319)
    have c328 := c327.other W127 (Or.inl ne319)
    have c329 := c328.other W151 (Or.inl ne319)
    have c330 := c329.other W177 (Or.inl ne319)
    have c331 := c330.other W205 (Or.inl ne319)
    have c332 := c331.other W235 (Or.inl ne319)
    have ne333 : o_LESS_OR_EQUAL ≠ o_LESS := (c264.ne c332 (fun q => absurd (Value.int.inj q) (by decide)))
    have c334 := c58.wr W67
    have c335 := c334.wr W85
    have c336 := c335.wr W105
    have c337 := c336.wr W127
    have c338 := c337.wr W151
    have c339 := c338.wr W177
    have c340 := c339.wr W205
    have c341 := c340.wr W235
    obtain ⟨T342, X342, e342, st342⟩ := getS2 X317 hx hZ hown (host := "") (Or.inl (own_w14 hw)) Via.refl e317 c341 (g := (mkF m 125 #[.val (.int i0), .val (.ref b1), .val (.int (5 : Int32)), .val (.ref o_LESS_OR_EQUAL), .unset] [(.ref o_LESS_OR_EQUAL)])) rfl (hb hby at_125)
    have c343 := c66.wr W67
    have c344 := c343.wr W85
    have c345 := c344.wr W105
    have c346 := c345.wr W127
    have c347 := c346.wr W151
    have c348 := c347.wr W177
    have c349 := c348.wr W205
    have c350 := c349.wr W235
    have c351 := F_o_LESS_OR_EQUAL_precedence.ext E1
    have c352 := c351.other W7 (Or.inl ne251)
    have c353 := c352.other W15 (Or.inl ne251)
    have c354 := c353.other W25 (Or.inl ne251)
    have c355 := c354.other W37 (Or.inl ne251)
    have c356 := c355.other W51 (Or.inl ne251)
    have c357 := c356.other W67 (Or.inl ne251)
    have c358 := c357.other W85 (Or.inl ne251)
    have c359 := c358.other W105 (Or.inl ne251)
    have c360 := c359.other W127 (Or.inl ne251)
    have c361 := c360.other W151 (Or.inl ne251)
    have c362 := c361.other W177 (Or.inl ne251)
    have c363 := c362.other W205 (Or.inl ne251)
    have c364 := c363.other W235 (Or.inl ne251)
    have c365 := F_o_EQUAL_precedence.ext E1
    have c366 := c365.other W7 (Or.inl ne266)
    have c367 := c366.other W15 (Or.inl ne266)
    have c368 := c367.other W25 (Or.inl ne266)
    have c369 := c368.other W37 (Or.inl ne266)
    have c370 := c369.other W51 (Or.inl ne266)
    have c371 := c370.other W67 (Or.inl ne266)
    have c372 := c371.other W85 (Or.inl ne266)
    have c373 := c372.other W105 (Or.inl ne266)
    have c374 := c373.other W127 (Or.inl ne266)
    have c375 := c374.other W151 (Or.inl ne266)
    have c376 := c375.other W177 (Or.inl ne266)
    have c377 := c376.other W205 (Or.inl ne266)
    have c378 := c377.other W235 (Or.inl ne266)
    have c379 := F_o_LESS_precedence.ext E1
    have c380 := c379.other W7 (Or.inl ne319)
    have c381 := c380.other W15 (Or.inl ne319)
    have c382 := c381.other W25 (Or.inl ne319)
    have c383 := c382.other W37 (Or.inl ne319)
    have c384 := c383.other W51 (Or.inl ne319)
    have c385 := c384.other W67 (Or.inl ne319)
    have c386 := c385.other W85 (Or.inl ne319)
    have c387 := c386.other W105 (Or.inl ne319)
    have c388 := c387.other W127 (Or.inl ne319)
    have c389 := c388.other W151 (Or.inl ne319)
    have c390 := c389.other W177 (Or.inl ne319)
    have c391 := c390.other W205 (Or.inl ne319)
    have c392 := c391.other W235 (Or.inl ne319)
    obtain ⟨cq393, kq393, q393a, q393b, q393c⟩ := isOf hZ e342 c350
    obtain ⟨_, _, ⟨T393, L393, k393, n393⟩, -, X393, ⟨Lc393, hQ393, l393, y393, z393⟩, st393⟩ := X342.virtualBack hx (y := (⟨"com/example/treelational/treelational/xpath/Operator", "isComparison", "()Z"⟩ : MethodName)) (z := (⟨"com/example/treelational/treelational/xpath/Operator", "isComparison", "()Z"⟩ : MethodName)) hown (mvT hZ (own_w31 hw)) (mvT hZ (own_w32 hw)) (notFace_of_selects (args := #[]) (mvT hZ (own_w34 hw))) (mvT hZ (own_w34 hw)) (mvT hZ (own_w33 hw)) (by decide) (backOf (W := 0) (rm1_6 l Z a0 hw [] o_LESS_OR_EQUAL o_EQUAL o_LESS h235 n0 (Nat.le_trans Z0 KC236.1) c364 c248 c378 c316 c392) hZ (own_w35 hw) (own_w3 hw) (by decide) (by decide)) q393a q393c (g := (mkF m 153 #[.val (.int i0), .val (.ref b1), .val (.int (5 : Int32)), .val (.ref o_LESS_OR_EQUAL), .val (.int (1 : Int32))] [(.ref o_LESS_OR_EQUAL)])) rfl (by rw [hml]; rfl) (Steps.refl _) (argsL := []) (rest := []) (lenOf pd___Z rfl) rfl (by show 2 * 0 + _ ≤ _; exact Nat.le_of_eq rfl) (hb hby at_153) (fun _ _ => ⟨rfl, e342, (by decide : 1 + 0 ≤ _), (by decide : 13 + 0 ≤ _)⟩)
    dsimp only [Pt.U, Pt.locs, Pt.cells, Pt.slots] at X393 l393 y393 z393 st393 hQ393
    subst l393 y393 z393
    obtain ⟨rfl, N393q, e393⟩ := hQ393
    have N393 := Fr.app N235 N393q
    obtain ⟨fs, hr, hrun, hended, hW, hsame⟩ := X393.leave (v := some (.int (1 : Int32))) (fun h => by rw [Bd.returns] at h; cases h)
    refine ⟨_, _, pre1 _ ?_, hrun, hended, _, _, rfl, ⟨rfl, N393⟩, ⟨_, rfl⟩, hW, hsame.mono (by decide) (by decide)⟩
    show Steps p.tables e below (T235.setTop (mkF m 98 #[.val (.int i0), .val (.ref b1), .unset, .unset, .unset] [(.int ((i0 &&& (2147483647 : Int32)) % (13 : Int32)))])) _
    rw [he0]
    show Steps p.tables e below (T235.setTop (mkF m 98 #[.val (.int i0), .val (.ref b1), .unset, .unset, .unset] [(.int (5 : Int32))])) _
    refine XS.istoreN X235.here hx rfl (hb hby at_98) rfl (l' := #[.val (.int i0), .val (.ref b1), .val (.int (5 : Int32)), .unset, .unset]) rfl ?_
    show Steps p.tables e below (T235.setTop (mkF m 99 #[.val (.int i0), .val (.ref b1), .val (.int (5 : Int32)), .unset, .unset] [])) _
    refine XS.aloadN X235.here hx rfl (hb hby at_99) rfl rfl ?_
    show Steps p.tables e below (T235.setTop (mkF m 100 #[.val (.int i0), .val (.ref b1), .val (.int (5 : Int32)), .unset, .unset] [(.ref b1)])) _
    refine XS.iloadN X235.here hx rfl (hb hby at_100) rfl ?_
    show Steps p.tables e below (T235.setTop (mkF m 101 #[.val (.int i0), .val (.ref b1), .val (.int (5 : Int32)), .unset, .unset] [(.int (5 : Int32)), (.ref b1)])) _
    refine X235.aaload hx (j := (5 : Int32)) (v := (.ref o_LESS_OR_EQUAL)) (by rw [e235]; exact Ar237.1) (State.isArrayOf_alike hZ.alike Ar237.2.1) rfl Ar237.2.2 hin237 hat237 (g := (mkF m 101 #[.val (.int i0), .val (.ref b1), .val (.int (5 : Int32)), .unset, .unset] [(.int (5 : Int32)), (.ref b1)])) rfl rfl (hb hby at_101) _ ?_
    show Steps p.tables e below (T235.setTop (mkF m 102 #[.val (.int i0), .val (.ref b1), .val (.int (5 : Int32)), .unset, .unset] [(.ref o_LESS_OR_EQUAL)])) _
    refine XS.astoreN X235.here hx rfl (hb hby at_102) rfl rfl (l' := #[.val (.int i0), .val (.ref b1), .val (.int (5 : Int32)), .val (.ref o_LESS_OR_EQUAL), .unset]) rfl ?_
    show Steps p.tables e below (T235.setTop (mkF m 103 #[.val (.int i0), .val (.ref b1), .val (.int (5 : Int32)), .val (.ref o_LESS_OR_EQUAL), .unset] [])) _
    refine XS.aloadN X235.here hx rfl (hb hby at_103) rfl rfl ?_
    show Steps p.tables e below (T235.setTop (mkF m 104 #[.val (.int i0), .val (.ref b1), .val (.int (5 : Int32)), .val (.ref o_LESS_OR_EQUAL), .unset] [(.ref o_LESS_OR_EQUAL)])) _
    refine st249 _ ?_
    show Steps p.tables e below (T249.setTop (mkF m 107 #[.val (.int i0), .val (.ref b1), .val (.int (5 : Int32)), .val (.ref o_LESS_OR_EQUAL), .unset] [(.ref o_EQUAL), (.ref o_LESS_OR_EQUAL)])) _
    refine Jvm.RoadKit.acmp (g := (mkF m 107 #[.val (.int i0), .val (.ref b1), .val (.int (5 : Int32)), .val (.ref o_LESS_OR_EQUAL), .unset] [(.ref o_EQUAL), (.ref o_LESS_OR_EQUAL)])) X249 hx rfl rfl rfl (pc0 := 107) (pc' := 110) (same := false) rfl (hb hby at_107) rfl (decide_eq_false fun q => ne280 (Value.ref.inj q)) (by decide) (by decide) ?_
    show Steps p.tables e below (T249.setTop (mkF m 110 #[.val (.int i0), .val (.ref b1), .val (.int (5 : Int32)), .val (.ref o_LESS_OR_EQUAL), .unset] [])) _
    refine XS.aloadN X249.here hx rfl (hb hby at_110) rfl rfl ?_
    show Steps p.tables e below (T249.setTop (mkF m 111 #[.val (.int i0), .val (.ref b1), .val (.int (5 : Int32)), .val (.ref o_LESS_OR_EQUAL), .unset] [(.ref o_LESS_OR_EQUAL)])) _
    refine st291 _ ?_
    show Steps p.tables e below (T291.setTop (mkF m 114 #[.val (.int i0), .val (.ref b1), .val (.int (5 : Int32)), .val (.ref o_LESS_OR_EQUAL), .unset] [(.ref o_NOT_EQUAL), (.ref o_LESS_OR_EQUAL)])) _
    refine Jvm.RoadKit.acmp (g := (mkF m 114 #[.val (.int i0), .val (.ref b1), .val (.int (5 : Int32)), .val (.ref o_LESS_OR_EQUAL), .unset] [(.ref o_NOT_EQUAL), (.ref o_LESS_OR_EQUAL)])) X291 hx rfl rfl rfl (pc0 := 114) (pc' := 117) (same := false) rfl (hb hby at_114) rfl (decide_eq_false fun q => ne307 (Value.ref.inj q)) (by decide) (by decide) ?_
    show Steps p.tables e below (T291.setTop (mkF m 117 #[.val (.int i0), .val (.ref b1), .val (.int (5 : Int32)), .val (.ref o_LESS_OR_EQUAL), .unset] [])) _
    refine XS.aloadN X291.here hx rfl (hb hby at_117) rfl rfl ?_
    show Steps p.tables e below (T291.setTop (mkF m 118 #[.val (.int i0), .val (.ref b1), .val (.int (5 : Int32)), .val (.ref o_LESS_OR_EQUAL), .unset] [(.ref o_LESS_OR_EQUAL)])) _
    refine st317 _ ?_
    show Steps p.tables e below (T317.setTop (mkF m 121 #[.val (.int i0), .val (.ref b1), .val (.int (5 : Int32)), .val (.ref o_LESS_OR_EQUAL), .unset] [(.ref o_LESS), (.ref o_LESS_OR_EQUAL)])) _
    refine Jvm.RoadKit.acmp (g := (mkF m 121 #[.val (.int i0), .val (.ref b1), .val (.int (5 : Int32)), .val (.ref o_LESS_OR_EQUAL), .unset] [(.ref o_LESS), (.ref o_LESS_OR_EQUAL)])) X317 hx rfl rfl rfl (pc0 := 121) (pc' := 124) (same := false) rfl (hb hby at_121) rfl (decide_eq_false fun q => ne333 (Value.ref.inj q)) (by decide) (by decide) ?_
    show Steps p.tables e below (T317.setTop (mkF m 124 #[.val (.int i0), .val (.ref b1), .val (.int (5 : Int32)), .val (.ref o_LESS_OR_EQUAL), .unset] [])) _
    refine XS.aloadN X317.here hx rfl (hb hby at_124) rfl rfl ?_
    show Steps p.tables e below (T317.setTop (mkF m 125 #[.val (.int i0), .val (.ref b1), .val (.int (5 : Int32)), .val (.ref o_LESS_OR_EQUAL), .unset] [(.ref o_LESS_OR_EQUAL)])) _
    refine st342 _ ?_
    show Steps p.tables e below (T342.setTop (mkF m 128 #[.val (.int i0), .val (.ref b1), .val (.int (5 : Int32)), .val (.ref o_LESS_OR_EQUAL), .unset] [(.ref o_LESS_OR_EQUAL), (.ref o_LESS_OR_EQUAL)])) _
    refine Jvm.RoadKit.acmp (g := (mkF m 128 #[.val (.int i0), .val (.ref b1), .val (.int (5 : Int32)), .val (.ref o_LESS_OR_EQUAL), .unset] [(.ref o_LESS_OR_EQUAL), (.ref o_LESS_OR_EQUAL)])) X342 hx rfl rfl rfl (pc0 := 128) (pc' := 145) (same := true) rfl (hb hby at_128) rfl (decide_eq_true rfl) (by decide) (by decide) ?_
    show Steps p.tables e below (T342.setTop (mkF m 145 #[.val (.int i0), .val (.ref b1), .val (.int (5 : Int32)), .val (.ref o_LESS_OR_EQUAL), .unset] [])) _
    refine XS.iconst X342.here hx rfl (hb hby at_145) ?_
    show Steps p.tables e below (T342.setTop (mkF m 146 #[.val (.int i0), .val (.ref b1), .val (.int (5 : Int32)), .val (.ref o_LESS_OR_EQUAL), .unset] [(.int (1 : Int32))])) _
    refine XS.goto X342.here hx rfl (pc0 := 146) (pc' := 150) rfl (hb hby at_146) (by decide) (by decide) ?_
    show Steps p.tables e below (T342.setTop (mkF m 150 #[.val (.int i0), .val (.ref b1), .val (.int (5 : Int32)), .val (.ref o_LESS_OR_EQUAL), .unset] [(.int (1 : Int32))])) _
    refine XS.istore X342.here hx rfl (hb hby at_150) rfl (l' := #[.val (.int i0), .val (.ref b1), .val (.int (5 : Int32)), .val (.ref o_LESS_OR_EQUAL), .val (.int (1 : Int32))]) rfl ?_
    show Steps p.tables e below (T342.setTop (mkF m 152 #[.val (.int i0), .val (.ref b1), .val (.int (5 : Int32)), .val (.ref o_LESS_OR_EQUAL), .val (.int (1 : Int32))] [])) _
    refine XS.aloadN X342.here hx rfl (hb hby at_152) rfl rfl ?_
    show Steps p.tables e below (T342.setTop (mkF m 153 #[.val (.int i0), .val (.ref b1), .val (.int (5 : Int32)), .val (.ref o_LESS_OR_EQUAL), .val (.int (1 : Int32))] [(.ref o_LESS_OR_EQUAL)])) _
    refine st393.trans ?_
    show Steps p.tables e below (T393.setTop (mkF m 156 #[.val (.int i0), .val (.ref b1), .val (.int (5 : Int32)), .val (.ref o_LESS_OR_EQUAL), .val (.int (1 : Int32))] [(.int (1 : Int32))])) _
    refine XS.iload X393.here hx rfl (hb hby at_156) rfl ?_
    show Steps p.tables e below (T393.setTop (mkF m 158 #[.val (.int i0), .val (.ref b1), .val (.int (5 : Int32)), .val (.ref o_LESS_OR_EQUAL), .val (.int (1 : Int32))] [(.int (1 : Int32)), (.int (1 : Int32))])) _
    refine XS.icmpNo X393.here hx rfl (hb hby at_158) rfl (teq (by decide : (1 : Int32) = (1 : Int32))).2 ?_
    show Steps p.tables e below (T393.setTop (mkF m 161 #[.val (.int i0), .val (.ref b1), .val (.int (5 : Int32)), .val (.ref o_LESS_OR_EQUAL), .val (.int (1 : Int32))] [])) _
    refine XS.iconst X393.here hx rfl (hb hby at_161) ?_
    show Steps p.tables e below (T393.setTop (mkF m 162 #[.val (.int i0), .val (.ref b1), .val (.int (5 : Int32)), .val (.ref o_LESS_OR_EQUAL), .val (.int (1 : Int32))] [(.int (1 : Int32))])) _
    refine XS.goto X393.here hx rfl (pc0 := 162) (pc' := 166) rfl (hb hby at_162) (by decide) (by decide) ?_
    show Steps p.tables e below (T393.setTop (mkF m 166 #[.val (.int i0), .val (.ref b1), .val (.int (5 : Int32)), .val (.ref o_LESS_OR_EQUAL), .val (.int (1 : Int32))] [(.int (1 : Int32))])) _
    exact retN X393 hx (t := .boolean) Bd.returns (by simp) (hb hby at_166) hr
  · obtain ⟨cl237, Ar237, qk237, Sz237, Ng237, Ha237, Gf237⟩ := V235
    have hin237 : ¬ ((6 : Int32) < 0 ∨ cl237.slots.size ≤ ((6 : Int32)).toNatClampNeg) := inb_of Sz237 ⟨by decide, by decide⟩
    have hat237 : cl237.slots[((6 : Int32)).toNatClampNeg]? = some (.ref o_GREATER) := Has.at Ha237 hin237 rfl
    have c238 := c19.wr W25
    have c239 := c238.wr W37
    have c240 := c239.wr W51
    have c241 := c240.wr W67
    have c242 := c241.wr W85
    have c243 := c242.wr W105
    have c244 := c243.wr W127
    have c245 := c244.wr W151
    have c246 := c245.wr W177
    have c247 := c246.wr W205
    have c248 := c247.wr W235
    obtain ⟨T249, X249, e249, st249⟩ := getS2 X235 hx hZ hown (host := "") (Or.inl (own_w8 hw)) Via.refl e235 c248 (g := (mkF m 104 #[.val (.int i0), .val (.ref b1), .val (.int (6 : Int32)), .val (.ref o_GREATER), .unset] [(.ref o_GREATER)])) rfl (hb hby at_104)
    have c250 := F_o_GREATER_ordinal.ext E1
    have ne251 : o_GREATER ≠ b1 := (Nat.ne_of_lt (Nat.lt_of_lt_of_le E_o_GREATER.lt sz_b1))
    have c252 := c250.other W7 (Or.inl ne251)
    have c253 := c252.other W15 (Or.inl ne251)
    have c254 := c253.other W25 (Or.inl ne251)
    have c255 := c254.other W37 (Or.inl ne251)
    have c256 := c255.other W51 (Or.inl ne251)
    have c257 := c256.other W67 (Or.inl ne251)
    have c258 := c257.other W85 (Or.inl ne251)
    have c259 := c258.other W105 (Or.inl ne251)
    have c260 := c259.other W127 (Or.inl ne251)
    have c261 := c260.other W151 (Or.inl ne251)
    have c262 := c261.other W177 (Or.inl ne251)
    have c263 := c262.other W205 (Or.inl ne251)
    have c264 := c263.other W235 (Or.inl ne251)
    have c265 := F_o_EQUAL_ordinal.ext E1
    have ne266 : o_EQUAL ≠ b1 := (Nat.ne_of_lt (Nat.lt_of_lt_of_le E_o_EQUAL.lt sz_b1))
    have c267 := c265.other W7 (Or.inl ne266)
    have c268 := c267.other W15 (Or.inl ne266)
    have c269 := c268.other W25 (Or.inl ne266)
    have c270 := c269.other W37 (Or.inl ne266)
    have c271 := c270.other W51 (Or.inl ne266)
    have c272 := c271.other W67 (Or.inl ne266)
    have c273 := c272.other W85 (Or.inl ne266)
    have c274 := c273.other W105 (Or.inl ne266)
    have c275 := c274.other W127 (Or.inl ne266)
    have c276 := c275.other W151 (Or.inl ne266)
    have c277 := c276.other W177 (Or.inl ne266)
    have c278 := c277.other W205 (Or.inl ne266)
    have c279 := c278.other W235 (Or.inl ne266)
    have ne280 : o_GREATER ≠ o_EQUAL := (c264.ne c279 (fun q => absurd (Value.int.inj q) (by decide)))
    have c281 := c30.wr W37
    have c282 := c281.wr W51
    have c283 := c282.wr W67
    have c284 := c283.wr W85
    have c285 := c284.wr W105
    have c286 := c285.wr W127
    have c287 := c286.wr W151
    have c288 := c287.wr W177
    have c289 := c288.wr W205
    have c290 := c289.wr W235
    obtain ⟨T291, X291, e291, st291⟩ := getS2 X249 hx hZ hown (host := "") (Or.inl (own_w10 hw)) Via.refl e249 c290 (g := (mkF m 111 #[.val (.int i0), .val (.ref b1), .val (.int (6 : Int32)), .val (.ref o_GREATER), .unset] [(.ref o_GREATER)])) rfl (hb hby at_111)
    have c292 := F_o_NOT_EQUAL_ordinal.ext E1
    have ne293 : o_NOT_EQUAL ≠ b1 := (Nat.ne_of_lt (Nat.lt_of_lt_of_le E_o_NOT_EQUAL.lt sz_b1))
    have c294 := c292.other W7 (Or.inl ne293)
    have c295 := c294.other W15 (Or.inl ne293)
    have c296 := c295.other W25 (Or.inl ne293)
    have c297 := c296.other W37 (Or.inl ne293)
    have c298 := c297.other W51 (Or.inl ne293)
    have c299 := c298.other W67 (Or.inl ne293)
    have c300 := c299.other W85 (Or.inl ne293)
    have c301 := c300.other W105 (Or.inl ne293)
    have c302 := c301.other W127 (Or.inl ne293)
    have c303 := c302.other W151 (Or.inl ne293)
    have c304 := c303.other W177 (Or.inl ne293)
    have c305 := c304.other W205 (Or.inl ne293)
    have c306 := c305.other W235 (Or.inl ne293)
    have ne307 : o_GREATER ≠ o_NOT_EQUAL := (c264.ne c306 (fun q => absurd (Value.int.inj q) (by decide)))
    have c308 := c43.wr W51
    have c309 := c308.wr W67
    have c310 := c309.wr W85
    have c311 := c310.wr W105
    have c312 := c311.wr W127
    have c313 := c312.wr W151
    have c314 := c313.wr W177
    have c315 := c314.wr W205
    have c316 := c315.wr W235
    obtain ⟨T317, X317, e317, st317⟩ := getS2 X291 hx hZ hown (host := "") (Or.inl (own_w12 hw)) Via.refl e291 c316 (g := (mkF m 118 #[.val (.int i0), .val (.ref b1), .val (.int (6 : Int32)), .val (.ref o_GREATER), .unset] [(.ref o_GREATER)])) rfl (hb hby at_118)
    have c318 := F_o_LESS_ordinal.ext E1
    have ne319 : o_LESS ≠ b1 := (Nat.ne_of_lt (Nat.lt_of_lt_of_le E_o_LESS.lt sz_b1))
    have c320 := c318.other W7 (Or.inl ne319)
    have c321 := c320.other W15 (Or.inl ne319)
    have c322 := c321.other W25 (Or.inl ne319)
    have c323 := c322.other W37 (Or.inl ne319)
    have c324 := c323.other W51 (Or.inl ne319)
    have c325 := c324.other W67 (Or.inl ne319)
    have c326 := c325.other W85 (Or.inl ne319)
    have c327 := c326.other W105 (Or.inl ne319)
    have c328 := c327.other W127 (Or.inl ne319)
    have c329 := c328.other W151 (Or.inl ne319)
    have c330 := c329.other W177 (Or.inl ne319)
    have c331 := c330.other W205 (Or.inl ne319)
    have c332 := c331.other W235 (Or.inl ne319)
    have ne333 : o_GREATER ≠ o_LESS := (c264.ne c332 (fun q => absurd (Value.int.inj q) (by decide)))
    have c334 := c58.wr W67
    have c335 := c334.wr W85
    have c336 := c335.wr W105
    have c337 := c336.wr W127
    have c338 := c337.wr W151
    have c339 := c338.wr W177
    have c340 := c339.wr W205
    have c341 := c340.wr W235
    obtain ⟨T342, X342, e342, st342⟩ := getS2 X317 hx hZ hown (host := "") (Or.inl (own_w14 hw)) Via.refl e317 c341 (g := (mkF m 125 #[.val (.int i0), .val (.ref b1), .val (.int (6 : Int32)), .val (.ref o_GREATER), .unset] [(.ref o_GREATER)])) rfl (hb hby at_125)
    have c343 := F_o_LESS_OR_EQUAL_ordinal.ext E1
    have ne344 : o_LESS_OR_EQUAL ≠ b1 := (Nat.ne_of_lt (Nat.lt_of_lt_of_le E_o_LESS_OR_EQUAL.lt sz_b1))
    have c345 := c343.other W7 (Or.inl ne344)
    have c346 := c345.other W15 (Or.inl ne344)
    have c347 := c346.other W25 (Or.inl ne344)
    have c348 := c347.other W37 (Or.inl ne344)
    have c349 := c348.other W51 (Or.inl ne344)
    have c350 := c349.other W67 (Or.inl ne344)
    have c351 := c350.other W85 (Or.inl ne344)
    have c352 := c351.other W105 (Or.inl ne344)
    have c353 := c352.other W127 (Or.inl ne344)
    have c354 := c353.other W151 (Or.inl ne344)
    have c355 := c354.other W177 (Or.inl ne344)
    have c356 := c355.other W205 (Or.inl ne344)
    have c357 := c356.other W235 (Or.inl ne344)
    have ne358 : o_GREATER ≠ o_LESS_OR_EQUAL := (c264.ne c357 (fun q => absurd (Value.int.inj q) (by decide)))
    have c359 := c75.wr W85
    have c360 := c359.wr W105
    have c361 := c360.wr W127
    have c362 := c361.wr W151
    have c363 := c362.wr W177
    have c364 := c363.wr W205
    have c365 := c364.wr W235
    obtain ⟨T366, X366, e366, st366⟩ := getS2 X342 hx hZ hown (host := "") (Or.inl (own_w16 hw)) Via.refl e342 c365 (g := (mkF m 132 #[.val (.int i0), .val (.ref b1), .val (.int (6 : Int32)), .val (.ref o_GREATER), .unset] [(.ref o_GREATER)])) rfl (hb hby at_132)
    have c367 := c84.wr W85
    have c368 := c367.wr W105
    have c369 := c368.wr W127
    have c370 := c369.wr W151
    have c371 := c370.wr W177
    have c372 := c371.wr W205
    have c373 := c372.wr W235
    have c374 := F_o_GREATER_precedence.ext E1
    have c375 := c374.other W7 (Or.inl ne251)
    have c376 := c375.other W15 (Or.inl ne251)
    have c377 := c376.other W25 (Or.inl ne251)
    have c378 := c377.other W37 (Or.inl ne251)
    have c379 := c378.other W51 (Or.inl ne251)
    have c380 := c379.other W67 (Or.inl ne251)
    have c381 := c380.other W85 (Or.inl ne251)
    have c382 := c381.other W105 (Or.inl ne251)
    have c383 := c382.other W127 (Or.inl ne251)
    have c384 := c383.other W151 (Or.inl ne251)
    have c385 := c384.other W177 (Or.inl ne251)
    have c386 := c385.other W205 (Or.inl ne251)
    have c387 := c386.other W235 (Or.inl ne251)
    have c388 := F_o_EQUAL_precedence.ext E1
    have c389 := c388.other W7 (Or.inl ne266)
    have c390 := c389.other W15 (Or.inl ne266)
    have c391 := c390.other W25 (Or.inl ne266)
    have c392 := c391.other W37 (Or.inl ne266)
    have c393 := c392.other W51 (Or.inl ne266)
    have c394 := c393.other W67 (Or.inl ne266)
    have c395 := c394.other W85 (Or.inl ne266)
    have c396 := c395.other W105 (Or.inl ne266)
    have c397 := c396.other W127 (Or.inl ne266)
    have c398 := c397.other W151 (Or.inl ne266)
    have c399 := c398.other W177 (Or.inl ne266)
    have c400 := c399.other W205 (Or.inl ne266)
    have c401 := c400.other W235 (Or.inl ne266)
    have c402 := F_o_LESS_precedence.ext E1
    have c403 := c402.other W7 (Or.inl ne319)
    have c404 := c403.other W15 (Or.inl ne319)
    have c405 := c404.other W25 (Or.inl ne319)
    have c406 := c405.other W37 (Or.inl ne319)
    have c407 := c406.other W51 (Or.inl ne319)
    have c408 := c407.other W67 (Or.inl ne319)
    have c409 := c408.other W85 (Or.inl ne319)
    have c410 := c409.other W105 (Or.inl ne319)
    have c411 := c410.other W127 (Or.inl ne319)
    have c412 := c411.other W151 (Or.inl ne319)
    have c413 := c412.other W177 (Or.inl ne319)
    have c414 := c413.other W205 (Or.inl ne319)
    have c415 := c414.other W235 (Or.inl ne319)
    obtain ⟨cq416, kq416, q416a, q416b, q416c⟩ := isOf hZ e366 c373
    obtain ⟨_, _, ⟨T416, L416, k416, n416⟩, -, X416, ⟨Lc416, hQ416, l416, y416, z416⟩, st416⟩ := X366.virtualBack hx (y := (⟨"com/example/treelational/treelational/xpath/Operator", "isComparison", "()Z"⟩ : MethodName)) (z := (⟨"com/example/treelational/treelational/xpath/Operator", "isComparison", "()Z"⟩ : MethodName)) hown (mvT hZ (own_w31 hw)) (mvT hZ (own_w32 hw)) (notFace_of_selects (args := #[]) (mvT hZ (own_w34 hw))) (mvT hZ (own_w34 hw)) (mvT hZ (own_w33 hw)) (by decide) (backOf (W := 0) (rm1_6 l Z a0 hw [] o_GREATER o_EQUAL o_LESS h235 n0 (Nat.le_trans Z0 KC236.1) c387 c248 c401 c316 c415) hZ (own_w35 hw) (own_w3 hw) (by decide) (by decide)) q416a q416c (g := (mkF m 153 #[.val (.int i0), .val (.ref b1), .val (.int (6 : Int32)), .val (.ref o_GREATER), .val (.int (1 : Int32))] [(.ref o_GREATER)])) rfl (by rw [hml]; rfl) (Steps.refl _) (argsL := []) (rest := []) (lenOf pd___Z rfl) rfl (by show 2 * 0 + _ ≤ _; exact Nat.le_of_eq rfl) (hb hby at_153) (fun _ _ => ⟨rfl, e366, (by decide : 1 + 0 ≤ _), (by decide : 13 + 0 ≤ _)⟩)
    dsimp only [Pt.U, Pt.locs, Pt.cells, Pt.slots] at X416 l416 y416 z416 st416 hQ416
    subst l416 y416 z416
    obtain ⟨rfl, N416q, e416⟩ := hQ416
    have N416 := Fr.app N235 N416q
    obtain ⟨fs, hr, hrun, hended, hW, hsame⟩ := X416.leave (v := some (.int (1 : Int32))) (fun h => by rw [Bd.returns] at h; cases h)
    refine ⟨_, _, pre1 _ ?_, hrun, hended, _, _, rfl, ⟨rfl, N416⟩, ⟨_, rfl⟩, hW, hsame.mono (by decide) (by decide)⟩
    show Steps p.tables e below (T235.setTop (mkF m 98 #[.val (.int i0), .val (.ref b1), .unset, .unset, .unset] [(.int ((i0 &&& (2147483647 : Int32)) % (13 : Int32)))])) _
    rw [he0]
    show Steps p.tables e below (T235.setTop (mkF m 98 #[.val (.int i0), .val (.ref b1), .unset, .unset, .unset] [(.int (6 : Int32))])) _
    refine XS.istoreN X235.here hx rfl (hb hby at_98) rfl (l' := #[.val (.int i0), .val (.ref b1), .val (.int (6 : Int32)), .unset, .unset]) rfl ?_
    show Steps p.tables e below (T235.setTop (mkF m 99 #[.val (.int i0), .val (.ref b1), .val (.int (6 : Int32)), .unset, .unset] [])) _
    refine XS.aloadN X235.here hx rfl (hb hby at_99) rfl rfl ?_
    show Steps p.tables e below (T235.setTop (mkF m 100 #[.val (.int i0), .val (.ref b1), .val (.int (6 : Int32)), .unset, .unset] [(.ref b1)])) _
    refine XS.iloadN X235.here hx rfl (hb hby at_100) rfl ?_
    show Steps p.tables e below (T235.setTop (mkF m 101 #[.val (.int i0), .val (.ref b1), .val (.int (6 : Int32)), .unset, .unset] [(.int (6 : Int32)), (.ref b1)])) _
    refine X235.aaload hx (j := (6 : Int32)) (v := (.ref o_GREATER)) (by rw [e235]; exact Ar237.1) (State.isArrayOf_alike hZ.alike Ar237.2.1) rfl Ar237.2.2 hin237 hat237 (g := (mkF m 101 #[.val (.int i0), .val (.ref b1), .val (.int (6 : Int32)), .unset, .unset] [(.int (6 : Int32)), (.ref b1)])) rfl rfl (hb hby at_101) _ ?_
    show Steps p.tables e below (T235.setTop (mkF m 102 #[.val (.int i0), .val (.ref b1), .val (.int (6 : Int32)), .unset, .unset] [(.ref o_GREATER)])) _
    refine XS.astoreN X235.here hx rfl (hb hby at_102) rfl rfl (l' := #[.val (.int i0), .val (.ref b1), .val (.int (6 : Int32)), .val (.ref o_GREATER), .unset]) rfl ?_
    show Steps p.tables e below (T235.setTop (mkF m 103 #[.val (.int i0), .val (.ref b1), .val (.int (6 : Int32)), .val (.ref o_GREATER), .unset] [])) _
    refine XS.aloadN X235.here hx rfl (hb hby at_103) rfl rfl ?_
    show Steps p.tables e below (T235.setTop (mkF m 104 #[.val (.int i0), .val (.ref b1), .val (.int (6 : Int32)), .val (.ref o_GREATER), .unset] [(.ref o_GREATER)])) _
    refine st249 _ ?_
    show Steps p.tables e below (T249.setTop (mkF m 107 #[.val (.int i0), .val (.ref b1), .val (.int (6 : Int32)), .val (.ref o_GREATER), .unset] [(.ref o_EQUAL), (.ref o_GREATER)])) _
    refine Jvm.RoadKit.acmp (g := (mkF m 107 #[.val (.int i0), .val (.ref b1), .val (.int (6 : Int32)), .val (.ref o_GREATER), .unset] [(.ref o_EQUAL), (.ref o_GREATER)])) X249 hx rfl rfl rfl (pc0 := 107) (pc' := 110) (same := false) rfl (hb hby at_107) rfl (decide_eq_false fun q => ne280 (Value.ref.inj q)) (by decide) (by decide) ?_
    show Steps p.tables e below (T249.setTop (mkF m 110 #[.val (.int i0), .val (.ref b1), .val (.int (6 : Int32)), .val (.ref o_GREATER), .unset] [])) _
    refine XS.aloadN X249.here hx rfl (hb hby at_110) rfl rfl ?_
    show Steps p.tables e below (T249.setTop (mkF m 111 #[.val (.int i0), .val (.ref b1), .val (.int (6 : Int32)), .val (.ref o_GREATER), .unset] [(.ref o_GREATER)])) _
    refine st291 _ ?_
    show Steps p.tables e below (T291.setTop (mkF m 114 #[.val (.int i0), .val (.ref b1), .val (.int (6 : Int32)), .val (.ref o_GREATER), .unset] [(.ref o_NOT_EQUAL), (.ref o_GREATER)])) _
    refine Jvm.RoadKit.acmp (g := (mkF m 114 #[.val (.int i0), .val (.ref b1), .val (.int (6 : Int32)), .val (.ref o_GREATER), .unset] [(.ref o_NOT_EQUAL), (.ref o_GREATER)])) X291 hx rfl rfl rfl (pc0 := 114) (pc' := 117) (same := false) rfl (hb hby at_114) rfl (decide_eq_false fun q => ne307 (Value.ref.inj q)) (by decide) (by decide) ?_
    show Steps p.tables e below (T291.setTop (mkF m 117 #[.val (.int i0), .val (.ref b1), .val (.int (6 : Int32)), .val (.ref o_GREATER), .unset] [])) _
    refine XS.aloadN X291.here hx rfl (hb hby at_117) rfl rfl ?_
    show Steps p.tables e below (T291.setTop (mkF m 118 #[.val (.int i0), .val (.ref b1), .val (.int (6 : Int32)), .val (.ref o_GREATER), .unset] [(.ref o_GREATER)])) _
    refine st317 _ ?_
    show Steps p.tables e below (T317.setTop (mkF m 121 #[.val (.int i0), .val (.ref b1), .val (.int (6 : Int32)), .val (.ref o_GREATER), .unset] [(.ref o_LESS), (.ref o_GREATER)])) _
    refine Jvm.RoadKit.acmp (g := (mkF m 121 #[.val (.int i0), .val (.ref b1), .val (.int (6 : Int32)), .val (.ref o_GREATER), .unset] [(.ref o_LESS), (.ref o_GREATER)])) X317 hx rfl rfl rfl (pc0 := 121) (pc' := 124) (same := false) rfl (hb hby at_121) rfl (decide_eq_false fun q => ne333 (Value.ref.inj q)) (by decide) (by decide) ?_
    show Steps p.tables e below (T317.setTop (mkF m 124 #[.val (.int i0), .val (.ref b1), .val (.int (6 : Int32)), .val (.ref o_GREATER), .unset] [])) _
    refine XS.aloadN X317.here hx rfl (hb hby at_124) rfl rfl ?_
    show Steps p.tables e below (T317.setTop (mkF m 125 #[.val (.int i0), .val (.ref b1), .val (.int (6 : Int32)), .val (.ref o_GREATER), .unset] [(.ref o_GREATER)])) _
    refine st342 _ ?_
    show Steps p.tables e below (T342.setTop (mkF m 128 #[.val (.int i0), .val (.ref b1), .val (.int (6 : Int32)), .val (.ref o_GREATER), .unset] [(.ref o_LESS_OR_EQUAL), (.ref o_GREATER)])) _
    refine Jvm.RoadKit.acmp (g := (mkF m 128 #[.val (.int i0), .val (.ref b1), .val (.int (6 : Int32)), .val (.ref o_GREATER), .unset] [(.ref o_LESS_OR_EQUAL), (.ref o_GREATER)])) X342 hx rfl rfl rfl (pc0 := 128) (pc' := 131) (same := false) rfl (hb hby at_128) rfl (decide_eq_false fun q => ne358 (Value.ref.inj q)) (by decide) (by decide) ?_
    show Steps p.tables e below (T342.setTop (mkF m 131 #[.val (.int i0), .val (.ref b1), .val (.int (6 : Int32)), .val (.ref o_GREATER), .unset] [])) _
    refine XS.aloadN X342.here hx rfl (hb hby at_131) rfl rfl ?_
    show Steps p.tables e below (T342.setTop (mkF m 132 #[.val (.int i0), .val (.ref b1), .val (.int (6 : Int32)), .val (.ref o_GREATER), .unset] [(.ref o_GREATER)])) _
    refine st366 _ ?_
    show Steps p.tables e below (T366.setTop (mkF m 135 #[.val (.int i0), .val (.ref b1), .val (.int (6 : Int32)), .val (.ref o_GREATER), .unset] [(.ref o_GREATER), (.ref o_GREATER)])) _
    refine Jvm.RoadKit.acmp (g := (mkF m 135 #[.val (.int i0), .val (.ref b1), .val (.int (6 : Int32)), .val (.ref o_GREATER), .unset] [(.ref o_GREATER), (.ref o_GREATER)])) X366 hx rfl rfl rfl (pc0 := 135) (pc' := 145) (same := true) rfl (hb hby at_135) rfl (decide_eq_true rfl) (by decide) (by decide) ?_
    show Steps p.tables e below (T366.setTop (mkF m 145 #[.val (.int i0), .val (.ref b1), .val (.int (6 : Int32)), .val (.ref o_GREATER), .unset] [])) _
    refine XS.iconst X366.here hx rfl (hb hby at_145) ?_
    show Steps p.tables e below (T366.setTop (mkF m 146 #[.val (.int i0), .val (.ref b1), .val (.int (6 : Int32)), .val (.ref o_GREATER), .unset] [(.int (1 : Int32))])) _
    refine XS.goto X366.here hx rfl (pc0 := 146) (pc' := 150) rfl (hb hby at_146) (by decide) (by decide) ?_
    show Steps p.tables e below (T366.setTop (mkF m 150 #[.val (.int i0), .val (.ref b1), .val (.int (6 : Int32)), .val (.ref o_GREATER), .unset] [(.int (1 : Int32))])) _
    refine XS.istore X366.here hx rfl (hb hby at_150) rfl (l' := #[.val (.int i0), .val (.ref b1), .val (.int (6 : Int32)), .val (.ref o_GREATER), .val (.int (1 : Int32))]) rfl ?_
    show Steps p.tables e below (T366.setTop (mkF m 152 #[.val (.int i0), .val (.ref b1), .val (.int (6 : Int32)), .val (.ref o_GREATER), .val (.int (1 : Int32))] [])) _
    refine XS.aloadN X366.here hx rfl (hb hby at_152) rfl rfl ?_
    show Steps p.tables e below (T366.setTop (mkF m 153 #[.val (.int i0), .val (.ref b1), .val (.int (6 : Int32)), .val (.ref o_GREATER), .val (.int (1 : Int32))] [(.ref o_GREATER)])) _
    refine st416.trans ?_
    show Steps p.tables e below (T416.setTop (mkF m 156 #[.val (.int i0), .val (.ref b1), .val (.int (6 : Int32)), .val (.ref o_GREATER), .val (.int (1 : Int32))] [(.int (1 : Int32))])) _
    refine XS.iload X416.here hx rfl (hb hby at_156) rfl ?_
    show Steps p.tables e below (T416.setTop (mkF m 158 #[.val (.int i0), .val (.ref b1), .val (.int (6 : Int32)), .val (.ref o_GREATER), .val (.int (1 : Int32))] [(.int (1 : Int32)), (.int (1 : Int32))])) _
    refine XS.icmpNo X416.here hx rfl (hb hby at_158) rfl (teq (by decide : (1 : Int32) = (1 : Int32))).2 ?_
    show Steps p.tables e below (T416.setTop (mkF m 161 #[.val (.int i0), .val (.ref b1), .val (.int (6 : Int32)), .val (.ref o_GREATER), .val (.int (1 : Int32))] [])) _
    refine XS.iconst X416.here hx rfl (hb hby at_161) ?_
    show Steps p.tables e below (T416.setTop (mkF m 162 #[.val (.int i0), .val (.ref b1), .val (.int (6 : Int32)), .val (.ref o_GREATER), .val (.int (1 : Int32))] [(.int (1 : Int32))])) _
    refine XS.goto X416.here hx rfl (pc0 := 162) (pc' := 166) rfl (hb hby at_162) (by decide) (by decide) ?_
    show Steps p.tables e below (T416.setTop (mkF m 166 #[.val (.int i0), .val (.ref b1), .val (.int (6 : Int32)), .val (.ref o_GREATER), .val (.int (1 : Int32))] [(.int (1 : Int32))])) _
    exact retN X416 hx (t := .boolean) Bd.returns (by simp) (hb hby at_166) hr
  · obtain ⟨cl237, Ar237, qk237, Sz237, Ng237, Ha237, Gf237⟩ := V235
    have hin237 : ¬ ((7 : Int32) < 0 ∨ cl237.slots.size ≤ ((7 : Int32)).toNatClampNeg) := inb_of Sz237 ⟨by decide, by decide⟩
    have hat237 : cl237.slots[((7 : Int32)).toNatClampNeg]? = some (.ref o_GREATER_OR_EQUAL) := Has.at Ha237 hin237 rfl
    have c238 := c19.wr W25
    have c239 := c238.wr W37
    have c240 := c239.wr W51
    have c241 := c240.wr W67
    have c242 := c241.wr W85
    have c243 := c242.wr W105
    have c244 := c243.wr W127
    have c245 := c244.wr W151
    have c246 := c245.wr W177
    have c247 := c246.wr W205
    have c248 := c247.wr W235
    obtain ⟨T249, X249, e249, st249⟩ := getS2 X235 hx hZ hown (host := "") (Or.inl (own_w8 hw)) Via.refl e235 c248 (g := (mkF m 104 #[.val (.int i0), .val (.ref b1), .val (.int (7 : Int32)), .val (.ref o_GREATER_OR_EQUAL), .unset] [(.ref o_GREATER_OR_EQUAL)])) rfl (hb hby at_104)
    have c250 := F_o_GREATER_OR_EQUAL_ordinal.ext E1
    have ne251 : o_GREATER_OR_EQUAL ≠ b1 := (Nat.ne_of_lt (Nat.lt_of_lt_of_le E_o_GREATER_OR_EQUAL.lt sz_b1))
    have c252 := c250.other W7 (Or.inl ne251)
    have c253 := c252.other W15 (Or.inl ne251)
    have c254 := c253.other W25 (Or.inl ne251)
    have c255 := c254.other W37 (Or.inl ne251)
    have c256 := c255.other W51 (Or.inl ne251)
    have c257 := c256.other W67 (Or.inl ne251)
    have c258 := c257.other W85 (Or.inl ne251)
    have c259 := c258.other W105 (Or.inl ne251)
    have c260 := c259.other W127 (Or.inl ne251)
    have c261 := c260.other W151 (Or.inl ne251)
    have c262 := c261.other W177 (Or.inl ne251)
    have c263 := c262.other W205 (Or.inl ne251)
    have c264 := c263.other W235 (Or.inl ne251)
    have c265 := F_o_EQUAL_ordinal.ext E1
    have ne266 : o_EQUAL ≠ b1 := (Nat.ne_of_lt (Nat.lt_of_lt_of_le E_o_EQUAL.lt sz_b1))
    have c267 := c265.other W7 (Or.inl ne266)
    have c268 := c267.other W15 (Or.inl ne266)
    have c269 := c268.other W25 (Or.inl ne266)
    have c270 := c269.other W37 (Or.inl ne266)
    have c271 := c270.other W51 (Or.inl ne266)
    have c272 := c271.other W67 (Or.inl ne266)
    have c273 := c272.other W85 (Or.inl ne266)
    have c274 := c273.other W105 (Or.inl ne266)
    have c275 := c274.other W127 (Or.inl ne266)
    have c276 := c275.other W151 (Or.inl ne266)
    have c277 := c276.other W177 (Or.inl ne266)
    have c278 := c277.other W205 (Or.inl ne266)
    have c279 := c278.other W235 (Or.inl ne266)
    have ne280 : o_GREATER_OR_EQUAL ≠ o_EQUAL := (c264.ne c279 (fun q => absurd (Value.int.inj q) (by decide)))
    have c281 := c30.wr W37
    have c282 := c281.wr W51
    have c283 := c282.wr W67
    have c284 := c283.wr W85
    have c285 := c284.wr W105
    have c286 := c285.wr W127
    have c287 := c286.wr W151
    have c288 := c287.wr W177
    have c289 := c288.wr W205
    have c290 := c289.wr W235
    obtain ⟨T291, X291, e291, st291⟩ := getS2 X249 hx hZ hown (host := "") (Or.inl (own_w10 hw)) Via.refl e249 c290 (g := (mkF m 111 #[.val (.int i0), .val (.ref b1), .val (.int (7 : Int32)), .val (.ref o_GREATER_OR_EQUAL), .unset] [(.ref o_GREATER_OR_EQUAL)])) rfl (hb hby at_111)
    have c292 := F_o_NOT_EQUAL_ordinal.ext E1
    have ne293 : o_NOT_EQUAL ≠ b1 := (Nat.ne_of_lt (Nat.lt_of_lt_of_le E_o_NOT_EQUAL.lt sz_b1))
    have c294 := c292.other W7 (Or.inl ne293)
    have c295 := c294.other W15 (Or.inl ne293)
    have c296 := c295.other W25 (Or.inl ne293)
    have c297 := c296.other W37 (Or.inl ne293)
    have c298 := c297.other W51 (Or.inl ne293)
    have c299 := c298.other W67 (Or.inl ne293)
    have c300 := c299.other W85 (Or.inl ne293)
    have c301 := c300.other W105 (Or.inl ne293)
    have c302 := c301.other W127 (Or.inl ne293)
    have c303 := c302.other W151 (Or.inl ne293)
    have c304 := c303.other W177 (Or.inl ne293)
    have c305 := c304.other W205 (Or.inl ne293)
    have c306 := c305.other W235 (Or.inl ne293)
    have ne307 : o_GREATER_OR_EQUAL ≠ o_NOT_EQUAL := (c264.ne c306 (fun q => absurd (Value.int.inj q) (by decide)))
    have c308 := c43.wr W51
    have c309 := c308.wr W67
    have c310 := c309.wr W85
    have c311 := c310.wr W105
    have c312 := c311.wr W127
    have c313 := c312.wr W151
    have c314 := c313.wr W177
    have c315 := c314.wr W205
    have c316 := c315.wr W235
    obtain ⟨T317, X317, e317, st317⟩ := getS2 X291 hx hZ hown (host := "") (Or.inl (own_w12 hw)) Via.refl e291 c316 (g := (mkF m 118 #[.val (.int i0), .val (.ref b1), .val (.int (7 : Int32)), .val (.ref o_GREATER_OR_EQUAL), .unset] [(.ref o_GREATER_OR_EQUAL)])) rfl (hb hby at_118)
    have c318 := F_o_LESS_ordinal.ext E1
    have ne319 : o_LESS ≠ b1 := (Nat.ne_of_lt (Nat.lt_of_lt_of_le E_o_LESS.lt sz_b1))
    have c320 := c318.other W7 (Or.inl ne319)
    have c321 := c320.other W15 (Or.inl ne319)
    have c322 := c321.other W25 (Or.inl ne319)
    have c323 := c322.other W37 (Or.inl ne319)
    have c324 := c323.other W51 (Or.inl ne319)
    have c325 := c324.other W67 (Or.inl ne319)
    have c326 := c325.other W85 (Or.inl ne319)
    have c327 := c326.other W105 (Or.inl ne319)
    have c328 := c327.other W127 (Or.inl ne319)
    have c329 := c328.other W151 (Or.inl ne319)
    have c330 := c329.other W177 (Or.inl ne319)
    have c331 := c330.other W205 (Or.inl ne319)
    have c332 := c331.other W235 (Or.inl ne319)
    have ne333 : o_GREATER_OR_EQUAL ≠ o_LESS := (c264.ne c332 (fun q => absurd (Value.int.inj q) (by decide)))
    have c334 := c58.wr W67
    have c335 := c334.wr W85
    have c336 := c335.wr W105
    have c337 := c336.wr W127
    have c338 := c337.wr W151
    have c339 := c338.wr W177
    have c340 := c339.wr W205
    have c341 := c340.wr W235
    obtain ⟨T342, X342, e342, st342⟩ := getS2 X317 hx hZ hown (host := "") (Or.inl (own_w14 hw)) Via.refl e317 c341 (g := (mkF m 125 #[.val (.int i0), .val (.ref b1), .val (.int (7 : Int32)), .val (.ref o_GREATER_OR_EQUAL), .unset] [(.ref o_GREATER_OR_EQUAL)])) rfl (hb hby at_125)
    have c343 := F_o_LESS_OR_EQUAL_ordinal.ext E1
    have ne344 : o_LESS_OR_EQUAL ≠ b1 := (Nat.ne_of_lt (Nat.lt_of_lt_of_le E_o_LESS_OR_EQUAL.lt sz_b1))
    have c345 := c343.other W7 (Or.inl ne344)
    have c346 := c345.other W15 (Or.inl ne344)
    have c347 := c346.other W25 (Or.inl ne344)
    have c348 := c347.other W37 (Or.inl ne344)
    have c349 := c348.other W51 (Or.inl ne344)
    have c350 := c349.other W67 (Or.inl ne344)
    have c351 := c350.other W85 (Or.inl ne344)
    have c352 := c351.other W105 (Or.inl ne344)
    have c353 := c352.other W127 (Or.inl ne344)
    have c354 := c353.other W151 (Or.inl ne344)
    have c355 := c354.other W177 (Or.inl ne344)
    have c356 := c355.other W205 (Or.inl ne344)
    have c357 := c356.other W235 (Or.inl ne344)
    have ne358 : o_GREATER_OR_EQUAL ≠ o_LESS_OR_EQUAL := (c264.ne c357 (fun q => absurd (Value.int.inj q) (by decide)))
    have c359 := c75.wr W85
    have c360 := c359.wr W105
    have c361 := c360.wr W127
    have c362 := c361.wr W151
    have c363 := c362.wr W177
    have c364 := c363.wr W205
    have c365 := c364.wr W235
    obtain ⟨T366, X366, e366, st366⟩ := getS2 X342 hx hZ hown (host := "") (Or.inl (own_w16 hw)) Via.refl e342 c365 (g := (mkF m 132 #[.val (.int i0), .val (.ref b1), .val (.int (7 : Int32)), .val (.ref o_GREATER_OR_EQUAL), .unset] [(.ref o_GREATER_OR_EQUAL)])) rfl (hb hby at_132)
    have c367 := F_o_GREATER_ordinal.ext E1
    have ne368 : o_GREATER ≠ b1 := (Nat.ne_of_lt (Nat.lt_of_lt_of_le E_o_GREATER.lt sz_b1))
    have c369 := c367.other W7 (Or.inl ne368)
    have c370 := c369.other W15 (Or.inl ne368)
    have c371 := c370.other W25 (Or.inl ne368)
    have c372 := c371.other W37 (Or.inl ne368)
    have c373 := c372.other W51 (Or.inl ne368)
    have c374 := c373.other W67 (Or.inl ne368)
    have c375 := c374.other W85 (Or.inl ne368)
    have c376 := c375.other W105 (Or.inl ne368)
    have c377 := c376.other W127 (Or.inl ne368)
    have c378 := c377.other W151 (Or.inl ne368)
    have c379 := c378.other W177 (Or.inl ne368)
    have c380 := c379.other W205 (Or.inl ne368)
    have c381 := c380.other W235 (Or.inl ne368)
    have ne382 : o_GREATER_OR_EQUAL ≠ o_GREATER := (c264.ne c381 (fun q => absurd (Value.int.inj q) (by decide)))
    have c383 := c94.wr W105
    have c384 := c383.wr W127
    have c385 := c384.wr W151
    have c386 := c385.wr W177
    have c387 := c386.wr W205
    have c388 := c387.wr W235
    obtain ⟨T389, X389, e389, st389⟩ := getS2 X366 hx hZ hown (host := "") (Or.inl (own_w18 hw)) Via.refl e366 c388 (g := (mkF m 139 #[.val (.int i0), .val (.ref b1), .val (.int (7 : Int32)), .val (.ref o_GREATER_OR_EQUAL), .unset] [(.ref o_GREATER_OR_EQUAL)])) rfl (hb hby at_139)
    have c390 := c104.wr W105
    have c391 := c390.wr W127
    have c392 := c391.wr W151
    have c393 := c392.wr W177
    have c394 := c393.wr W205
    have c395 := c394.wr W235
    have c396 := F_o_GREATER_OR_EQUAL_precedence.ext E1
    have c397 := c396.other W7 (Or.inl ne251)
    have c398 := c397.other W15 (Or.inl ne251)
    have c399 := c398.other W25 (Or.inl ne251)
    have c400 := c399.other W37 (Or.inl ne251)
    have c401 := c400.other W51 (Or.inl ne251)
    have c402 := c401.other W67 (Or.inl ne251)
    have c403 := c402.other W85 (Or.inl ne251)
    have c404 := c403.other W105 (Or.inl ne251)
    have c405 := c404.other W127 (Or.inl ne251)
    have c406 := c405.other W151 (Or.inl ne251)
    have c407 := c406.other W177 (Or.inl ne251)
    have c408 := c407.other W205 (Or.inl ne251)
    have c409 := c408.other W235 (Or.inl ne251)
    have c410 := F_o_EQUAL_precedence.ext E1
    have c411 := c410.other W7 (Or.inl ne266)
    have c412 := c411.other W15 (Or.inl ne266)
    have c413 := c412.other W25 (Or.inl ne266)
    have c414 := c413.other W37 (Or.inl ne266)
    have c415 := c414.other W51 (Or.inl ne266)
    have c416 := c415.other W67 (Or.inl ne266)
    have c417 := c416.other W85 (Or.inl ne266)
    have c418 := c417.other W105 (Or.inl ne266)
    have c419 := c418.other W127 (Or.inl ne266)
    have c420 := c419.other W151 (Or.inl ne266)
    have c421 := c420.other W177 (Or.inl ne266)
    have c422 := c421.other W205 (Or.inl ne266)
    have c423 := c422.other W235 (Or.inl ne266)
    have c424 := F_o_LESS_precedence.ext E1
    have c425 := c424.other W7 (Or.inl ne319)
    have c426 := c425.other W15 (Or.inl ne319)
    have c427 := c426.other W25 (Or.inl ne319)
    have c428 := c427.other W37 (Or.inl ne319)
    have c429 := c428.other W51 (Or.inl ne319)
    have c430 := c429.other W67 (Or.inl ne319)
    have c431 := c430.other W85 (Or.inl ne319)
    have c432 := c431.other W105 (Or.inl ne319)
    have c433 := c432.other W127 (Or.inl ne319)
    have c434 := c433.other W151 (Or.inl ne319)
    have c435 := c434.other W177 (Or.inl ne319)
    have c436 := c435.other W205 (Or.inl ne319)
    have c437 := c436.other W235 (Or.inl ne319)
    obtain ⟨cq438, kq438, q438a, q438b, q438c⟩ := isOf hZ e389 c395
    obtain ⟨_, _, ⟨T438, L438, k438, n438⟩, -, X438, ⟨Lc438, hQ438, l438, y438, z438⟩, st438⟩ := X389.virtualBack hx (y := (⟨"com/example/treelational/treelational/xpath/Operator", "isComparison", "()Z"⟩ : MethodName)) (z := (⟨"com/example/treelational/treelational/xpath/Operator", "isComparison", "()Z"⟩ : MethodName)) hown (mvT hZ (own_w31 hw)) (mvT hZ (own_w32 hw)) (notFace_of_selects (args := #[]) (mvT hZ (own_w34 hw))) (mvT hZ (own_w34 hw)) (mvT hZ (own_w33 hw)) (by decide) (backOf (W := 0) (rm1_6 l Z a0 hw [] o_GREATER_OR_EQUAL o_EQUAL o_LESS h235 n0 (Nat.le_trans Z0 KC236.1) c409 c248 c423 c316 c437) hZ (own_w35 hw) (own_w3 hw) (by decide) (by decide)) q438a q438c (g := (mkF m 153 #[.val (.int i0), .val (.ref b1), .val (.int (7 : Int32)), .val (.ref o_GREATER_OR_EQUAL), .val (.int (1 : Int32))] [(.ref o_GREATER_OR_EQUAL)])) rfl (by rw [hml]; rfl) (Steps.refl _) (argsL := []) (rest := []) (lenOf pd___Z rfl) rfl (by show 2 * 0 + _ ≤ _; exact Nat.le_of_eq rfl) (hb hby at_153) (fun _ _ => ⟨rfl, e389, (by decide : 1 + 0 ≤ _), (by decide : 13 + 0 ≤ _)⟩)
    dsimp only [Pt.U, Pt.locs, Pt.cells, Pt.slots] at X438 l438 y438 z438 st438 hQ438
    subst l438 y438 z438
    obtain ⟨rfl, N438q, e438⟩ := hQ438
    have N438 := Fr.app N235 N438q
    obtain ⟨fs, hr, hrun, hended, hW, hsame⟩ := X438.leave (v := some (.int (1 : Int32))) (fun h => by rw [Bd.returns] at h; cases h)
    refine ⟨_, _, pre1 _ ?_, hrun, hended, _, _, rfl, ⟨rfl, N438⟩, ⟨_, rfl⟩, hW, hsame.mono (by decide) (by decide)⟩
    show Steps p.tables e below (T235.setTop (mkF m 98 #[.val (.int i0), .val (.ref b1), .unset, .unset, .unset] [(.int ((i0 &&& (2147483647 : Int32)) % (13 : Int32)))])) _
    rw [he0]
    show Steps p.tables e below (T235.setTop (mkF m 98 #[.val (.int i0), .val (.ref b1), .unset, .unset, .unset] [(.int (7 : Int32))])) _
    refine XS.istoreN X235.here hx rfl (hb hby at_98) rfl (l' := #[.val (.int i0), .val (.ref b1), .val (.int (7 : Int32)), .unset, .unset]) rfl ?_
    show Steps p.tables e below (T235.setTop (mkF m 99 #[.val (.int i0), .val (.ref b1), .val (.int (7 : Int32)), .unset, .unset] [])) _
    refine XS.aloadN X235.here hx rfl (hb hby at_99) rfl rfl ?_
    show Steps p.tables e below (T235.setTop (mkF m 100 #[.val (.int i0), .val (.ref b1), .val (.int (7 : Int32)), .unset, .unset] [(.ref b1)])) _
    refine XS.iloadN X235.here hx rfl (hb hby at_100) rfl ?_
    show Steps p.tables e below (T235.setTop (mkF m 101 #[.val (.int i0), .val (.ref b1), .val (.int (7 : Int32)), .unset, .unset] [(.int (7 : Int32)), (.ref b1)])) _
    refine X235.aaload hx (j := (7 : Int32)) (v := (.ref o_GREATER_OR_EQUAL)) (by rw [e235]; exact Ar237.1) (State.isArrayOf_alike hZ.alike Ar237.2.1) rfl Ar237.2.2 hin237 hat237 (g := (mkF m 101 #[.val (.int i0), .val (.ref b1), .val (.int (7 : Int32)), .unset, .unset] [(.int (7 : Int32)), (.ref b1)])) rfl rfl (hb hby at_101) _ ?_
    show Steps p.tables e below (T235.setTop (mkF m 102 #[.val (.int i0), .val (.ref b1), .val (.int (7 : Int32)), .unset, .unset] [(.ref o_GREATER_OR_EQUAL)])) _
    refine XS.astoreN X235.here hx rfl (hb hby at_102) rfl rfl (l' := #[.val (.int i0), .val (.ref b1), .val (.int (7 : Int32)), .val (.ref o_GREATER_OR_EQUAL), .unset]) rfl ?_
    show Steps p.tables e below (T235.setTop (mkF m 103 #[.val (.int i0), .val (.ref b1), .val (.int (7 : Int32)), .val (.ref o_GREATER_OR_EQUAL), .unset] [])) _
    refine XS.aloadN X235.here hx rfl (hb hby at_103) rfl rfl ?_
    show Steps p.tables e below (T235.setTop (mkF m 104 #[.val (.int i0), .val (.ref b1), .val (.int (7 : Int32)), .val (.ref o_GREATER_OR_EQUAL), .unset] [(.ref o_GREATER_OR_EQUAL)])) _
    refine st249 _ ?_
    show Steps p.tables e below (T249.setTop (mkF m 107 #[.val (.int i0), .val (.ref b1), .val (.int (7 : Int32)), .val (.ref o_GREATER_OR_EQUAL), .unset] [(.ref o_EQUAL), (.ref o_GREATER_OR_EQUAL)])) _
    refine Jvm.RoadKit.acmp (g := (mkF m 107 #[.val (.int i0), .val (.ref b1), .val (.int (7 : Int32)), .val (.ref o_GREATER_OR_EQUAL), .unset] [(.ref o_EQUAL), (.ref o_GREATER_OR_EQUAL)])) X249 hx rfl rfl rfl (pc0 := 107) (pc' := 110) (same := false) rfl (hb hby at_107) rfl (decide_eq_false fun q => ne280 (Value.ref.inj q)) (by decide) (by decide) ?_
    show Steps p.tables e below (T249.setTop (mkF m 110 #[.val (.int i0), .val (.ref b1), .val (.int (7 : Int32)), .val (.ref o_GREATER_OR_EQUAL), .unset] [])) _
    refine XS.aloadN X249.here hx rfl (hb hby at_110) rfl rfl ?_
    show Steps p.tables e below (T249.setTop (mkF m 111 #[.val (.int i0), .val (.ref b1), .val (.int (7 : Int32)), .val (.ref o_GREATER_OR_EQUAL), .unset] [(.ref o_GREATER_OR_EQUAL)])) _
    refine st291 _ ?_
    show Steps p.tables e below (T291.setTop (mkF m 114 #[.val (.int i0), .val (.ref b1), .val (.int (7 : Int32)), .val (.ref o_GREATER_OR_EQUAL), .unset] [(.ref o_NOT_EQUAL), (.ref o_GREATER_OR_EQUAL)])) _
    refine Jvm.RoadKit.acmp (g := (mkF m 114 #[.val (.int i0), .val (.ref b1), .val (.int (7 : Int32)), .val (.ref o_GREATER_OR_EQUAL), .unset] [(.ref o_NOT_EQUAL), (.ref o_GREATER_OR_EQUAL)])) X291 hx rfl rfl rfl (pc0 := 114) (pc' := 117) (same := false) rfl (hb hby at_114) rfl (decide_eq_false fun q => ne307 (Value.ref.inj q)) (by decide) (by decide) ?_
    show Steps p.tables e below (T291.setTop (mkF m 117 #[.val (.int i0), .val (.ref b1), .val (.int (7 : Int32)), .val (.ref o_GREATER_OR_EQUAL), .unset] [])) _
    refine XS.aloadN X291.here hx rfl (hb hby at_117) rfl rfl ?_
    show Steps p.tables e below (T291.setTop (mkF m 118 #[.val (.int i0), .val (.ref b1), .val (.int (7 : Int32)), .val (.ref o_GREATER_OR_EQUAL), .unset] [(.ref o_GREATER_OR_EQUAL)])) _
    refine st317 _ ?_
    show Steps p.tables e below (T317.setTop (mkF m 121 #[.val (.int i0), .val (.ref b1), .val (.int (7 : Int32)), .val (.ref o_GREATER_OR_EQUAL), .unset] [(.ref o_LESS), (.ref o_GREATER_OR_EQUAL)])) _
    refine Jvm.RoadKit.acmp (g := (mkF m 121 #[.val (.int i0), .val (.ref b1), .val (.int (7 : Int32)), .val (.ref o_GREATER_OR_EQUAL), .unset] [(.ref o_LESS), (.ref o_GREATER_OR_EQUAL)])) X317 hx rfl rfl rfl (pc0 := 121) (pc' := 124) (same := false) rfl (hb hby at_121) rfl (decide_eq_false fun q => ne333 (Value.ref.inj q)) (by decide) (by decide) ?_
    show Steps p.tables e below (T317.setTop (mkF m 124 #[.val (.int i0), .val (.ref b1), .val (.int (7 : Int32)), .val (.ref o_GREATER_OR_EQUAL), .unset] [])) _
    refine XS.aloadN X317.here hx rfl (hb hby at_124) rfl rfl ?_
    show Steps p.tables e below (T317.setTop (mkF m 125 #[.val (.int i0), .val (.ref b1), .val (.int (7 : Int32)), .val (.ref o_GREATER_OR_EQUAL), .unset] [(.ref o_GREATER_OR_EQUAL)])) _
    refine st342 _ ?_
    show Steps p.tables e below (T342.setTop (mkF m 128 #[.val (.int i0), .val (.ref b1), .val (.int (7 : Int32)), .val (.ref o_GREATER_OR_EQUAL), .unset] [(.ref o_LESS_OR_EQUAL), (.ref o_GREATER_OR_EQUAL)])) _
    refine Jvm.RoadKit.acmp (g := (mkF m 128 #[.val (.int i0), .val (.ref b1), .val (.int (7 : Int32)), .val (.ref o_GREATER_OR_EQUAL), .unset] [(.ref o_LESS_OR_EQUAL), (.ref o_GREATER_OR_EQUAL)])) X342 hx rfl rfl rfl (pc0 := 128) (pc' := 131) (same := false) rfl (hb hby at_128) rfl (decide_eq_false fun q => ne358 (Value.ref.inj q)) (by decide) (by decide) ?_
    show Steps p.tables e below (T342.setTop (mkF m 131 #[.val (.int i0), .val (.ref b1), .val (.int (7 : Int32)), .val (.ref o_GREATER_OR_EQUAL), .unset] [])) _
    refine XS.aloadN X342.here hx rfl (hb hby at_131) rfl rfl ?_
    show Steps p.tables e below (T342.setTop (mkF m 132 #[.val (.int i0), .val (.ref b1), .val (.int (7 : Int32)), .val (.ref o_GREATER_OR_EQUAL), .unset] [(.ref o_GREATER_OR_EQUAL)])) _
    refine st366 _ ?_
    show Steps p.tables e below (T366.setTop (mkF m 135 #[.val (.int i0), .val (.ref b1), .val (.int (7 : Int32)), .val (.ref o_GREATER_OR_EQUAL), .unset] [(.ref o_GREATER), (.ref o_GREATER_OR_EQUAL)])) _
    refine Jvm.RoadKit.acmp (g := (mkF m 135 #[.val (.int i0), .val (.ref b1), .val (.int (7 : Int32)), .val (.ref o_GREATER_OR_EQUAL), .unset] [(.ref o_GREATER), (.ref o_GREATER_OR_EQUAL)])) X366 hx rfl rfl rfl (pc0 := 135) (pc' := 138) (same := false) rfl (hb hby at_135) rfl (decide_eq_false fun q => ne382 (Value.ref.inj q)) (by decide) (by decide) ?_
    show Steps p.tables e below (T366.setTop (mkF m 138 #[.val (.int i0), .val (.ref b1), .val (.int (7 : Int32)), .val (.ref o_GREATER_OR_EQUAL), .unset] [])) _
    refine XS.aloadN X366.here hx rfl (hb hby at_138) rfl rfl ?_
    show Steps p.tables e below (T366.setTop (mkF m 139 #[.val (.int i0), .val (.ref b1), .val (.int (7 : Int32)), .val (.ref o_GREATER_OR_EQUAL), .unset] [(.ref o_GREATER_OR_EQUAL)])) _
    refine st389 _ ?_
    show Steps p.tables e below (T389.setTop (mkF m 142 #[.val (.int i0), .val (.ref b1), .val (.int (7 : Int32)), .val (.ref o_GREATER_OR_EQUAL), .unset] [(.ref o_GREATER_OR_EQUAL), (.ref o_GREATER_OR_EQUAL)])) _
    refine Jvm.RoadKit.acmp (g := (mkF m 142 #[.val (.int i0), .val (.ref b1), .val (.int (7 : Int32)), .val (.ref o_GREATER_OR_EQUAL), .unset] [(.ref o_GREATER_OR_EQUAL), (.ref o_GREATER_OR_EQUAL)])) X389 hx rfl rfl rfl (pc0 := 142) (pc' := 145) (same := true) rfl (hb hby at_142) rfl (decide_eq_true rfl) (by decide) (by decide) ?_
    show Steps p.tables e below (T389.setTop (mkF m 145 #[.val (.int i0), .val (.ref b1), .val (.int (7 : Int32)), .val (.ref o_GREATER_OR_EQUAL), .unset] [])) _
    refine XS.iconst X389.here hx rfl (hb hby at_145) ?_
    show Steps p.tables e below (T389.setTop (mkF m 146 #[.val (.int i0), .val (.ref b1), .val (.int (7 : Int32)), .val (.ref o_GREATER_OR_EQUAL), .unset] [(.int (1 : Int32))])) _
    refine XS.goto X389.here hx rfl (pc0 := 146) (pc' := 150) rfl (hb hby at_146) (by decide) (by decide) ?_
    show Steps p.tables e below (T389.setTop (mkF m 150 #[.val (.int i0), .val (.ref b1), .val (.int (7 : Int32)), .val (.ref o_GREATER_OR_EQUAL), .unset] [(.int (1 : Int32))])) _
    refine XS.istore X389.here hx rfl (hb hby at_150) rfl (l' := #[.val (.int i0), .val (.ref b1), .val (.int (7 : Int32)), .val (.ref o_GREATER_OR_EQUAL), .val (.int (1 : Int32))]) rfl ?_
    show Steps p.tables e below (T389.setTop (mkF m 152 #[.val (.int i0), .val (.ref b1), .val (.int (7 : Int32)), .val (.ref o_GREATER_OR_EQUAL), .val (.int (1 : Int32))] [])) _
    refine XS.aloadN X389.here hx rfl (hb hby at_152) rfl rfl ?_
    show Steps p.tables e below (T389.setTop (mkF m 153 #[.val (.int i0), .val (.ref b1), .val (.int (7 : Int32)), .val (.ref o_GREATER_OR_EQUAL), .val (.int (1 : Int32))] [(.ref o_GREATER_OR_EQUAL)])) _
    refine st438.trans ?_
    show Steps p.tables e below (T438.setTop (mkF m 156 #[.val (.int i0), .val (.ref b1), .val (.int (7 : Int32)), .val (.ref o_GREATER_OR_EQUAL), .val (.int (1 : Int32))] [(.int (1 : Int32))])) _
    refine XS.iload X438.here hx rfl (hb hby at_156) rfl ?_
    show Steps p.tables e below (T438.setTop (mkF m 158 #[.val (.int i0), .val (.ref b1), .val (.int (7 : Int32)), .val (.ref o_GREATER_OR_EQUAL), .val (.int (1 : Int32))] [(.int (1 : Int32)), (.int (1 : Int32))])) _
    refine XS.icmpNo X438.here hx rfl (hb hby at_158) rfl (teq (by decide : (1 : Int32) = (1 : Int32))).2 ?_
    show Steps p.tables e below (T438.setTop (mkF m 161 #[.val (.int i0), .val (.ref b1), .val (.int (7 : Int32)), .val (.ref o_GREATER_OR_EQUAL), .val (.int (1 : Int32))] [])) _
    refine XS.iconst X438.here hx rfl (hb hby at_161) ?_
    show Steps p.tables e below (T438.setTop (mkF m 162 #[.val (.int i0), .val (.ref b1), .val (.int (7 : Int32)), .val (.ref o_GREATER_OR_EQUAL), .val (.int (1 : Int32))] [(.int (1 : Int32))])) _
    refine XS.goto X438.here hx rfl (pc0 := 162) (pc' := 166) rfl (hb hby at_162) (by decide) (by decide) ?_
    show Steps p.tables e below (T438.setTop (mkF m 166 #[.val (.int i0), .val (.ref b1), .val (.int (7 : Int32)), .val (.ref o_GREATER_OR_EQUAL), .val (.int (1 : Int32))] [(.int (1 : Int32))])) _
    exact retN X438 hx (t := .boolean) Bd.returns (by simp) (hb hby at_166) hr
  · obtain ⟨cl237, Ar237, qk237, Sz237, Ng237, Ha237, Gf237⟩ := V235
    have hin237 : ¬ ((8 : Int32) < 0 ∨ cl237.slots.size ≤ ((8 : Int32)).toNatClampNeg) := inb_of Sz237 ⟨by decide, by decide⟩
    have hat237 : cl237.slots[((8 : Int32)).toNatClampNeg]? = some (.ref o_PLUS) := Has.at Ha237 hin237 rfl
    have c238 := c19.wr W25
    have c239 := c238.wr W37
    have c240 := c239.wr W51
    have c241 := c240.wr W67
    have c242 := c241.wr W85
    have c243 := c242.wr W105
    have c244 := c243.wr W127
    have c245 := c244.wr W151
    have c246 := c245.wr W177
    have c247 := c246.wr W205
    have c248 := c247.wr W235
    obtain ⟨T249, X249, e249, st249⟩ := getS2 X235 hx hZ hown (host := "") (Or.inl (own_w8 hw)) Via.refl e235 c248 (g := (mkF m 104 #[.val (.int i0), .val (.ref b1), .val (.int (8 : Int32)), .val (.ref o_PLUS), .unset] [(.ref o_PLUS)])) rfl (hb hby at_104)
    have c250 := F_o_PLUS_ordinal.ext E1
    have ne251 : o_PLUS ≠ b1 := (Nat.ne_of_lt (Nat.lt_of_lt_of_le E_o_PLUS.lt sz_b1))
    have c252 := c250.other W7 (Or.inl ne251)
    have c253 := c252.other W15 (Or.inl ne251)
    have c254 := c253.other W25 (Or.inl ne251)
    have c255 := c254.other W37 (Or.inl ne251)
    have c256 := c255.other W51 (Or.inl ne251)
    have c257 := c256.other W67 (Or.inl ne251)
    have c258 := c257.other W85 (Or.inl ne251)
    have c259 := c258.other W105 (Or.inl ne251)
    have c260 := c259.other W127 (Or.inl ne251)
    have c261 := c260.other W151 (Or.inl ne251)
    have c262 := c261.other W177 (Or.inl ne251)
    have c263 := c262.other W205 (Or.inl ne251)
    have c264 := c263.other W235 (Or.inl ne251)
    have c265 := F_o_EQUAL_ordinal.ext E1
    have ne266 : o_EQUAL ≠ b1 := (Nat.ne_of_lt (Nat.lt_of_lt_of_le E_o_EQUAL.lt sz_b1))
    have c267 := c265.other W7 (Or.inl ne266)
    have c268 := c267.other W15 (Or.inl ne266)
    have c269 := c268.other W25 (Or.inl ne266)
    have c270 := c269.other W37 (Or.inl ne266)
    have c271 := c270.other W51 (Or.inl ne266)
    have c272 := c271.other W67 (Or.inl ne266)
    have c273 := c272.other W85 (Or.inl ne266)
    have c274 := c273.other W105 (Or.inl ne266)
    have c275 := c274.other W127 (Or.inl ne266)
    have c276 := c275.other W151 (Or.inl ne266)
    have c277 := c276.other W177 (Or.inl ne266)
    have c278 := c277.other W205 (Or.inl ne266)
    have c279 := c278.other W235 (Or.inl ne266)
    have ne280 : o_PLUS ≠ o_EQUAL := (c264.ne c279 (fun q => absurd (Value.int.inj q) (by decide)))
    have c281 := c30.wr W37
    have c282 := c281.wr W51
    have c283 := c282.wr W67
    have c284 := c283.wr W85
    have c285 := c284.wr W105
    have c286 := c285.wr W127
    have c287 := c286.wr W151
    have c288 := c287.wr W177
    have c289 := c288.wr W205
    have c290 := c289.wr W235
    obtain ⟨T291, X291, e291, st291⟩ := getS2 X249 hx hZ hown (host := "") (Or.inl (own_w10 hw)) Via.refl e249 c290 (g := (mkF m 111 #[.val (.int i0), .val (.ref b1), .val (.int (8 : Int32)), .val (.ref o_PLUS), .unset] [(.ref o_PLUS)])) rfl (hb hby at_111)
    have c292 := F_o_NOT_EQUAL_ordinal.ext E1
    have ne293 : o_NOT_EQUAL ≠ b1 := (Nat.ne_of_lt (Nat.lt_of_lt_of_le E_o_NOT_EQUAL.lt sz_b1))
    have c294 := c292.other W7 (Or.inl ne293)
    have c295 := c294.other W15 (Or.inl ne293)
    have c296 := c295.other W25 (Or.inl ne293)
    have c297 := c296.other W37 (Or.inl ne293)
    have c298 := c297.other W51 (Or.inl ne293)
    have c299 := c298.other W67 (Or.inl ne293)
    have c300 := c299.other W85 (Or.inl ne293)
    have c301 := c300.other W105 (Or.inl ne293)
    have c302 := c301.other W127 (Or.inl ne293)
    have c303 := c302.other W151 (Or.inl ne293)
    have c304 := c303.other W177 (Or.inl ne293)
    have c305 := c304.other W205 (Or.inl ne293)
    have c306 := c305.other W235 (Or.inl ne293)
    have ne307 : o_PLUS ≠ o_NOT_EQUAL := (c264.ne c306 (fun q => absurd (Value.int.inj q) (by decide)))
    have c308 := c43.wr W51
    have c309 := c308.wr W67
    have c310 := c309.wr W85
    have c311 := c310.wr W105
    have c312 := c311.wr W127
    have c313 := c312.wr W151
    have c314 := c313.wr W177
    have c315 := c314.wr W205
    have c316 := c315.wr W235
    obtain ⟨T317, X317, e317, st317⟩ := getS2 X291 hx hZ hown (host := "") (Or.inl (own_w12 hw)) Via.refl e291 c316 (g := (mkF m 118 #[.val (.int i0), .val (.ref b1), .val (.int (8 : Int32)), .val (.ref o_PLUS), .unset] [(.ref o_PLUS)])) rfl (hb hby at_118)
    have c318 := F_o_LESS_ordinal.ext E1
    have ne319 : o_LESS ≠ b1 := (Nat.ne_of_lt (Nat.lt_of_lt_of_le E_o_LESS.lt sz_b1))
    have c320 := c318.other W7 (Or.inl ne319)
    have c321 := c320.other W15 (Or.inl ne319)
    have c322 := c321.other W25 (Or.inl ne319)
    have c323 := c322.other W37 (Or.inl ne319)
    have c324 := c323.other W51 (Or.inl ne319)
    have c325 := c324.other W67 (Or.inl ne319)
    have c326 := c325.other W85 (Or.inl ne319)
    have c327 := c326.other W105 (Or.inl ne319)
    have c328 := c327.other W127 (Or.inl ne319)
    have c329 := c328.other W151 (Or.inl ne319)
    have c330 := c329.other W177 (Or.inl ne319)
    have c331 := c330.other W205 (Or.inl ne319)
    have c332 := c331.other W235 (Or.inl ne319)
    have ne333 : o_PLUS ≠ o_LESS := (c264.ne c332 (fun q => absurd (Value.int.inj q) (by decide)))
    have c334 := c58.wr W67
    have c335 := c334.wr W85
    have c336 := c335.wr W105
    have c337 := c336.wr W127
    have c338 := c337.wr W151
    have c339 := c338.wr W177
    have c340 := c339.wr W205
    have c341 := c340.wr W235
    obtain ⟨T342, X342, e342, st342⟩ := getS2 X317 hx hZ hown (host := "") (Or.inl (own_w14 hw)) Via.refl e317 c341 (g := (mkF m 125 #[.val (.int i0), .val (.ref b1), .val (.int (8 : Int32)), .val (.ref o_PLUS), .unset] [(.ref o_PLUS)])) rfl (hb hby at_125)
    have c343 := F_o_LESS_OR_EQUAL_ordinal.ext E1
    have ne344 : o_LESS_OR_EQUAL ≠ b1 := (Nat.ne_of_lt (Nat.lt_of_lt_of_le E_o_LESS_OR_EQUAL.lt sz_b1))
    have c345 := c343.other W7 (Or.inl ne344)
    have c346 := c345.other W15 (Or.inl ne344)
    have c347 := c346.other W25 (Or.inl ne344)
    have c348 := c347.other W37 (Or.inl ne344)
    have c349 := c348.other W51 (Or.inl ne344)
    have c350 := c349.other W67 (Or.inl ne344)
    have c351 := c350.other W85 (Or.inl ne344)
    have c352 := c351.other W105 (Or.inl ne344)
    have c353 := c352.other W127 (Or.inl ne344)
    have c354 := c353.other W151 (Or.inl ne344)
    have c355 := c354.other W177 (Or.inl ne344)
    have c356 := c355.other W205 (Or.inl ne344)
    have c357 := c356.other W235 (Or.inl ne344)
    have ne358 : o_PLUS ≠ o_LESS_OR_EQUAL := (c264.ne c357 (fun q => absurd (Value.int.inj q) (by decide)))
    have c359 := c75.wr W85
    have c360 := c359.wr W105
    have c361 := c360.wr W127
    have c362 := c361.wr W151
    have c363 := c362.wr W177
    have c364 := c363.wr W205
    have c365 := c364.wr W235
    obtain ⟨T366, X366, e366, st366⟩ := getS2 X342 hx hZ hown (host := "") (Or.inl (own_w16 hw)) Via.refl e342 c365 (g := (mkF m 132 #[.val (.int i0), .val (.ref b1), .val (.int (8 : Int32)), .val (.ref o_PLUS), .unset] [(.ref o_PLUS)])) rfl (hb hby at_132)
    have c367 := F_o_GREATER_ordinal.ext E1
    have ne368 : o_GREATER ≠ b1 := (Nat.ne_of_lt (Nat.lt_of_lt_of_le E_o_GREATER.lt sz_b1))
    have c369 := c367.other W7 (Or.inl ne368)
    have c370 := c369.other W15 (Or.inl ne368)
    have c371 := c370.other W25 (Or.inl ne368)
    have c372 := c371.other W37 (Or.inl ne368)
    have c373 := c372.other W51 (Or.inl ne368)
    have c374 := c373.other W67 (Or.inl ne368)
    have c375 := c374.other W85 (Or.inl ne368)
    have c376 := c375.other W105 (Or.inl ne368)
    have c377 := c376.other W127 (Or.inl ne368)
    have c378 := c377.other W151 (Or.inl ne368)
    have c379 := c378.other W177 (Or.inl ne368)
    have c380 := c379.other W205 (Or.inl ne368)
    have c381 := c380.other W235 (Or.inl ne368)
    have ne382 : o_PLUS ≠ o_GREATER := (c264.ne c381 (fun q => absurd (Value.int.inj q) (by decide)))
    have c383 := c94.wr W105
    have c384 := c383.wr W127
    have c385 := c384.wr W151
    have c386 := c385.wr W177
    have c387 := c386.wr W205
    have c388 := c387.wr W235
    obtain ⟨T389, X389, e389, st389⟩ := getS2 X366 hx hZ hown (host := "") (Or.inl (own_w18 hw)) Via.refl e366 c388 (g := (mkF m 139 #[.val (.int i0), .val (.ref b1), .val (.int (8 : Int32)), .val (.ref o_PLUS), .unset] [(.ref o_PLUS)])) rfl (hb hby at_139)
    have c390 := F_o_GREATER_OR_EQUAL_ordinal.ext E1
    have ne391 : o_GREATER_OR_EQUAL ≠ b1 := (Nat.ne_of_lt (Nat.lt_of_lt_of_le E_o_GREATER_OR_EQUAL.lt sz_b1))
    have c392 := c390.other W7 (Or.inl ne391)
    have c393 := c392.other W15 (Or.inl ne391)
    have c394 := c393.other W25 (Or.inl ne391)
    have c395 := c394.other W37 (Or.inl ne391)
    have c396 := c395.other W51 (Or.inl ne391)
    have c397 := c396.other W67 (Or.inl ne391)
    have c398 := c397.other W85 (Or.inl ne391)
    have c399 := c398.other W105 (Or.inl ne391)
    have c400 := c399.other W127 (Or.inl ne391)
    have c401 := c400.other W151 (Or.inl ne391)
    have c402 := c401.other W177 (Or.inl ne391)
    have c403 := c402.other W205 (Or.inl ne391)
    have c404 := c403.other W235 (Or.inl ne391)
    have ne405 : o_PLUS ≠ o_GREATER_OR_EQUAL := (c264.ne c404 (fun q => absurd (Value.int.inj q) (by decide)))
    have c406 := c126.wr W127
    have c407 := c406.wr W151
    have c408 := c407.wr W177
    have c409 := c408.wr W205
    have c410 := c409.wr W235
    have c411 := F_o_PLUS_precedence.ext E1
    have c412 := c411.other W7 (Or.inl ne251)
    have c413 := c412.other W15 (Or.inl ne251)
    have c414 := c413.other W25 (Or.inl ne251)
    have c415 := c414.other W37 (Or.inl ne251)
    have c416 := c415.other W51 (Or.inl ne251)
    have c417 := c416.other W67 (Or.inl ne251)
    have c418 := c417.other W85 (Or.inl ne251)
    have c419 := c418.other W105 (Or.inl ne251)
    have c420 := c419.other W127 (Or.inl ne251)
    have c421 := c420.other W151 (Or.inl ne251)
    have c422 := c421.other W177 (Or.inl ne251)
    have c423 := c422.other W205 (Or.inl ne251)
    have c424 := c423.other W235 (Or.inl ne251)
    have c425 := F_o_EQUAL_precedence.ext E1
    have c426 := c425.other W7 (Or.inl ne266)
    have c427 := c426.other W15 (Or.inl ne266)
    have c428 := c427.other W25 (Or.inl ne266)
    have c429 := c428.other W37 (Or.inl ne266)
    have c430 := c429.other W51 (Or.inl ne266)
    have c431 := c430.other W67 (Or.inl ne266)
    have c432 := c431.other W85 (Or.inl ne266)
    have c433 := c432.other W105 (Or.inl ne266)
    have c434 := c433.other W127 (Or.inl ne266)
    have c435 := c434.other W151 (Or.inl ne266)
    have c436 := c435.other W177 (Or.inl ne266)
    have c437 := c436.other W205 (Or.inl ne266)
    have c438 := c437.other W235 (Or.inl ne266)
    have c439 := F_o_LESS_precedence.ext E1
    have c440 := c439.other W7 (Or.inl ne319)
    have c441 := c440.other W15 (Or.inl ne319)
    have c442 := c441.other W25 (Or.inl ne319)
    have c443 := c442.other W37 (Or.inl ne319)
    have c444 := c443.other W51 (Or.inl ne319)
    have c445 := c444.other W67 (Or.inl ne319)
    have c446 := c445.other W85 (Or.inl ne319)
    have c447 := c446.other W105 (Or.inl ne319)
    have c448 := c447.other W127 (Or.inl ne319)
    have c449 := c448.other W151 (Or.inl ne319)
    have c450 := c449.other W177 (Or.inl ne319)
    have c451 := c450.other W205 (Or.inl ne319)
    have c452 := c451.other W235 (Or.inl ne319)
    obtain ⟨cq453, kq453, q453a, q453b, q453c⟩ := isOf hZ e389 c410
    obtain ⟨_, _, ⟨T453, L453, k453, n453⟩, -, X453, ⟨Lc453, hQ453, l453, y453, z453⟩, st453⟩ := X389.virtualBack hx (y := (⟨"com/example/treelational/treelational/xpath/Operator", "isComparison", "()Z"⟩ : MethodName)) (z := (⟨"com/example/treelational/treelational/xpath/Operator", "isComparison", "()Z"⟩ : MethodName)) hown (mvT hZ (own_w31 hw)) (mvT hZ (own_w32 hw)) (notFace_of_selects (args := #[]) (mvT hZ (own_w34 hw))) (mvT hZ (own_w34 hw)) (mvT hZ (own_w33 hw)) (by decide) (backOf (W := 0) (rm1_7 l Z a0 hw [] o_PLUS o_EQUAL o_LESS h235 n0 (Nat.le_trans Z0 KC236.1) c424 c248 c438 c316 c452) hZ (own_w35 hw) (own_w3 hw) (by decide) (by decide)) q453a q453c (g := (mkF m 153 #[.val (.int i0), .val (.ref b1), .val (.int (8 : Int32)), .val (.ref o_PLUS), .val (.int (0 : Int32))] [(.ref o_PLUS)])) rfl (by rw [hml]; rfl) (Steps.refl _) (argsL := []) (rest := []) (lenOf pd___Z rfl) rfl (by show 2 * 0 + _ ≤ _; exact Nat.le_of_eq rfl) (hb hby at_153) (fun _ _ => ⟨rfl, e389, (by decide : 1 + 0 ≤ _), (by decide : 13 + 0 ≤ _)⟩)
    dsimp only [Pt.U, Pt.locs, Pt.cells, Pt.slots] at X453 l453 y453 z453 st453 hQ453
    subst l453 y453 z453
    obtain ⟨rfl, N453q, e453⟩ := hQ453
    have N453 := Fr.app N235 N453q
    obtain ⟨fs, hr, hrun, hended, hW, hsame⟩ := X453.leave (v := some (.int (1 : Int32))) (fun h => by rw [Bd.returns] at h; cases h)
    refine ⟨_, _, pre1 _ ?_, hrun, hended, _, _, rfl, ⟨rfl, N453⟩, ⟨_, rfl⟩, hW, hsame.mono (by decide) (by decide)⟩
    show Steps p.tables e below (T235.setTop (mkF m 98 #[.val (.int i0), .val (.ref b1), .unset, .unset, .unset] [(.int ((i0 &&& (2147483647 : Int32)) % (13 : Int32)))])) _
    rw [he0]
    show Steps p.tables e below (T235.setTop (mkF m 98 #[.val (.int i0), .val (.ref b1), .unset, .unset, .unset] [(.int (8 : Int32))])) _
    refine XS.istoreN X235.here hx rfl (hb hby at_98) rfl (l' := #[.val (.int i0), .val (.ref b1), .val (.int (8 : Int32)), .unset, .unset]) rfl ?_
    show Steps p.tables e below (T235.setTop (mkF m 99 #[.val (.int i0), .val (.ref b1), .val (.int (8 : Int32)), .unset, .unset] [])) _
    refine XS.aloadN X235.here hx rfl (hb hby at_99) rfl rfl ?_
    show Steps p.tables e below (T235.setTop (mkF m 100 #[.val (.int i0), .val (.ref b1), .val (.int (8 : Int32)), .unset, .unset] [(.ref b1)])) _
    refine XS.iloadN X235.here hx rfl (hb hby at_100) rfl ?_
    show Steps p.tables e below (T235.setTop (mkF m 101 #[.val (.int i0), .val (.ref b1), .val (.int (8 : Int32)), .unset, .unset] [(.int (8 : Int32)), (.ref b1)])) _
    refine X235.aaload hx (j := (8 : Int32)) (v := (.ref o_PLUS)) (by rw [e235]; exact Ar237.1) (State.isArrayOf_alike hZ.alike Ar237.2.1) rfl Ar237.2.2 hin237 hat237 (g := (mkF m 101 #[.val (.int i0), .val (.ref b1), .val (.int (8 : Int32)), .unset, .unset] [(.int (8 : Int32)), (.ref b1)])) rfl rfl (hb hby at_101) _ ?_
    show Steps p.tables e below (T235.setTop (mkF m 102 #[.val (.int i0), .val (.ref b1), .val (.int (8 : Int32)), .unset, .unset] [(.ref o_PLUS)])) _
    refine XS.astoreN X235.here hx rfl (hb hby at_102) rfl rfl (l' := #[.val (.int i0), .val (.ref b1), .val (.int (8 : Int32)), .val (.ref o_PLUS), .unset]) rfl ?_
    show Steps p.tables e below (T235.setTop (mkF m 103 #[.val (.int i0), .val (.ref b1), .val (.int (8 : Int32)), .val (.ref o_PLUS), .unset] [])) _
    refine XS.aloadN X235.here hx rfl (hb hby at_103) rfl rfl ?_
    show Steps p.tables e below (T235.setTop (mkF m 104 #[.val (.int i0), .val (.ref b1), .val (.int (8 : Int32)), .val (.ref o_PLUS), .unset] [(.ref o_PLUS)])) _
    refine st249 _ ?_
    show Steps p.tables e below (T249.setTop (mkF m 107 #[.val (.int i0), .val (.ref b1), .val (.int (8 : Int32)), .val (.ref o_PLUS), .unset] [(.ref o_EQUAL), (.ref o_PLUS)])) _
    refine Jvm.RoadKit.acmp (g := (mkF m 107 #[.val (.int i0), .val (.ref b1), .val (.int (8 : Int32)), .val (.ref o_PLUS), .unset] [(.ref o_EQUAL), (.ref o_PLUS)])) X249 hx rfl rfl rfl (pc0 := 107) (pc' := 110) (same := false) rfl (hb hby at_107) rfl (decide_eq_false fun q => ne280 (Value.ref.inj q)) (by decide) (by decide) ?_
    show Steps p.tables e below (T249.setTop (mkF m 110 #[.val (.int i0), .val (.ref b1), .val (.int (8 : Int32)), .val (.ref o_PLUS), .unset] [])) _
    refine XS.aloadN X249.here hx rfl (hb hby at_110) rfl rfl ?_
    show Steps p.tables e below (T249.setTop (mkF m 111 #[.val (.int i0), .val (.ref b1), .val (.int (8 : Int32)), .val (.ref o_PLUS), .unset] [(.ref o_PLUS)])) _
    refine st291 _ ?_
    show Steps p.tables e below (T291.setTop (mkF m 114 #[.val (.int i0), .val (.ref b1), .val (.int (8 : Int32)), .val (.ref o_PLUS), .unset] [(.ref o_NOT_EQUAL), (.ref o_PLUS)])) _
    refine Jvm.RoadKit.acmp (g := (mkF m 114 #[.val (.int i0), .val (.ref b1), .val (.int (8 : Int32)), .val (.ref o_PLUS), .unset] [(.ref o_NOT_EQUAL), (.ref o_PLUS)])) X291 hx rfl rfl rfl (pc0 := 114) (pc' := 117) (same := false) rfl (hb hby at_114) rfl (decide_eq_false fun q => ne307 (Value.ref.inj q)) (by decide) (by decide) ?_
    show Steps p.tables e below (T291.setTop (mkF m 117 #[.val (.int i0), .val (.ref b1), .val (.int (8 : Int32)), .val (.ref o_PLUS), .unset] [])) _
    refine XS.aloadN X291.here hx rfl (hb hby at_117) rfl rfl ?_
    show Steps p.tables e below (T291.setTop (mkF m 118 #[.val (.int i0), .val (.ref b1), .val (.int (8 : Int32)), .val (.ref o_PLUS), .unset] [(.ref o_PLUS)])) _
    refine st317 _ ?_
    show Steps p.tables e below (T317.setTop (mkF m 121 #[.val (.int i0), .val (.ref b1), .val (.int (8 : Int32)), .val (.ref o_PLUS), .unset] [(.ref o_LESS), (.ref o_PLUS)])) _
    refine Jvm.RoadKit.acmp (g := (mkF m 121 #[.val (.int i0), .val (.ref b1), .val (.int (8 : Int32)), .val (.ref o_PLUS), .unset] [(.ref o_LESS), (.ref o_PLUS)])) X317 hx rfl rfl rfl (pc0 := 121) (pc' := 124) (same := false) rfl (hb hby at_121) rfl (decide_eq_false fun q => ne333 (Value.ref.inj q)) (by decide) (by decide) ?_
    show Steps p.tables e below (T317.setTop (mkF m 124 #[.val (.int i0), .val (.ref b1), .val (.int (8 : Int32)), .val (.ref o_PLUS), .unset] [])) _
    refine XS.aloadN X317.here hx rfl (hb hby at_124) rfl rfl ?_
    show Steps p.tables e below (T317.setTop (mkF m 125 #[.val (.int i0), .val (.ref b1), .val (.int (8 : Int32)), .val (.ref o_PLUS), .unset] [(.ref o_PLUS)])) _
    refine st342 _ ?_
    show Steps p.tables e below (T342.setTop (mkF m 128 #[.val (.int i0), .val (.ref b1), .val (.int (8 : Int32)), .val (.ref o_PLUS), .unset] [(.ref o_LESS_OR_EQUAL), (.ref o_PLUS)])) _
    refine Jvm.RoadKit.acmp (g := (mkF m 128 #[.val (.int i0), .val (.ref b1), .val (.int (8 : Int32)), .val (.ref o_PLUS), .unset] [(.ref o_LESS_OR_EQUAL), (.ref o_PLUS)])) X342 hx rfl rfl rfl (pc0 := 128) (pc' := 131) (same := false) rfl (hb hby at_128) rfl (decide_eq_false fun q => ne358 (Value.ref.inj q)) (by decide) (by decide) ?_
    show Steps p.tables e below (T342.setTop (mkF m 131 #[.val (.int i0), .val (.ref b1), .val (.int (8 : Int32)), .val (.ref o_PLUS), .unset] [])) _
    refine XS.aloadN X342.here hx rfl (hb hby at_131) rfl rfl ?_
    show Steps p.tables e below (T342.setTop (mkF m 132 #[.val (.int i0), .val (.ref b1), .val (.int (8 : Int32)), .val (.ref o_PLUS), .unset] [(.ref o_PLUS)])) _
    refine st366 _ ?_
    show Steps p.tables e below (T366.setTop (mkF m 135 #[.val (.int i0), .val (.ref b1), .val (.int (8 : Int32)), .val (.ref o_PLUS), .unset] [(.ref o_GREATER), (.ref o_PLUS)])) _
    refine Jvm.RoadKit.acmp (g := (mkF m 135 #[.val (.int i0), .val (.ref b1), .val (.int (8 : Int32)), .val (.ref o_PLUS), .unset] [(.ref o_GREATER), (.ref o_PLUS)])) X366 hx rfl rfl rfl (pc0 := 135) (pc' := 138) (same := false) rfl (hb hby at_135) rfl (decide_eq_false fun q => ne382 (Value.ref.inj q)) (by decide) (by decide) ?_
    show Steps p.tables e below (T366.setTop (mkF m 138 #[.val (.int i0), .val (.ref b1), .val (.int (8 : Int32)), .val (.ref o_PLUS), .unset] [])) _
    refine XS.aloadN X366.here hx rfl (hb hby at_138) rfl rfl ?_
    show Steps p.tables e below (T366.setTop (mkF m 139 #[.val (.int i0), .val (.ref b1), .val (.int (8 : Int32)), .val (.ref o_PLUS), .unset] [(.ref o_PLUS)])) _
    refine st389 _ ?_
    show Steps p.tables e below (T389.setTop (mkF m 142 #[.val (.int i0), .val (.ref b1), .val (.int (8 : Int32)), .val (.ref o_PLUS), .unset] [(.ref o_GREATER_OR_EQUAL), (.ref o_PLUS)])) _
    refine Jvm.RoadKit.acmp (g := (mkF m 142 #[.val (.int i0), .val (.ref b1), .val (.int (8 : Int32)), .val (.ref o_PLUS), .unset] [(.ref o_GREATER_OR_EQUAL), (.ref o_PLUS)])) X389 hx rfl rfl rfl (pc0 := 142) (pc' := 149) (same := false) rfl (hb hby at_142) rfl (decide_eq_false fun q => ne405 (Value.ref.inj q)) (by decide) (by decide) ?_
    show Steps p.tables e below (T389.setTop (mkF m 149 #[.val (.int i0), .val (.ref b1), .val (.int (8 : Int32)), .val (.ref o_PLUS), .unset] [])) _
    refine XS.iconst X389.here hx rfl (hb hby at_149) ?_
    show Steps p.tables e below (T389.setTop (mkF m 150 #[.val (.int i0), .val (.ref b1), .val (.int (8 : Int32)), .val (.ref o_PLUS), .unset] [(.int (0 : Int32))])) _
    refine XS.istore X389.here hx rfl (hb hby at_150) rfl (l' := #[.val (.int i0), .val (.ref b1), .val (.int (8 : Int32)), .val (.ref o_PLUS), .val (.int (0 : Int32))]) rfl ?_
    show Steps p.tables e below (T389.setTop (mkF m 152 #[.val (.int i0), .val (.ref b1), .val (.int (8 : Int32)), .val (.ref o_PLUS), .val (.int (0 : Int32))] [])) _
    refine XS.aloadN X389.here hx rfl (hb hby at_152) rfl rfl ?_
    show Steps p.tables e below (T389.setTop (mkF m 153 #[.val (.int i0), .val (.ref b1), .val (.int (8 : Int32)), .val (.ref o_PLUS), .val (.int (0 : Int32))] [(.ref o_PLUS)])) _
    refine st453.trans ?_
    show Steps p.tables e below (T453.setTop (mkF m 156 #[.val (.int i0), .val (.ref b1), .val (.int (8 : Int32)), .val (.ref o_PLUS), .val (.int (0 : Int32))] [(.int (0 : Int32))])) _
    refine XS.iload X453.here hx rfl (hb hby at_156) rfl ?_
    show Steps p.tables e below (T453.setTop (mkF m 158 #[.val (.int i0), .val (.ref b1), .val (.int (8 : Int32)), .val (.ref o_PLUS), .val (.int (0 : Int32))] [(.int (0 : Int32)), (.int (0 : Int32))])) _
    refine XS.icmpNo X453.here hx rfl (hb hby at_158) rfl (teq (by decide : (0 : Int32) = (0 : Int32))).2 ?_
    show Steps p.tables e below (T453.setTop (mkF m 161 #[.val (.int i0), .val (.ref b1), .val (.int (8 : Int32)), .val (.ref o_PLUS), .val (.int (0 : Int32))] [])) _
    refine XS.iconst X453.here hx rfl (hb hby at_161) ?_
    show Steps p.tables e below (T453.setTop (mkF m 162 #[.val (.int i0), .val (.ref b1), .val (.int (8 : Int32)), .val (.ref o_PLUS), .val (.int (0 : Int32))] [(.int (1 : Int32))])) _
    refine XS.goto X453.here hx rfl (pc0 := 162) (pc' := 166) rfl (hb hby at_162) (by decide) (by decide) ?_
    show Steps p.tables e below (T453.setTop (mkF m 166 #[.val (.int i0), .val (.ref b1), .val (.int (8 : Int32)), .val (.ref o_PLUS), .val (.int (0 : Int32))] [(.int (1 : Int32))])) _
    exact retN X453 hx (t := .boolean) Bd.returns (by simp) (hb hby at_166) hr
  · obtain ⟨cl237, Ar237, qk237, Sz237, Ng237, Ha237, Gf237⟩ := V235
    have hin237 : ¬ ((9 : Int32) < 0 ∨ cl237.slots.size ≤ ((9 : Int32)).toNatClampNeg) := inb_of Sz237 ⟨by decide, by decide⟩
    have hat237 : cl237.slots[((9 : Int32)).toNatClampNeg]? = some (.ref o_MINUS) := Has.at Ha237 hin237 rfl
    have c238 := c19.wr W25
    have c239 := c238.wr W37
    have c240 := c239.wr W51
    have c241 := c240.wr W67
    have c242 := c241.wr W85
    have c243 := c242.wr W105
    have c244 := c243.wr W127
    have c245 := c244.wr W151
    have c246 := c245.wr W177
    have c247 := c246.wr W205
    have c248 := c247.wr W235
    obtain ⟨T249, X249, e249, st249⟩ := getS2 X235 hx hZ hown (host := "") (Or.inl (own_w8 hw)) Via.refl e235 c248 (g := (mkF m 104 #[.val (.int i0), .val (.ref b1), .val (.int (9 : Int32)), .val (.ref o_MINUS), .unset] [(.ref o_MINUS)])) rfl (hb hby at_104)
    have c250 := F_o_MINUS_ordinal.ext E1
    have ne251 : o_MINUS ≠ b1 := (Nat.ne_of_lt (Nat.lt_of_lt_of_le E_o_MINUS.lt sz_b1))
    have c252 := c250.other W7 (Or.inl ne251)
    have c253 := c252.other W15 (Or.inl ne251)
    have c254 := c253.other W25 (Or.inl ne251)
    have c255 := c254.other W37 (Or.inl ne251)
    have c256 := c255.other W51 (Or.inl ne251)
    have c257 := c256.other W67 (Or.inl ne251)
    have c258 := c257.other W85 (Or.inl ne251)
    have c259 := c258.other W105 (Or.inl ne251)
    have c260 := c259.other W127 (Or.inl ne251)
    have c261 := c260.other W151 (Or.inl ne251)
    have c262 := c261.other W177 (Or.inl ne251)
    have c263 := c262.other W205 (Or.inl ne251)
    have c264 := c263.other W235 (Or.inl ne251)
    have c265 := F_o_EQUAL_ordinal.ext E1
    have ne266 : o_EQUAL ≠ b1 := (Nat.ne_of_lt (Nat.lt_of_lt_of_le E_o_EQUAL.lt sz_b1))
    have c267 := c265.other W7 (Or.inl ne266)
    have c268 := c267.other W15 (Or.inl ne266)
    have c269 := c268.other W25 (Or.inl ne266)
    have c270 := c269.other W37 (Or.inl ne266)
    have c271 := c270.other W51 (Or.inl ne266)
    have c272 := c271.other W67 (Or.inl ne266)
    have c273 := c272.other W85 (Or.inl ne266)
    have c274 := c273.other W105 (Or.inl ne266)
    have c275 := c274.other W127 (Or.inl ne266)
    have c276 := c275.other W151 (Or.inl ne266)
    have c277 := c276.other W177 (Or.inl ne266)
    have c278 := c277.other W205 (Or.inl ne266)
    have c279 := c278.other W235 (Or.inl ne266)
    have ne280 : o_MINUS ≠ o_EQUAL := (c264.ne c279 (fun q => absurd (Value.int.inj q) (by decide)))
    have c281 := c30.wr W37
    have c282 := c281.wr W51
    have c283 := c282.wr W67
    have c284 := c283.wr W85
    have c285 := c284.wr W105
    have c286 := c285.wr W127
    have c287 := c286.wr W151
    have c288 := c287.wr W177
    have c289 := c288.wr W205
    have c290 := c289.wr W235
    obtain ⟨T291, X291, e291, st291⟩ := getS2 X249 hx hZ hown (host := "") (Or.inl (own_w10 hw)) Via.refl e249 c290 (g := (mkF m 111 #[.val (.int i0), .val (.ref b1), .val (.int (9 : Int32)), .val (.ref o_MINUS), .unset] [(.ref o_MINUS)])) rfl (hb hby at_111)
    have c292 := F_o_NOT_EQUAL_ordinal.ext E1
    have ne293 : o_NOT_EQUAL ≠ b1 := (Nat.ne_of_lt (Nat.lt_of_lt_of_le E_o_NOT_EQUAL.lt sz_b1))
    have c294 := c292.other W7 (Or.inl ne293)
    have c295 := c294.other W15 (Or.inl ne293)
    have c296 := c295.other W25 (Or.inl ne293)
    have c297 := c296.other W37 (Or.inl ne293)
    have c298 := c297.other W51 (Or.inl ne293)
    have c299 := c298.other W67 (Or.inl ne293)
    have c300 := c299.other W85 (Or.inl ne293)
    have c301 := c300.other W105 (Or.inl ne293)
    have c302 := c301.other W127 (Or.inl ne293)
    have c303 := c302.other W151 (Or.inl ne293)
    have c304 := c303.other W177 (Or.inl ne293)
    have c305 := c304.other W205 (Or.inl ne293)
    have c306 := c305.other W235 (Or.inl ne293)
    have ne307 : o_MINUS ≠ o_NOT_EQUAL := (c264.ne c306 (fun q => absurd (Value.int.inj q) (by decide)))
    have c308 := c43.wr W51
    have c309 := c308.wr W67
    have c310 := c309.wr W85
    have c311 := c310.wr W105
    have c312 := c311.wr W127
    have c313 := c312.wr W151
    have c314 := c313.wr W177
    have c315 := c314.wr W205
    have c316 := c315.wr W235
    obtain ⟨T317, X317, e317, st317⟩ := getS2 X291 hx hZ hown (host := "") (Or.inl (own_w12 hw)) Via.refl e291 c316 (g := (mkF m 118 #[.val (.int i0), .val (.ref b1), .val (.int (9 : Int32)), .val (.ref o_MINUS), .unset] [(.ref o_MINUS)])) rfl (hb hby at_118)
    have c318 := F_o_LESS_ordinal.ext E1
    have ne319 : o_LESS ≠ b1 := (Nat.ne_of_lt (Nat.lt_of_lt_of_le E_o_LESS.lt sz_b1))
    have c320 := c318.other W7 (Or.inl ne319)
    have c321 := c320.other W15 (Or.inl ne319)
    have c322 := c321.other W25 (Or.inl ne319)
    have c323 := c322.other W37 (Or.inl ne319)
    have c324 := c323.other W51 (Or.inl ne319)
    have c325 := c324.other W67 (Or.inl ne319)
    have c326 := c325.other W85 (Or.inl ne319)
    have c327 := c326.other W105 (Or.inl ne319)
    have c328 := c327.other W127 (Or.inl ne319)
    have c329 := c328.other W151 (Or.inl ne319)
    have c330 := c329.other W177 (Or.inl ne319)
    have c331 := c330.other W205 (Or.inl ne319)
    have c332 := c331.other W235 (Or.inl ne319)
    have ne333 : o_MINUS ≠ o_LESS := (c264.ne c332 (fun q => absurd (Value.int.inj q) (by decide)))
    have c334 := c58.wr W67
    have c335 := c334.wr W85
    have c336 := c335.wr W105
    have c337 := c336.wr W127
    have c338 := c337.wr W151
    have c339 := c338.wr W177
    have c340 := c339.wr W205
    have c341 := c340.wr W235
    obtain ⟨T342, X342, e342, st342⟩ := getS2 X317 hx hZ hown (host := "") (Or.inl (own_w14 hw)) Via.refl e317 c341 (g := (mkF m 125 #[.val (.int i0), .val (.ref b1), .val (.int (9 : Int32)), .val (.ref o_MINUS), .unset] [(.ref o_MINUS)])) rfl (hb hby at_125)
    have c343 := F_o_LESS_OR_EQUAL_ordinal.ext E1
    have ne344 : o_LESS_OR_EQUAL ≠ b1 := (Nat.ne_of_lt (Nat.lt_of_lt_of_le E_o_LESS_OR_EQUAL.lt sz_b1))
    have c345 := c343.other W7 (Or.inl ne344)
    have c346 := c345.other W15 (Or.inl ne344)
    have c347 := c346.other W25 (Or.inl ne344)
    have c348 := c347.other W37 (Or.inl ne344)
    have c349 := c348.other W51 (Or.inl ne344)
    have c350 := c349.other W67 (Or.inl ne344)
    have c351 := c350.other W85 (Or.inl ne344)
    have c352 := c351.other W105 (Or.inl ne344)
    have c353 := c352.other W127 (Or.inl ne344)
    have c354 := c353.other W151 (Or.inl ne344)
    have c355 := c354.other W177 (Or.inl ne344)
    have c356 := c355.other W205 (Or.inl ne344)
    have c357 := c356.other W235 (Or.inl ne344)
    have ne358 : o_MINUS ≠ o_LESS_OR_EQUAL := (c264.ne c357 (fun q => absurd (Value.int.inj q) (by decide)))
    have c359 := c75.wr W85
    have c360 := c359.wr W105
    have c361 := c360.wr W127
    have c362 := c361.wr W151
    have c363 := c362.wr W177
    have c364 := c363.wr W205
    have c365 := c364.wr W235
    obtain ⟨T366, X366, e366, st366⟩ := getS2 X342 hx hZ hown (host := "") (Or.inl (own_w16 hw)) Via.refl e342 c365 (g := (mkF m 132 #[.val (.int i0), .val (.ref b1), .val (.int (9 : Int32)), .val (.ref o_MINUS), .unset] [(.ref o_MINUS)])) rfl (hb hby at_132)
    have c367 := F_o_GREATER_ordinal.ext E1
    have ne368 : o_GREATER ≠ b1 := (Nat.ne_of_lt (Nat.lt_of_lt_of_le E_o_GREATER.lt sz_b1))
    have c369 := c367.other W7 (Or.inl ne368)
    have c370 := c369.other W15 (Or.inl ne368)
    have c371 := c370.other W25 (Or.inl ne368)
    have c372 := c371.other W37 (Or.inl ne368)
    have c373 := c372.other W51 (Or.inl ne368)
    have c374 := c373.other W67 (Or.inl ne368)
    have c375 := c374.other W85 (Or.inl ne368)
    have c376 := c375.other W105 (Or.inl ne368)
    have c377 := c376.other W127 (Or.inl ne368)
    have c378 := c377.other W151 (Or.inl ne368)
    have c379 := c378.other W177 (Or.inl ne368)
    have c380 := c379.other W205 (Or.inl ne368)
    have c381 := c380.other W235 (Or.inl ne368)
    have ne382 : o_MINUS ≠ o_GREATER := (c264.ne c381 (fun q => absurd (Value.int.inj q) (by decide)))
    have c383 := c94.wr W105
    have c384 := c383.wr W127
    have c385 := c384.wr W151
    have c386 := c385.wr W177
    have c387 := c386.wr W205
    have c388 := c387.wr W235
    obtain ⟨T389, X389, e389, st389⟩ := getS2 X366 hx hZ hown (host := "") (Or.inl (own_w18 hw)) Via.refl e366 c388 (g := (mkF m 139 #[.val (.int i0), .val (.ref b1), .val (.int (9 : Int32)), .val (.ref o_MINUS), .unset] [(.ref o_MINUS)])) rfl (hb hby at_139)
    have c390 := F_o_GREATER_OR_EQUAL_ordinal.ext E1
    have ne391 : o_GREATER_OR_EQUAL ≠ b1 := (Nat.ne_of_lt (Nat.lt_of_lt_of_le E_o_GREATER_OR_EQUAL.lt sz_b1))
    have c392 := c390.other W7 (Or.inl ne391)
    have c393 := c392.other W15 (Or.inl ne391)
    have c394 := c393.other W25 (Or.inl ne391)
    have c395 := c394.other W37 (Or.inl ne391)
    have c396 := c395.other W51 (Or.inl ne391)
    have c397 := c396.other W67 (Or.inl ne391)
    have c398 := c397.other W85 (Or.inl ne391)
    have c399 := c398.other W105 (Or.inl ne391)
    have c400 := c399.other W127 (Or.inl ne391)
    have c401 := c400.other W151 (Or.inl ne391)
    have c402 := c401.other W177 (Or.inl ne391)
    have c403 := c402.other W205 (Or.inl ne391)
    have c404 := c403.other W235 (Or.inl ne391)
    have ne405 : o_MINUS ≠ o_GREATER_OR_EQUAL := (c264.ne c404 (fun q => absurd (Value.int.inj q) (by decide)))
    have c406 := c150.wr W151
    have c407 := c406.wr W177
    have c408 := c407.wr W205
    have c409 := c408.wr W235
    have c410 := F_o_MINUS_precedence.ext E1
    have c411 := c410.other W7 (Or.inl ne251)
    have c412 := c411.other W15 (Or.inl ne251)
    have c413 := c412.other W25 (Or.inl ne251)
    have c414 := c413.other W37 (Or.inl ne251)
    have c415 := c414.other W51 (Or.inl ne251)
    have c416 := c415.other W67 (Or.inl ne251)
    have c417 := c416.other W85 (Or.inl ne251)
    have c418 := c417.other W105 (Or.inl ne251)
    have c419 := c418.other W127 (Or.inl ne251)
    have c420 := c419.other W151 (Or.inl ne251)
    have c421 := c420.other W177 (Or.inl ne251)
    have c422 := c421.other W205 (Or.inl ne251)
    have c423 := c422.other W235 (Or.inl ne251)
    have c424 := F_o_EQUAL_precedence.ext E1
    have c425 := c424.other W7 (Or.inl ne266)
    have c426 := c425.other W15 (Or.inl ne266)
    have c427 := c426.other W25 (Or.inl ne266)
    have c428 := c427.other W37 (Or.inl ne266)
    have c429 := c428.other W51 (Or.inl ne266)
    have c430 := c429.other W67 (Or.inl ne266)
    have c431 := c430.other W85 (Or.inl ne266)
    have c432 := c431.other W105 (Or.inl ne266)
    have c433 := c432.other W127 (Or.inl ne266)
    have c434 := c433.other W151 (Or.inl ne266)
    have c435 := c434.other W177 (Or.inl ne266)
    have c436 := c435.other W205 (Or.inl ne266)
    have c437 := c436.other W235 (Or.inl ne266)
    have c438 := F_o_LESS_precedence.ext E1
    have c439 := c438.other W7 (Or.inl ne319)
    have c440 := c439.other W15 (Or.inl ne319)
    have c441 := c440.other W25 (Or.inl ne319)
    have c442 := c441.other W37 (Or.inl ne319)
    have c443 := c442.other W51 (Or.inl ne319)
    have c444 := c443.other W67 (Or.inl ne319)
    have c445 := c444.other W85 (Or.inl ne319)
    have c446 := c445.other W105 (Or.inl ne319)
    have c447 := c446.other W127 (Or.inl ne319)
    have c448 := c447.other W151 (Or.inl ne319)
    have c449 := c448.other W177 (Or.inl ne319)
    have c450 := c449.other W205 (Or.inl ne319)
    have c451 := c450.other W235 (Or.inl ne319)
    obtain ⟨cq452, kq452, q452a, q452b, q452c⟩ := isOf hZ e389 c409
    obtain ⟨_, _, ⟨T452, L452, k452, n452⟩, -, X452, ⟨Lc452, hQ452, l452, y452, z452⟩, st452⟩ := X389.virtualBack hx (y := (⟨"com/example/treelational/treelational/xpath/Operator", "isComparison", "()Z"⟩ : MethodName)) (z := (⟨"com/example/treelational/treelational/xpath/Operator", "isComparison", "()Z"⟩ : MethodName)) hown (mvT hZ (own_w31 hw)) (mvT hZ (own_w32 hw)) (notFace_of_selects (args := #[]) (mvT hZ (own_w34 hw))) (mvT hZ (own_w34 hw)) (mvT hZ (own_w33 hw)) (by decide) (backOf (W := 0) (rm1_7 l Z a0 hw [] o_MINUS o_EQUAL o_LESS h235 n0 (Nat.le_trans Z0 KC236.1) c423 c248 c437 c316 c451) hZ (own_w35 hw) (own_w3 hw) (by decide) (by decide)) q452a q452c (g := (mkF m 153 #[.val (.int i0), .val (.ref b1), .val (.int (9 : Int32)), .val (.ref o_MINUS), .val (.int (0 : Int32))] [(.ref o_MINUS)])) rfl (by rw [hml]; rfl) (Steps.refl _) (argsL := []) (rest := []) (lenOf pd___Z rfl) rfl (by show 2 * 0 + _ ≤ _; exact Nat.le_of_eq rfl) (hb hby at_153) (fun _ _ => ⟨rfl, e389, (by decide : 1 + 0 ≤ _), (by decide : 13 + 0 ≤ _)⟩)
    dsimp only [Pt.U, Pt.locs, Pt.cells, Pt.slots] at X452 l452 y452 z452 st452 hQ452
    subst l452 y452 z452
    obtain ⟨rfl, N452q, e452⟩ := hQ452
    have N452 := Fr.app N235 N452q
    obtain ⟨fs, hr, hrun, hended, hW, hsame⟩ := X452.leave (v := some (.int (1 : Int32))) (fun h => by rw [Bd.returns] at h; cases h)
    refine ⟨_, _, pre1 _ ?_, hrun, hended, _, _, rfl, ⟨rfl, N452⟩, ⟨_, rfl⟩, hW, hsame.mono (by decide) (by decide)⟩
    show Steps p.tables e below (T235.setTop (mkF m 98 #[.val (.int i0), .val (.ref b1), .unset, .unset, .unset] [(.int ((i0 &&& (2147483647 : Int32)) % (13 : Int32)))])) _
    rw [he0]
    show Steps p.tables e below (T235.setTop (mkF m 98 #[.val (.int i0), .val (.ref b1), .unset, .unset, .unset] [(.int (9 : Int32))])) _
    refine XS.istoreN X235.here hx rfl (hb hby at_98) rfl (l' := #[.val (.int i0), .val (.ref b1), .val (.int (9 : Int32)), .unset, .unset]) rfl ?_
    show Steps p.tables e below (T235.setTop (mkF m 99 #[.val (.int i0), .val (.ref b1), .val (.int (9 : Int32)), .unset, .unset] [])) _
    refine XS.aloadN X235.here hx rfl (hb hby at_99) rfl rfl ?_
    show Steps p.tables e below (T235.setTop (mkF m 100 #[.val (.int i0), .val (.ref b1), .val (.int (9 : Int32)), .unset, .unset] [(.ref b1)])) _
    refine XS.iloadN X235.here hx rfl (hb hby at_100) rfl ?_
    show Steps p.tables e below (T235.setTop (mkF m 101 #[.val (.int i0), .val (.ref b1), .val (.int (9 : Int32)), .unset, .unset] [(.int (9 : Int32)), (.ref b1)])) _
    refine X235.aaload hx (j := (9 : Int32)) (v := (.ref o_MINUS)) (by rw [e235]; exact Ar237.1) (State.isArrayOf_alike hZ.alike Ar237.2.1) rfl Ar237.2.2 hin237 hat237 (g := (mkF m 101 #[.val (.int i0), .val (.ref b1), .val (.int (9 : Int32)), .unset, .unset] [(.int (9 : Int32)), (.ref b1)])) rfl rfl (hb hby at_101) _ ?_
    show Steps p.tables e below (T235.setTop (mkF m 102 #[.val (.int i0), .val (.ref b1), .val (.int (9 : Int32)), .unset, .unset] [(.ref o_MINUS)])) _
    refine XS.astoreN X235.here hx rfl (hb hby at_102) rfl rfl (l' := #[.val (.int i0), .val (.ref b1), .val (.int (9 : Int32)), .val (.ref o_MINUS), .unset]) rfl ?_
    show Steps p.tables e below (T235.setTop (mkF m 103 #[.val (.int i0), .val (.ref b1), .val (.int (9 : Int32)), .val (.ref o_MINUS), .unset] [])) _
    refine XS.aloadN X235.here hx rfl (hb hby at_103) rfl rfl ?_
    show Steps p.tables e below (T235.setTop (mkF m 104 #[.val (.int i0), .val (.ref b1), .val (.int (9 : Int32)), .val (.ref o_MINUS), .unset] [(.ref o_MINUS)])) _
    refine st249 _ ?_
    show Steps p.tables e below (T249.setTop (mkF m 107 #[.val (.int i0), .val (.ref b1), .val (.int (9 : Int32)), .val (.ref o_MINUS), .unset] [(.ref o_EQUAL), (.ref o_MINUS)])) _
    refine Jvm.RoadKit.acmp (g := (mkF m 107 #[.val (.int i0), .val (.ref b1), .val (.int (9 : Int32)), .val (.ref o_MINUS), .unset] [(.ref o_EQUAL), (.ref o_MINUS)])) X249 hx rfl rfl rfl (pc0 := 107) (pc' := 110) (same := false) rfl (hb hby at_107) rfl (decide_eq_false fun q => ne280 (Value.ref.inj q)) (by decide) (by decide) ?_
    show Steps p.tables e below (T249.setTop (mkF m 110 #[.val (.int i0), .val (.ref b1), .val (.int (9 : Int32)), .val (.ref o_MINUS), .unset] [])) _
    refine XS.aloadN X249.here hx rfl (hb hby at_110) rfl rfl ?_
    show Steps p.tables e below (T249.setTop (mkF m 111 #[.val (.int i0), .val (.ref b1), .val (.int (9 : Int32)), .val (.ref o_MINUS), .unset] [(.ref o_MINUS)])) _
    refine st291 _ ?_
    show Steps p.tables e below (T291.setTop (mkF m 114 #[.val (.int i0), .val (.ref b1), .val (.int (9 : Int32)), .val (.ref o_MINUS), .unset] [(.ref o_NOT_EQUAL), (.ref o_MINUS)])) _
    refine Jvm.RoadKit.acmp (g := (mkF m 114 #[.val (.int i0), .val (.ref b1), .val (.int (9 : Int32)), .val (.ref o_MINUS), .unset] [(.ref o_NOT_EQUAL), (.ref o_MINUS)])) X291 hx rfl rfl rfl (pc0 := 114) (pc' := 117) (same := false) rfl (hb hby at_114) rfl (decide_eq_false fun q => ne307 (Value.ref.inj q)) (by decide) (by decide) ?_
    show Steps p.tables e below (T291.setTop (mkF m 117 #[.val (.int i0), .val (.ref b1), .val (.int (9 : Int32)), .val (.ref o_MINUS), .unset] [])) _
    refine XS.aloadN X291.here hx rfl (hb hby at_117) rfl rfl ?_
    show Steps p.tables e below (T291.setTop (mkF m 118 #[.val (.int i0), .val (.ref b1), .val (.int (9 : Int32)), .val (.ref o_MINUS), .unset] [(.ref o_MINUS)])) _
    refine st317 _ ?_
    show Steps p.tables e below (T317.setTop (mkF m 121 #[.val (.int i0), .val (.ref b1), .val (.int (9 : Int32)), .val (.ref o_MINUS), .unset] [(.ref o_LESS), (.ref o_MINUS)])) _
    refine Jvm.RoadKit.acmp (g := (mkF m 121 #[.val (.int i0), .val (.ref b1), .val (.int (9 : Int32)), .val (.ref o_MINUS), .unset] [(.ref o_LESS), (.ref o_MINUS)])) X317 hx rfl rfl rfl (pc0 := 121) (pc' := 124) (same := false) rfl (hb hby at_121) rfl (decide_eq_false fun q => ne333 (Value.ref.inj q)) (by decide) (by decide) ?_
    show Steps p.tables e below (T317.setTop (mkF m 124 #[.val (.int i0), .val (.ref b1), .val (.int (9 : Int32)), .val (.ref o_MINUS), .unset] [])) _
    refine XS.aloadN X317.here hx rfl (hb hby at_124) rfl rfl ?_
    show Steps p.tables e below (T317.setTop (mkF m 125 #[.val (.int i0), .val (.ref b1), .val (.int (9 : Int32)), .val (.ref o_MINUS), .unset] [(.ref o_MINUS)])) _
    refine st342 _ ?_
    show Steps p.tables e below (T342.setTop (mkF m 128 #[.val (.int i0), .val (.ref b1), .val (.int (9 : Int32)), .val (.ref o_MINUS), .unset] [(.ref o_LESS_OR_EQUAL), (.ref o_MINUS)])) _
    refine Jvm.RoadKit.acmp (g := (mkF m 128 #[.val (.int i0), .val (.ref b1), .val (.int (9 : Int32)), .val (.ref o_MINUS), .unset] [(.ref o_LESS_OR_EQUAL), (.ref o_MINUS)])) X342 hx rfl rfl rfl (pc0 := 128) (pc' := 131) (same := false) rfl (hb hby at_128) rfl (decide_eq_false fun q => ne358 (Value.ref.inj q)) (by decide) (by decide) ?_
    show Steps p.tables e below (T342.setTop (mkF m 131 #[.val (.int i0), .val (.ref b1), .val (.int (9 : Int32)), .val (.ref o_MINUS), .unset] [])) _
    refine XS.aloadN X342.here hx rfl (hb hby at_131) rfl rfl ?_
    show Steps p.tables e below (T342.setTop (mkF m 132 #[.val (.int i0), .val (.ref b1), .val (.int (9 : Int32)), .val (.ref o_MINUS), .unset] [(.ref o_MINUS)])) _
    refine st366 _ ?_
    show Steps p.tables e below (T366.setTop (mkF m 135 #[.val (.int i0), .val (.ref b1), .val (.int (9 : Int32)), .val (.ref o_MINUS), .unset] [(.ref o_GREATER), (.ref o_MINUS)])) _
    refine Jvm.RoadKit.acmp (g := (mkF m 135 #[.val (.int i0), .val (.ref b1), .val (.int (9 : Int32)), .val (.ref o_MINUS), .unset] [(.ref o_GREATER), (.ref o_MINUS)])) X366 hx rfl rfl rfl (pc0 := 135) (pc' := 138) (same := false) rfl (hb hby at_135) rfl (decide_eq_false fun q => ne382 (Value.ref.inj q)) (by decide) (by decide) ?_
    show Steps p.tables e below (T366.setTop (mkF m 138 #[.val (.int i0), .val (.ref b1), .val (.int (9 : Int32)), .val (.ref o_MINUS), .unset] [])) _
    refine XS.aloadN X366.here hx rfl (hb hby at_138) rfl rfl ?_
    show Steps p.tables e below (T366.setTop (mkF m 139 #[.val (.int i0), .val (.ref b1), .val (.int (9 : Int32)), .val (.ref o_MINUS), .unset] [(.ref o_MINUS)])) _
    refine st389 _ ?_
    show Steps p.tables e below (T389.setTop (mkF m 142 #[.val (.int i0), .val (.ref b1), .val (.int (9 : Int32)), .val (.ref o_MINUS), .unset] [(.ref o_GREATER_OR_EQUAL), (.ref o_MINUS)])) _
    refine Jvm.RoadKit.acmp (g := (mkF m 142 #[.val (.int i0), .val (.ref b1), .val (.int (9 : Int32)), .val (.ref o_MINUS), .unset] [(.ref o_GREATER_OR_EQUAL), (.ref o_MINUS)])) X389 hx rfl rfl rfl (pc0 := 142) (pc' := 149) (same := false) rfl (hb hby at_142) rfl (decide_eq_false fun q => ne405 (Value.ref.inj q)) (by decide) (by decide) ?_
    show Steps p.tables e below (T389.setTop (mkF m 149 #[.val (.int i0), .val (.ref b1), .val (.int (9 : Int32)), .val (.ref o_MINUS), .unset] [])) _
    refine XS.iconst X389.here hx rfl (hb hby at_149) ?_
    show Steps p.tables e below (T389.setTop (mkF m 150 #[.val (.int i0), .val (.ref b1), .val (.int (9 : Int32)), .val (.ref o_MINUS), .unset] [(.int (0 : Int32))])) _
    refine XS.istore X389.here hx rfl (hb hby at_150) rfl (l' := #[.val (.int i0), .val (.ref b1), .val (.int (9 : Int32)), .val (.ref o_MINUS), .val (.int (0 : Int32))]) rfl ?_
    show Steps p.tables e below (T389.setTop (mkF m 152 #[.val (.int i0), .val (.ref b1), .val (.int (9 : Int32)), .val (.ref o_MINUS), .val (.int (0 : Int32))] [])) _
    refine XS.aloadN X389.here hx rfl (hb hby at_152) rfl rfl ?_
    show Steps p.tables e below (T389.setTop (mkF m 153 #[.val (.int i0), .val (.ref b1), .val (.int (9 : Int32)), .val (.ref o_MINUS), .val (.int (0 : Int32))] [(.ref o_MINUS)])) _
    refine st452.trans ?_
    show Steps p.tables e below (T452.setTop (mkF m 156 #[.val (.int i0), .val (.ref b1), .val (.int (9 : Int32)), .val (.ref o_MINUS), .val (.int (0 : Int32))] [(.int (0 : Int32))])) _
    refine XS.iload X452.here hx rfl (hb hby at_156) rfl ?_
    show Steps p.tables e below (T452.setTop (mkF m 158 #[.val (.int i0), .val (.ref b1), .val (.int (9 : Int32)), .val (.ref o_MINUS), .val (.int (0 : Int32))] [(.int (0 : Int32)), (.int (0 : Int32))])) _
    refine XS.icmpNo X452.here hx rfl (hb hby at_158) rfl (teq (by decide : (0 : Int32) = (0 : Int32))).2 ?_
    show Steps p.tables e below (T452.setTop (mkF m 161 #[.val (.int i0), .val (.ref b1), .val (.int (9 : Int32)), .val (.ref o_MINUS), .val (.int (0 : Int32))] [])) _
    refine XS.iconst X452.here hx rfl (hb hby at_161) ?_
    show Steps p.tables e below (T452.setTop (mkF m 162 #[.val (.int i0), .val (.ref b1), .val (.int (9 : Int32)), .val (.ref o_MINUS), .val (.int (0 : Int32))] [(.int (1 : Int32))])) _
    refine XS.goto X452.here hx rfl (pc0 := 162) (pc' := 166) rfl (hb hby at_162) (by decide) (by decide) ?_
    show Steps p.tables e below (T452.setTop (mkF m 166 #[.val (.int i0), .val (.ref b1), .val (.int (9 : Int32)), .val (.ref o_MINUS), .val (.int (0 : Int32))] [(.int (1 : Int32))])) _
    exact retN X452 hx (t := .boolean) Bd.returns (by simp) (hb hby at_166) hr
  · obtain ⟨cl237, Ar237, qk237, Sz237, Ng237, Ha237, Gf237⟩ := V235
    have hin237 : ¬ ((10 : Int32) < 0 ∨ cl237.slots.size ≤ ((10 : Int32)).toNatClampNeg) := inb_of Sz237 ⟨by decide, by decide⟩
    have hat237 : cl237.slots[((10 : Int32)).toNatClampNeg]? = some (.ref o_MULTIPLY) := Has.at Ha237 hin237 rfl
    have c238 := c19.wr W25
    have c239 := c238.wr W37
    have c240 := c239.wr W51
    have c241 := c240.wr W67
    have c242 := c241.wr W85
    have c243 := c242.wr W105
    have c244 := c243.wr W127
    have c245 := c244.wr W151
    have c246 := c245.wr W177
    have c247 := c246.wr W205
    have c248 := c247.wr W235
    obtain ⟨T249, X249, e249, st249⟩ := getS2 X235 hx hZ hown (host := "") (Or.inl (own_w8 hw)) Via.refl e235 c248 (g := (mkF m 104 #[.val (.int i0), .val (.ref b1), .val (.int (10 : Int32)), .val (.ref o_MULTIPLY), .unset] [(.ref o_MULTIPLY)])) rfl (hb hby at_104)
    have c250 := F_o_MULTIPLY_ordinal.ext E1
    have ne251 : o_MULTIPLY ≠ b1 := (Nat.ne_of_lt (Nat.lt_of_lt_of_le E_o_MULTIPLY.lt sz_b1))
    have c252 := c250.other W7 (Or.inl ne251)
    have c253 := c252.other W15 (Or.inl ne251)
    have c254 := c253.other W25 (Or.inl ne251)
    have c255 := c254.other W37 (Or.inl ne251)
    have c256 := c255.other W51 (Or.inl ne251)
    have c257 := c256.other W67 (Or.inl ne251)
    have c258 := c257.other W85 (Or.inl ne251)
    have c259 := c258.other W105 (Or.inl ne251)
    have c260 := c259.other W127 (Or.inl ne251)
    have c261 := c260.other W151 (Or.inl ne251)
    have c262 := c261.other W177 (Or.inl ne251)
    have c263 := c262.other W205 (Or.inl ne251)
    have c264 := c263.other W235 (Or.inl ne251)
    have c265 := F_o_EQUAL_ordinal.ext E1
    have ne266 : o_EQUAL ≠ b1 := (Nat.ne_of_lt (Nat.lt_of_lt_of_le E_o_EQUAL.lt sz_b1))
    have c267 := c265.other W7 (Or.inl ne266)
    have c268 := c267.other W15 (Or.inl ne266)
    have c269 := c268.other W25 (Or.inl ne266)
    have c270 := c269.other W37 (Or.inl ne266)
    have c271 := c270.other W51 (Or.inl ne266)
    have c272 := c271.other W67 (Or.inl ne266)
    have c273 := c272.other W85 (Or.inl ne266)
    have c274 := c273.other W105 (Or.inl ne266)
    have c275 := c274.other W127 (Or.inl ne266)
    have c276 := c275.other W151 (Or.inl ne266)
    have c277 := c276.other W177 (Or.inl ne266)
    have c278 := c277.other W205 (Or.inl ne266)
    have c279 := c278.other W235 (Or.inl ne266)
    have ne280 : o_MULTIPLY ≠ o_EQUAL := (c264.ne c279 (fun q => absurd (Value.int.inj q) (by decide)))
    have c281 := c30.wr W37
    have c282 := c281.wr W51
    have c283 := c282.wr W67
    have c284 := c283.wr W85
    have c285 := c284.wr W105
    have c286 := c285.wr W127
    have c287 := c286.wr W151
    have c288 := c287.wr W177
    have c289 := c288.wr W205
    have c290 := c289.wr W235
    obtain ⟨T291, X291, e291, st291⟩ := getS2 X249 hx hZ hown (host := "") (Or.inl (own_w10 hw)) Via.refl e249 c290 (g := (mkF m 111 #[.val (.int i0), .val (.ref b1), .val (.int (10 : Int32)), .val (.ref o_MULTIPLY), .unset] [(.ref o_MULTIPLY)])) rfl (hb hby at_111)
    have c292 := F_o_NOT_EQUAL_ordinal.ext E1
    have ne293 : o_NOT_EQUAL ≠ b1 := (Nat.ne_of_lt (Nat.lt_of_lt_of_le E_o_NOT_EQUAL.lt sz_b1))
    have c294 := c292.other W7 (Or.inl ne293)
    have c295 := c294.other W15 (Or.inl ne293)
    have c296 := c295.other W25 (Or.inl ne293)
    have c297 := c296.other W37 (Or.inl ne293)
    have c298 := c297.other W51 (Or.inl ne293)
    have c299 := c298.other W67 (Or.inl ne293)
    have c300 := c299.other W85 (Or.inl ne293)
    have c301 := c300.other W105 (Or.inl ne293)
    have c302 := c301.other W127 (Or.inl ne293)
    have c303 := c302.other W151 (Or.inl ne293)
    have c304 := c303.other W177 (Or.inl ne293)
    have c305 := c304.other W205 (Or.inl ne293)
    have c306 := c305.other W235 (Or.inl ne293)
    have ne307 : o_MULTIPLY ≠ o_NOT_EQUAL := (c264.ne c306 (fun q => absurd (Value.int.inj q) (by decide)))
    have c308 := c43.wr W51
    have c309 := c308.wr W67
    have c310 := c309.wr W85
    have c311 := c310.wr W105
    have c312 := c311.wr W127
    have c313 := c312.wr W151
    have c314 := c313.wr W177
    have c315 := c314.wr W205
    have c316 := c315.wr W235
    obtain ⟨T317, X317, e317, st317⟩ := getS2 X291 hx hZ hown (host := "") (Or.inl (own_w12 hw)) Via.refl e291 c316 (g := (mkF m 118 #[.val (.int i0), .val (.ref b1), .val (.int (10 : Int32)), .val (.ref o_MULTIPLY), .unset] [(.ref o_MULTIPLY)])) rfl (hb hby at_118)
    have c318 := F_o_LESS_ordinal.ext E1
    have ne319 : o_LESS ≠ b1 := (Nat.ne_of_lt (Nat.lt_of_lt_of_le E_o_LESS.lt sz_b1))
    have c320 := c318.other W7 (Or.inl ne319)
    have c321 := c320.other W15 (Or.inl ne319)
    have c322 := c321.other W25 (Or.inl ne319)
    have c323 := c322.other W37 (Or.inl ne319)
    have c324 := c323.other W51 (Or.inl ne319)
    have c325 := c324.other W67 (Or.inl ne319)
    have c326 := c325.other W85 (Or.inl ne319)
    have c327 := c326.other W105 (Or.inl ne319)
    have c328 := c327.other W127 (Or.inl ne319)
    have c329 := c328.other W151 (Or.inl ne319)
    have c330 := c329.other W177 (Or.inl ne319)
    have c331 := c330.other W205 (Or.inl ne319)
    have c332 := c331.other W235 (Or.inl ne319)
    have ne333 : o_MULTIPLY ≠ o_LESS := (c264.ne c332 (fun q => absurd (Value.int.inj q) (by decide)))
    have c334 := c58.wr W67
    have c335 := c334.wr W85
    have c336 := c335.wr W105
    have c337 := c336.wr W127
    have c338 := c337.wr W151
    have c339 := c338.wr W177
    have c340 := c339.wr W205
    have c341 := c340.wr W235
    obtain ⟨T342, X342, e342, st342⟩ := getS2 X317 hx hZ hown (host := "") (Or.inl (own_w14 hw)) Via.refl e317 c341 (g := (mkF m 125 #[.val (.int i0), .val (.ref b1), .val (.int (10 : Int32)), .val (.ref o_MULTIPLY), .unset] [(.ref o_MULTIPLY)])) rfl (hb hby at_125)
    have c343 := F_o_LESS_OR_EQUAL_ordinal.ext E1
    have ne344 : o_LESS_OR_EQUAL ≠ b1 := (Nat.ne_of_lt (Nat.lt_of_lt_of_le E_o_LESS_OR_EQUAL.lt sz_b1))
    have c345 := c343.other W7 (Or.inl ne344)
    have c346 := c345.other W15 (Or.inl ne344)
    have c347 := c346.other W25 (Or.inl ne344)
    have c348 := c347.other W37 (Or.inl ne344)
    have c349 := c348.other W51 (Or.inl ne344)
    have c350 := c349.other W67 (Or.inl ne344)
    have c351 := c350.other W85 (Or.inl ne344)
    have c352 := c351.other W105 (Or.inl ne344)
    have c353 := c352.other W127 (Or.inl ne344)
    have c354 := c353.other W151 (Or.inl ne344)
    have c355 := c354.other W177 (Or.inl ne344)
    have c356 := c355.other W205 (Or.inl ne344)
    have c357 := c356.other W235 (Or.inl ne344)
    have ne358 : o_MULTIPLY ≠ o_LESS_OR_EQUAL := (c264.ne c357 (fun q => absurd (Value.int.inj q) (by decide)))
    have c359 := c75.wr W85
    have c360 := c359.wr W105
    have c361 := c360.wr W127
    have c362 := c361.wr W151
    have c363 := c362.wr W177
    have c364 := c363.wr W205
    have c365 := c364.wr W235
    obtain ⟨T366, X366, e366, st366⟩ := getS2 X342 hx hZ hown (host := "") (Or.inl (own_w16 hw)) Via.refl e342 c365 (g := (mkF m 132 #[.val (.int i0), .val (.ref b1), .val (.int (10 : Int32)), .val (.ref o_MULTIPLY), .unset] [(.ref o_MULTIPLY)])) rfl (hb hby at_132)
    have c367 := F_o_GREATER_ordinal.ext E1
    have ne368 : o_GREATER ≠ b1 := (Nat.ne_of_lt (Nat.lt_of_lt_of_le E_o_GREATER.lt sz_b1))
    have c369 := c367.other W7 (Or.inl ne368)
    have c370 := c369.other W15 (Or.inl ne368)
    have c371 := c370.other W25 (Or.inl ne368)
    have c372 := c371.other W37 (Or.inl ne368)
    have c373 := c372.other W51 (Or.inl ne368)
    have c374 := c373.other W67 (Or.inl ne368)
    have c375 := c374.other W85 (Or.inl ne368)
    have c376 := c375.other W105 (Or.inl ne368)
    have c377 := c376.other W127 (Or.inl ne368)
    have c378 := c377.other W151 (Or.inl ne368)
    have c379 := c378.other W177 (Or.inl ne368)
    have c380 := c379.other W205 (Or.inl ne368)
    have c381 := c380.other W235 (Or.inl ne368)
    have ne382 : o_MULTIPLY ≠ o_GREATER := (c264.ne c381 (fun q => absurd (Value.int.inj q) (by decide)))
    have c383 := c94.wr W105
    have c384 := c383.wr W127
    have c385 := c384.wr W151
    have c386 := c385.wr W177
    have c387 := c386.wr W205
    have c388 := c387.wr W235
    obtain ⟨T389, X389, e389, st389⟩ := getS2 X366 hx hZ hown (host := "") (Or.inl (own_w18 hw)) Via.refl e366 c388 (g := (mkF m 139 #[.val (.int i0), .val (.ref b1), .val (.int (10 : Int32)), .val (.ref o_MULTIPLY), .unset] [(.ref o_MULTIPLY)])) rfl (hb hby at_139)
    have c390 := F_o_GREATER_OR_EQUAL_ordinal.ext E1
    have ne391 : o_GREATER_OR_EQUAL ≠ b1 := (Nat.ne_of_lt (Nat.lt_of_lt_of_le E_o_GREATER_OR_EQUAL.lt sz_b1))
    have c392 := c390.other W7 (Or.inl ne391)
    have c393 := c392.other W15 (Or.inl ne391)
    have c394 := c393.other W25 (Or.inl ne391)
    have c395 := c394.other W37 (Or.inl ne391)
    have c396 := c395.other W51 (Or.inl ne391)
    have c397 := c396.other W67 (Or.inl ne391)
    have c398 := c397.other W85 (Or.inl ne391)
    have c399 := c398.other W105 (Or.inl ne391)
    have c400 := c399.other W127 (Or.inl ne391)
    have c401 := c400.other W151 (Or.inl ne391)
    have c402 := c401.other W177 (Or.inl ne391)
    have c403 := c402.other W205 (Or.inl ne391)
    have c404 := c403.other W235 (Or.inl ne391)
    have ne405 : o_MULTIPLY ≠ o_GREATER_OR_EQUAL := (c264.ne c404 (fun q => absurd (Value.int.inj q) (by decide)))
    have c406 := c176.wr W177
    have c407 := c406.wr W205
    have c408 := c407.wr W235
    have c409 := F_o_MULTIPLY_precedence.ext E1
    have c410 := c409.other W7 (Or.inl ne251)
    have c411 := c410.other W15 (Or.inl ne251)
    have c412 := c411.other W25 (Or.inl ne251)
    have c413 := c412.other W37 (Or.inl ne251)
    have c414 := c413.other W51 (Or.inl ne251)
    have c415 := c414.other W67 (Or.inl ne251)
    have c416 := c415.other W85 (Or.inl ne251)
    have c417 := c416.other W105 (Or.inl ne251)
    have c418 := c417.other W127 (Or.inl ne251)
    have c419 := c418.other W151 (Or.inl ne251)
    have c420 := c419.other W177 (Or.inl ne251)
    have c421 := c420.other W205 (Or.inl ne251)
    have c422 := c421.other W235 (Or.inl ne251)
    have c423 := F_o_EQUAL_precedence.ext E1
    have c424 := c423.other W7 (Or.inl ne266)
    have c425 := c424.other W15 (Or.inl ne266)
    have c426 := c425.other W25 (Or.inl ne266)
    have c427 := c426.other W37 (Or.inl ne266)
    have c428 := c427.other W51 (Or.inl ne266)
    have c429 := c428.other W67 (Or.inl ne266)
    have c430 := c429.other W85 (Or.inl ne266)
    have c431 := c430.other W105 (Or.inl ne266)
    have c432 := c431.other W127 (Or.inl ne266)
    have c433 := c432.other W151 (Or.inl ne266)
    have c434 := c433.other W177 (Or.inl ne266)
    have c435 := c434.other W205 (Or.inl ne266)
    have c436 := c435.other W235 (Or.inl ne266)
    have c437 := F_o_LESS_precedence.ext E1
    have c438 := c437.other W7 (Or.inl ne319)
    have c439 := c438.other W15 (Or.inl ne319)
    have c440 := c439.other W25 (Or.inl ne319)
    have c441 := c440.other W37 (Or.inl ne319)
    have c442 := c441.other W51 (Or.inl ne319)
    have c443 := c442.other W67 (Or.inl ne319)
    have c444 := c443.other W85 (Or.inl ne319)
    have c445 := c444.other W105 (Or.inl ne319)
    have c446 := c445.other W127 (Or.inl ne319)
    have c447 := c446.other W151 (Or.inl ne319)
    have c448 := c447.other W177 (Or.inl ne319)
    have c449 := c448.other W205 (Or.inl ne319)
    have c450 := c449.other W235 (Or.inl ne319)
    obtain ⟨cq451, kq451, q451a, q451b, q451c⟩ := isOf hZ e389 c408
    obtain ⟨_, _, ⟨T451, L451, k451, n451⟩, -, X451, ⟨Lc451, hQ451, l451, y451, z451⟩, st451⟩ := X389.virtualBack hx (y := (⟨"com/example/treelational/treelational/xpath/Operator", "isComparison", "()Z"⟩ : MethodName)) (z := (⟨"com/example/treelational/treelational/xpath/Operator", "isComparison", "()Z"⟩ : MethodName)) hown (mvT hZ (own_w31 hw)) (mvT hZ (own_w32 hw)) (notFace_of_selects (args := #[]) (mvT hZ (own_w34 hw))) (mvT hZ (own_w34 hw)) (mvT hZ (own_w33 hw)) (by decide) (backOf (W := 0) (rm1_8 l Z a0 hw [] o_MULTIPLY o_EQUAL o_LESS h235 n0 (Nat.le_trans Z0 KC236.1) c422 c248 c436 c316 c450) hZ (own_w35 hw) (own_w3 hw) (by decide) (by decide)) q451a q451c (g := (mkF m 153 #[.val (.int i0), .val (.ref b1), .val (.int (10 : Int32)), .val (.ref o_MULTIPLY), .val (.int (0 : Int32))] [(.ref o_MULTIPLY)])) rfl (by rw [hml]; rfl) (Steps.refl _) (argsL := []) (rest := []) (lenOf pd___Z rfl) rfl (by show 2 * 0 + _ ≤ _; exact Nat.le_of_eq rfl) (hb hby at_153) (fun _ _ => ⟨rfl, e389, (by decide : 1 + 0 ≤ _), (by decide : 13 + 0 ≤ _)⟩)
    dsimp only [Pt.U, Pt.locs, Pt.cells, Pt.slots] at X451 l451 y451 z451 st451 hQ451
    subst l451 y451 z451
    obtain ⟨rfl, N451q, e451⟩ := hQ451
    have N451 := Fr.app N235 N451q
    obtain ⟨fs, hr, hrun, hended, hW, hsame⟩ := X451.leave (v := some (.int (1 : Int32))) (fun h => by rw [Bd.returns] at h; cases h)
    refine ⟨_, _, pre1 _ ?_, hrun, hended, _, _, rfl, ⟨rfl, N451⟩, ⟨_, rfl⟩, hW, hsame.mono (by decide) (by decide)⟩
    show Steps p.tables e below (T235.setTop (mkF m 98 #[.val (.int i0), .val (.ref b1), .unset, .unset, .unset] [(.int ((i0 &&& (2147483647 : Int32)) % (13 : Int32)))])) _
    rw [he0]
    show Steps p.tables e below (T235.setTop (mkF m 98 #[.val (.int i0), .val (.ref b1), .unset, .unset, .unset] [(.int (10 : Int32))])) _
    refine XS.istoreN X235.here hx rfl (hb hby at_98) rfl (l' := #[.val (.int i0), .val (.ref b1), .val (.int (10 : Int32)), .unset, .unset]) rfl ?_
    show Steps p.tables e below (T235.setTop (mkF m 99 #[.val (.int i0), .val (.ref b1), .val (.int (10 : Int32)), .unset, .unset] [])) _
    refine XS.aloadN X235.here hx rfl (hb hby at_99) rfl rfl ?_
    show Steps p.tables e below (T235.setTop (mkF m 100 #[.val (.int i0), .val (.ref b1), .val (.int (10 : Int32)), .unset, .unset] [(.ref b1)])) _
    refine XS.iloadN X235.here hx rfl (hb hby at_100) rfl ?_
    show Steps p.tables e below (T235.setTop (mkF m 101 #[.val (.int i0), .val (.ref b1), .val (.int (10 : Int32)), .unset, .unset] [(.int (10 : Int32)), (.ref b1)])) _
    refine X235.aaload hx (j := (10 : Int32)) (v := (.ref o_MULTIPLY)) (by rw [e235]; exact Ar237.1) (State.isArrayOf_alike hZ.alike Ar237.2.1) rfl Ar237.2.2 hin237 hat237 (g := (mkF m 101 #[.val (.int i0), .val (.ref b1), .val (.int (10 : Int32)), .unset, .unset] [(.int (10 : Int32)), (.ref b1)])) rfl rfl (hb hby at_101) _ ?_
    show Steps p.tables e below (T235.setTop (mkF m 102 #[.val (.int i0), .val (.ref b1), .val (.int (10 : Int32)), .unset, .unset] [(.ref o_MULTIPLY)])) _
    refine XS.astoreN X235.here hx rfl (hb hby at_102) rfl rfl (l' := #[.val (.int i0), .val (.ref b1), .val (.int (10 : Int32)), .val (.ref o_MULTIPLY), .unset]) rfl ?_
    show Steps p.tables e below (T235.setTop (mkF m 103 #[.val (.int i0), .val (.ref b1), .val (.int (10 : Int32)), .val (.ref o_MULTIPLY), .unset] [])) _
    refine XS.aloadN X235.here hx rfl (hb hby at_103) rfl rfl ?_
    show Steps p.tables e below (T235.setTop (mkF m 104 #[.val (.int i0), .val (.ref b1), .val (.int (10 : Int32)), .val (.ref o_MULTIPLY), .unset] [(.ref o_MULTIPLY)])) _
    refine st249 _ ?_
    show Steps p.tables e below (T249.setTop (mkF m 107 #[.val (.int i0), .val (.ref b1), .val (.int (10 : Int32)), .val (.ref o_MULTIPLY), .unset] [(.ref o_EQUAL), (.ref o_MULTIPLY)])) _
    refine Jvm.RoadKit.acmp (g := (mkF m 107 #[.val (.int i0), .val (.ref b1), .val (.int (10 : Int32)), .val (.ref o_MULTIPLY), .unset] [(.ref o_EQUAL), (.ref o_MULTIPLY)])) X249 hx rfl rfl rfl (pc0 := 107) (pc' := 110) (same := false) rfl (hb hby at_107) rfl (decide_eq_false fun q => ne280 (Value.ref.inj q)) (by decide) (by decide) ?_
    show Steps p.tables e below (T249.setTop (mkF m 110 #[.val (.int i0), .val (.ref b1), .val (.int (10 : Int32)), .val (.ref o_MULTIPLY), .unset] [])) _
    refine XS.aloadN X249.here hx rfl (hb hby at_110) rfl rfl ?_
    show Steps p.tables e below (T249.setTop (mkF m 111 #[.val (.int i0), .val (.ref b1), .val (.int (10 : Int32)), .val (.ref o_MULTIPLY), .unset] [(.ref o_MULTIPLY)])) _
    refine st291 _ ?_
    show Steps p.tables e below (T291.setTop (mkF m 114 #[.val (.int i0), .val (.ref b1), .val (.int (10 : Int32)), .val (.ref o_MULTIPLY), .unset] [(.ref o_NOT_EQUAL), (.ref o_MULTIPLY)])) _
    refine Jvm.RoadKit.acmp (g := (mkF m 114 #[.val (.int i0), .val (.ref b1), .val (.int (10 : Int32)), .val (.ref o_MULTIPLY), .unset] [(.ref o_NOT_EQUAL), (.ref o_MULTIPLY)])) X291 hx rfl rfl rfl (pc0 := 114) (pc' := 117) (same := false) rfl (hb hby at_114) rfl (decide_eq_false fun q => ne307 (Value.ref.inj q)) (by decide) (by decide) ?_
    show Steps p.tables e below (T291.setTop (mkF m 117 #[.val (.int i0), .val (.ref b1), .val (.int (10 : Int32)), .val (.ref o_MULTIPLY), .unset] [])) _
    refine XS.aloadN X291.here hx rfl (hb hby at_117) rfl rfl ?_
    show Steps p.tables e below (T291.setTop (mkF m 118 #[.val (.int i0), .val (.ref b1), .val (.int (10 : Int32)), .val (.ref o_MULTIPLY), .unset] [(.ref o_MULTIPLY)])) _
    refine st317 _ ?_
    show Steps p.tables e below (T317.setTop (mkF m 121 #[.val (.int i0), .val (.ref b1), .val (.int (10 : Int32)), .val (.ref o_MULTIPLY), .unset] [(.ref o_LESS), (.ref o_MULTIPLY)])) _
    refine Jvm.RoadKit.acmp (g := (mkF m 121 #[.val (.int i0), .val (.ref b1), .val (.int (10 : Int32)), .val (.ref o_MULTIPLY), .unset] [(.ref o_LESS), (.ref o_MULTIPLY)])) X317 hx rfl rfl rfl (pc0 := 121) (pc' := 124) (same := false) rfl (hb hby at_121) rfl (decide_eq_false fun q => ne333 (Value.ref.inj q)) (by decide) (by decide) ?_
    show Steps p.tables e below (T317.setTop (mkF m 124 #[.val (.int i0), .val (.ref b1), .val (.int (10 : Int32)), .val (.ref o_MULTIPLY), .unset] [])) _
    refine XS.aloadN X317.here hx rfl (hb hby at_124) rfl rfl ?_
    show Steps p.tables e below (T317.setTop (mkF m 125 #[.val (.int i0), .val (.ref b1), .val (.int (10 : Int32)), .val (.ref o_MULTIPLY), .unset] [(.ref o_MULTIPLY)])) _
    refine st342 _ ?_
    show Steps p.tables e below (T342.setTop (mkF m 128 #[.val (.int i0), .val (.ref b1), .val (.int (10 : Int32)), .val (.ref o_MULTIPLY), .unset] [(.ref o_LESS_OR_EQUAL), (.ref o_MULTIPLY)])) _
    refine Jvm.RoadKit.acmp (g := (mkF m 128 #[.val (.int i0), .val (.ref b1), .val (.int (10 : Int32)), .val (.ref o_MULTIPLY), .unset] [(.ref o_LESS_OR_EQUAL), (.ref o_MULTIPLY)])) X342 hx rfl rfl rfl (pc0 := 128) (pc' := 131) (same := false) rfl (hb hby at_128) rfl (decide_eq_false fun q => ne358 (Value.ref.inj q)) (by decide) (by decide) ?_
    show Steps p.tables e below (T342.setTop (mkF m 131 #[.val (.int i0), .val (.ref b1), .val (.int (10 : Int32)), .val (.ref o_MULTIPLY), .unset] [])) _
    refine XS.aloadN X342.here hx rfl (hb hby at_131) rfl rfl ?_
    show Steps p.tables e below (T342.setTop (mkF m 132 #[.val (.int i0), .val (.ref b1), .val (.int (10 : Int32)), .val (.ref o_MULTIPLY), .unset] [(.ref o_MULTIPLY)])) _
    refine st366 _ ?_
    show Steps p.tables e below (T366.setTop (mkF m 135 #[.val (.int i0), .val (.ref b1), .val (.int (10 : Int32)), .val (.ref o_MULTIPLY), .unset] [(.ref o_GREATER), (.ref o_MULTIPLY)])) _
    refine Jvm.RoadKit.acmp (g := (mkF m 135 #[.val (.int i0), .val (.ref b1), .val (.int (10 : Int32)), .val (.ref o_MULTIPLY), .unset] [(.ref o_GREATER), (.ref o_MULTIPLY)])) X366 hx rfl rfl rfl (pc0 := 135) (pc' := 138) (same := false) rfl (hb hby at_135) rfl (decide_eq_false fun q => ne382 (Value.ref.inj q)) (by decide) (by decide) ?_
    show Steps p.tables e below (T366.setTop (mkF m 138 #[.val (.int i0), .val (.ref b1), .val (.int (10 : Int32)), .val (.ref o_MULTIPLY), .unset] [])) _
    refine XS.aloadN X366.here hx rfl (hb hby at_138) rfl rfl ?_
    show Steps p.tables e below (T366.setTop (mkF m 139 #[.val (.int i0), .val (.ref b1), .val (.int (10 : Int32)), .val (.ref o_MULTIPLY), .unset] [(.ref o_MULTIPLY)])) _
    refine st389 _ ?_
    show Steps p.tables e below (T389.setTop (mkF m 142 #[.val (.int i0), .val (.ref b1), .val (.int (10 : Int32)), .val (.ref o_MULTIPLY), .unset] [(.ref o_GREATER_OR_EQUAL), (.ref o_MULTIPLY)])) _
    refine Jvm.RoadKit.acmp (g := (mkF m 142 #[.val (.int i0), .val (.ref b1), .val (.int (10 : Int32)), .val (.ref o_MULTIPLY), .unset] [(.ref o_GREATER_OR_EQUAL), (.ref o_MULTIPLY)])) X389 hx rfl rfl rfl (pc0 := 142) (pc' := 149) (same := false) rfl (hb hby at_142) rfl (decide_eq_false fun q => ne405 (Value.ref.inj q)) (by decide) (by decide) ?_
    show Steps p.tables e below (T389.setTop (mkF m 149 #[.val (.int i0), .val (.ref b1), .val (.int (10 : Int32)), .val (.ref o_MULTIPLY), .unset] [])) _
    refine XS.iconst X389.here hx rfl (hb hby at_149) ?_
    show Steps p.tables e below (T389.setTop (mkF m 150 #[.val (.int i0), .val (.ref b1), .val (.int (10 : Int32)), .val (.ref o_MULTIPLY), .unset] [(.int (0 : Int32))])) _
    refine XS.istore X389.here hx rfl (hb hby at_150) rfl (l' := #[.val (.int i0), .val (.ref b1), .val (.int (10 : Int32)), .val (.ref o_MULTIPLY), .val (.int (0 : Int32))]) rfl ?_
    show Steps p.tables e below (T389.setTop (mkF m 152 #[.val (.int i0), .val (.ref b1), .val (.int (10 : Int32)), .val (.ref o_MULTIPLY), .val (.int (0 : Int32))] [])) _
    refine XS.aloadN X389.here hx rfl (hb hby at_152) rfl rfl ?_
    show Steps p.tables e below (T389.setTop (mkF m 153 #[.val (.int i0), .val (.ref b1), .val (.int (10 : Int32)), .val (.ref o_MULTIPLY), .val (.int (0 : Int32))] [(.ref o_MULTIPLY)])) _
    refine st451.trans ?_
    show Steps p.tables e below (T451.setTop (mkF m 156 #[.val (.int i0), .val (.ref b1), .val (.int (10 : Int32)), .val (.ref o_MULTIPLY), .val (.int (0 : Int32))] [(.int (0 : Int32))])) _
    refine XS.iload X451.here hx rfl (hb hby at_156) rfl ?_
    show Steps p.tables e below (T451.setTop (mkF m 158 #[.val (.int i0), .val (.ref b1), .val (.int (10 : Int32)), .val (.ref o_MULTIPLY), .val (.int (0 : Int32))] [(.int (0 : Int32)), (.int (0 : Int32))])) _
    refine XS.icmpNo X451.here hx rfl (hb hby at_158) rfl (teq (by decide : (0 : Int32) = (0 : Int32))).2 ?_
    show Steps p.tables e below (T451.setTop (mkF m 161 #[.val (.int i0), .val (.ref b1), .val (.int (10 : Int32)), .val (.ref o_MULTIPLY), .val (.int (0 : Int32))] [])) _
    refine XS.iconst X451.here hx rfl (hb hby at_161) ?_
    show Steps p.tables e below (T451.setTop (mkF m 162 #[.val (.int i0), .val (.ref b1), .val (.int (10 : Int32)), .val (.ref o_MULTIPLY), .val (.int (0 : Int32))] [(.int (1 : Int32))])) _
    refine XS.goto X451.here hx rfl (pc0 := 162) (pc' := 166) rfl (hb hby at_162) (by decide) (by decide) ?_
    show Steps p.tables e below (T451.setTop (mkF m 166 #[.val (.int i0), .val (.ref b1), .val (.int (10 : Int32)), .val (.ref o_MULTIPLY), .val (.int (0 : Int32))] [(.int (1 : Int32))])) _
    exact retN X451 hx (t := .boolean) Bd.returns (by simp) (hb hby at_166) hr
  · obtain ⟨cl237, Ar237, qk237, Sz237, Ng237, Ha237, Gf237⟩ := V235
    have hin237 : ¬ ((11 : Int32) < 0 ∨ cl237.slots.size ≤ ((11 : Int32)).toNatClampNeg) := inb_of Sz237 ⟨by decide, by decide⟩
    have hat237 : cl237.slots[((11 : Int32)).toNatClampNeg]? = some (.ref o_DIVIDE) := Has.at Ha237 hin237 rfl
    have c238 := c19.wr W25
    have c239 := c238.wr W37
    have c240 := c239.wr W51
    have c241 := c240.wr W67
    have c242 := c241.wr W85
    have c243 := c242.wr W105
    have c244 := c243.wr W127
    have c245 := c244.wr W151
    have c246 := c245.wr W177
    have c247 := c246.wr W205
    have c248 := c247.wr W235
    obtain ⟨T249, X249, e249, st249⟩ := getS2 X235 hx hZ hown (host := "") (Or.inl (own_w8 hw)) Via.refl e235 c248 (g := (mkF m 104 #[.val (.int i0), .val (.ref b1), .val (.int (11 : Int32)), .val (.ref o_DIVIDE), .unset] [(.ref o_DIVIDE)])) rfl (hb hby at_104)
    have c250 := F_o_DIVIDE_ordinal.ext E1
    have ne251 : o_DIVIDE ≠ b1 := (Nat.ne_of_lt (Nat.lt_of_lt_of_le E_o_DIVIDE.lt sz_b1))
    have c252 := c250.other W7 (Or.inl ne251)
    have c253 := c252.other W15 (Or.inl ne251)
    have c254 := c253.other W25 (Or.inl ne251)
    have c255 := c254.other W37 (Or.inl ne251)
    have c256 := c255.other W51 (Or.inl ne251)
    have c257 := c256.other W67 (Or.inl ne251)
    have c258 := c257.other W85 (Or.inl ne251)
    have c259 := c258.other W105 (Or.inl ne251)
    have c260 := c259.other W127 (Or.inl ne251)
    have c261 := c260.other W151 (Or.inl ne251)
    have c262 := c261.other W177 (Or.inl ne251)
    have c263 := c262.other W205 (Or.inl ne251)
    have c264 := c263.other W235 (Or.inl ne251)
    have c265 := F_o_EQUAL_ordinal.ext E1
    have ne266 : o_EQUAL ≠ b1 := (Nat.ne_of_lt (Nat.lt_of_lt_of_le E_o_EQUAL.lt sz_b1))
    have c267 := c265.other W7 (Or.inl ne266)
    have c268 := c267.other W15 (Or.inl ne266)
    have c269 := c268.other W25 (Or.inl ne266)
    have c270 := c269.other W37 (Or.inl ne266)
    have c271 := c270.other W51 (Or.inl ne266)
    have c272 := c271.other W67 (Or.inl ne266)
    have c273 := c272.other W85 (Or.inl ne266)
    have c274 := c273.other W105 (Or.inl ne266)
    have c275 := c274.other W127 (Or.inl ne266)
    have c276 := c275.other W151 (Or.inl ne266)
    have c277 := c276.other W177 (Or.inl ne266)
    have c278 := c277.other W205 (Or.inl ne266)
    have c279 := c278.other W235 (Or.inl ne266)
    have ne280 : o_DIVIDE ≠ o_EQUAL := (c264.ne c279 (fun q => absurd (Value.int.inj q) (by decide)))
    have c281 := c30.wr W37
    have c282 := c281.wr W51
    have c283 := c282.wr W67
    have c284 := c283.wr W85
    have c285 := c284.wr W105
    have c286 := c285.wr W127
    have c287 := c286.wr W151
    have c288 := c287.wr W177
    have c289 := c288.wr W205
    have c290 := c289.wr W235
    obtain ⟨T291, X291, e291, st291⟩ := getS2 X249 hx hZ hown (host := "") (Or.inl (own_w10 hw)) Via.refl e249 c290 (g := (mkF m 111 #[.val (.int i0), .val (.ref b1), .val (.int (11 : Int32)), .val (.ref o_DIVIDE), .unset] [(.ref o_DIVIDE)])) rfl (hb hby at_111)
    have c292 := F_o_NOT_EQUAL_ordinal.ext E1
    have ne293 : o_NOT_EQUAL ≠ b1 := (Nat.ne_of_lt (Nat.lt_of_lt_of_le E_o_NOT_EQUAL.lt sz_b1))
    have c294 := c292.other W7 (Or.inl ne293)
    have c295 := c294.other W15 (Or.inl ne293)
    have c296 := c295.other W25 (Or.inl ne293)
    have c297 := c296.other W37 (Or.inl ne293)
    have c298 := c297.other W51 (Or.inl ne293)
    have c299 := c298.other W67 (Or.inl ne293)
    have c300 := c299.other W85 (Or.inl ne293)
    have c301 := c300.other W105 (Or.inl ne293)
    have c302 := c301.other W127 (Or.inl ne293)
    have c303 := c302.other W151 (Or.inl ne293)
    have c304 := c303.other W177 (Or.inl ne293)
    have c305 := c304.other W205 (Or.inl ne293)
    have c306 := c305.other W235 (Or.inl ne293)
    have ne307 : o_DIVIDE ≠ o_NOT_EQUAL := (c264.ne c306 (fun q => absurd (Value.int.inj q) (by decide)))
    have c308 := c43.wr W51
    have c309 := c308.wr W67
    have c310 := c309.wr W85
    have c311 := c310.wr W105
    have c312 := c311.wr W127
    have c313 := c312.wr W151
    have c314 := c313.wr W177
    have c315 := c314.wr W205
    have c316 := c315.wr W235
    obtain ⟨T317, X317, e317, st317⟩ := getS2 X291 hx hZ hown (host := "") (Or.inl (own_w12 hw)) Via.refl e291 c316 (g := (mkF m 118 #[.val (.int i0), .val (.ref b1), .val (.int (11 : Int32)), .val (.ref o_DIVIDE), .unset] [(.ref o_DIVIDE)])) rfl (hb hby at_118)
    have c318 := F_o_LESS_ordinal.ext E1
    have ne319 : o_LESS ≠ b1 := (Nat.ne_of_lt (Nat.lt_of_lt_of_le E_o_LESS.lt sz_b1))
    have c320 := c318.other W7 (Or.inl ne319)
    have c321 := c320.other W15 (Or.inl ne319)
    have c322 := c321.other W25 (Or.inl ne319)
    have c323 := c322.other W37 (Or.inl ne319)
    have c324 := c323.other W51 (Or.inl ne319)
    have c325 := c324.other W67 (Or.inl ne319)
    have c326 := c325.other W85 (Or.inl ne319)
    have c327 := c326.other W105 (Or.inl ne319)
    have c328 := c327.other W127 (Or.inl ne319)
    have c329 := c328.other W151 (Or.inl ne319)
    have c330 := c329.other W177 (Or.inl ne319)
    have c331 := c330.other W205 (Or.inl ne319)
    have c332 := c331.other W235 (Or.inl ne319)
    have ne333 : o_DIVIDE ≠ o_LESS := (c264.ne c332 (fun q => absurd (Value.int.inj q) (by decide)))
    have c334 := c58.wr W67
    have c335 := c334.wr W85
    have c336 := c335.wr W105
    have c337 := c336.wr W127
    have c338 := c337.wr W151
    have c339 := c338.wr W177
    have c340 := c339.wr W205
    have c341 := c340.wr W235
    obtain ⟨T342, X342, e342, st342⟩ := getS2 X317 hx hZ hown (host := "") (Or.inl (own_w14 hw)) Via.refl e317 c341 (g := (mkF m 125 #[.val (.int i0), .val (.ref b1), .val (.int (11 : Int32)), .val (.ref o_DIVIDE), .unset] [(.ref o_DIVIDE)])) rfl (hb hby at_125)
    have c343 := F_o_LESS_OR_EQUAL_ordinal.ext E1
    have ne344 : o_LESS_OR_EQUAL ≠ b1 := (Nat.ne_of_lt (Nat.lt_of_lt_of_le E_o_LESS_OR_EQUAL.lt sz_b1))
    have c345 := c343.other W7 (Or.inl ne344)
    have c346 := c345.other W15 (Or.inl ne344)
    have c347 := c346.other W25 (Or.inl ne344)
    have c348 := c347.other W37 (Or.inl ne344)
    have c349 := c348.other W51 (Or.inl ne344)
    have c350 := c349.other W67 (Or.inl ne344)
    have c351 := c350.other W85 (Or.inl ne344)
    have c352 := c351.other W105 (Or.inl ne344)
    have c353 := c352.other W127 (Or.inl ne344)
    have c354 := c353.other W151 (Or.inl ne344)
    have c355 := c354.other W177 (Or.inl ne344)
    have c356 := c355.other W205 (Or.inl ne344)
    have c357 := c356.other W235 (Or.inl ne344)
    have ne358 : o_DIVIDE ≠ o_LESS_OR_EQUAL := (c264.ne c357 (fun q => absurd (Value.int.inj q) (by decide)))
    have c359 := c75.wr W85
    have c360 := c359.wr W105
    have c361 := c360.wr W127
    have c362 := c361.wr W151
    have c363 := c362.wr W177
    have c364 := c363.wr W205
    have c365 := c364.wr W235
    obtain ⟨T366, X366, e366, st366⟩ := getS2 X342 hx hZ hown (host := "") (Or.inl (own_w16 hw)) Via.refl e342 c365 (g := (mkF m 132 #[.val (.int i0), .val (.ref b1), .val (.int (11 : Int32)), .val (.ref o_DIVIDE), .unset] [(.ref o_DIVIDE)])) rfl (hb hby at_132)
    have c367 := F_o_GREATER_ordinal.ext E1
    have ne368 : o_GREATER ≠ b1 := (Nat.ne_of_lt (Nat.lt_of_lt_of_le E_o_GREATER.lt sz_b1))
    have c369 := c367.other W7 (Or.inl ne368)
    have c370 := c369.other W15 (Or.inl ne368)
    have c371 := c370.other W25 (Or.inl ne368)
    have c372 := c371.other W37 (Or.inl ne368)
    have c373 := c372.other W51 (Or.inl ne368)
    have c374 := c373.other W67 (Or.inl ne368)
    have c375 := c374.other W85 (Or.inl ne368)
    have c376 := c375.other W105 (Or.inl ne368)
    have c377 := c376.other W127 (Or.inl ne368)
    have c378 := c377.other W151 (Or.inl ne368)
    have c379 := c378.other W177 (Or.inl ne368)
    have c380 := c379.other W205 (Or.inl ne368)
    have c381 := c380.other W235 (Or.inl ne368)
    have ne382 : o_DIVIDE ≠ o_GREATER := (c264.ne c381 (fun q => absurd (Value.int.inj q) (by decide)))
    have c383 := c94.wr W105
    have c384 := c383.wr W127
    have c385 := c384.wr W151
    have c386 := c385.wr W177
    have c387 := c386.wr W205
    have c388 := c387.wr W235
    obtain ⟨T389, X389, e389, st389⟩ := getS2 X366 hx hZ hown (host := "") (Or.inl (own_w18 hw)) Via.refl e366 c388 (g := (mkF m 139 #[.val (.int i0), .val (.ref b1), .val (.int (11 : Int32)), .val (.ref o_DIVIDE), .unset] [(.ref o_DIVIDE)])) rfl (hb hby at_139)
    have c390 := F_o_GREATER_OR_EQUAL_ordinal.ext E1
    have ne391 : o_GREATER_OR_EQUAL ≠ b1 := (Nat.ne_of_lt (Nat.lt_of_lt_of_le E_o_GREATER_OR_EQUAL.lt sz_b1))
    have c392 := c390.other W7 (Or.inl ne391)
    have c393 := c392.other W15 (Or.inl ne391)
    have c394 := c393.other W25 (Or.inl ne391)
    have c395 := c394.other W37 (Or.inl ne391)
    have c396 := c395.other W51 (Or.inl ne391)
    have c397 := c396.other W67 (Or.inl ne391)
    have c398 := c397.other W85 (Or.inl ne391)
    have c399 := c398.other W105 (Or.inl ne391)
    have c400 := c399.other W127 (Or.inl ne391)
    have c401 := c400.other W151 (Or.inl ne391)
    have c402 := c401.other W177 (Or.inl ne391)
    have c403 := c402.other W205 (Or.inl ne391)
    have c404 := c403.other W235 (Or.inl ne391)
    have ne405 : o_DIVIDE ≠ o_GREATER_OR_EQUAL := (c264.ne c404 (fun q => absurd (Value.int.inj q) (by decide)))
    have c406 := c204.wr W205
    have c407 := c406.wr W235
    have c408 := F_o_DIVIDE_precedence.ext E1
    have c409 := c408.other W7 (Or.inl ne251)
    have c410 := c409.other W15 (Or.inl ne251)
    have c411 := c410.other W25 (Or.inl ne251)
    have c412 := c411.other W37 (Or.inl ne251)
    have c413 := c412.other W51 (Or.inl ne251)
    have c414 := c413.other W67 (Or.inl ne251)
    have c415 := c414.other W85 (Or.inl ne251)
    have c416 := c415.other W105 (Or.inl ne251)
    have c417 := c416.other W127 (Or.inl ne251)
    have c418 := c417.other W151 (Or.inl ne251)
    have c419 := c418.other W177 (Or.inl ne251)
    have c420 := c419.other W205 (Or.inl ne251)
    have c421 := c420.other W235 (Or.inl ne251)
    have c422 := F_o_EQUAL_precedence.ext E1
    have c423 := c422.other W7 (Or.inl ne266)
    have c424 := c423.other W15 (Or.inl ne266)
    have c425 := c424.other W25 (Or.inl ne266)
    have c426 := c425.other W37 (Or.inl ne266)
    have c427 := c426.other W51 (Or.inl ne266)
    have c428 := c427.other W67 (Or.inl ne266)
    have c429 := c428.other W85 (Or.inl ne266)
    have c430 := c429.other W105 (Or.inl ne266)
    have c431 := c430.other W127 (Or.inl ne266)
    have c432 := c431.other W151 (Or.inl ne266)
    have c433 := c432.other W177 (Or.inl ne266)
    have c434 := c433.other W205 (Or.inl ne266)
    have c435 := c434.other W235 (Or.inl ne266)
    have c436 := F_o_LESS_precedence.ext E1
    have c437 := c436.other W7 (Or.inl ne319)
    have c438 := c437.other W15 (Or.inl ne319)
    have c439 := c438.other W25 (Or.inl ne319)
    have c440 := c439.other W37 (Or.inl ne319)
    have c441 := c440.other W51 (Or.inl ne319)
    have c442 := c441.other W67 (Or.inl ne319)
    have c443 := c442.other W85 (Or.inl ne319)
    have c444 := c443.other W105 (Or.inl ne319)
    have c445 := c444.other W127 (Or.inl ne319)
    have c446 := c445.other W151 (Or.inl ne319)
    have c447 := c446.other W177 (Or.inl ne319)
    have c448 := c447.other W205 (Or.inl ne319)
    have c449 := c448.other W235 (Or.inl ne319)
    obtain ⟨cq450, kq450, q450a, q450b, q450c⟩ := isOf hZ e389 c407
    obtain ⟨_, _, ⟨T450, L450, k450, n450⟩, -, X450, ⟨Lc450, hQ450, l450, y450, z450⟩, st450⟩ := X389.virtualBack hx (y := (⟨"com/example/treelational/treelational/xpath/Operator", "isComparison", "()Z"⟩ : MethodName)) (z := (⟨"com/example/treelational/treelational/xpath/Operator", "isComparison", "()Z"⟩ : MethodName)) hown (mvT hZ (own_w31 hw)) (mvT hZ (own_w32 hw)) (notFace_of_selects (args := #[]) (mvT hZ (own_w34 hw))) (mvT hZ (own_w34 hw)) (mvT hZ (own_w33 hw)) (by decide) (backOf (W := 0) (rm1_8 l Z a0 hw [] o_DIVIDE o_EQUAL o_LESS h235 n0 (Nat.le_trans Z0 KC236.1) c421 c248 c435 c316 c449) hZ (own_w35 hw) (own_w3 hw) (by decide) (by decide)) q450a q450c (g := (mkF m 153 #[.val (.int i0), .val (.ref b1), .val (.int (11 : Int32)), .val (.ref o_DIVIDE), .val (.int (0 : Int32))] [(.ref o_DIVIDE)])) rfl (by rw [hml]; rfl) (Steps.refl _) (argsL := []) (rest := []) (lenOf pd___Z rfl) rfl (by show 2 * 0 + _ ≤ _; exact Nat.le_of_eq rfl) (hb hby at_153) (fun _ _ => ⟨rfl, e389, (by decide : 1 + 0 ≤ _), (by decide : 13 + 0 ≤ _)⟩)
    dsimp only [Pt.U, Pt.locs, Pt.cells, Pt.slots] at X450 l450 y450 z450 st450 hQ450
    subst l450 y450 z450
    obtain ⟨rfl, N450q, e450⟩ := hQ450
    have N450 := Fr.app N235 N450q
    obtain ⟨fs, hr, hrun, hended, hW, hsame⟩ := X450.leave (v := some (.int (1 : Int32))) (fun h => by rw [Bd.returns] at h; cases h)
    refine ⟨_, _, pre1 _ ?_, hrun, hended, _, _, rfl, ⟨rfl, N450⟩, ⟨_, rfl⟩, hW, hsame.mono (by decide) (by decide)⟩
    show Steps p.tables e below (T235.setTop (mkF m 98 #[.val (.int i0), .val (.ref b1), .unset, .unset, .unset] [(.int ((i0 &&& (2147483647 : Int32)) % (13 : Int32)))])) _
    rw [he0]
    show Steps p.tables e below (T235.setTop (mkF m 98 #[.val (.int i0), .val (.ref b1), .unset, .unset, .unset] [(.int (11 : Int32))])) _
    refine XS.istoreN X235.here hx rfl (hb hby at_98) rfl (l' := #[.val (.int i0), .val (.ref b1), .val (.int (11 : Int32)), .unset, .unset]) rfl ?_
    show Steps p.tables e below (T235.setTop (mkF m 99 #[.val (.int i0), .val (.ref b1), .val (.int (11 : Int32)), .unset, .unset] [])) _
    refine XS.aloadN X235.here hx rfl (hb hby at_99) rfl rfl ?_
    show Steps p.tables e below (T235.setTop (mkF m 100 #[.val (.int i0), .val (.ref b1), .val (.int (11 : Int32)), .unset, .unset] [(.ref b1)])) _
    refine XS.iloadN X235.here hx rfl (hb hby at_100) rfl ?_
    show Steps p.tables e below (T235.setTop (mkF m 101 #[.val (.int i0), .val (.ref b1), .val (.int (11 : Int32)), .unset, .unset] [(.int (11 : Int32)), (.ref b1)])) _
    refine X235.aaload hx (j := (11 : Int32)) (v := (.ref o_DIVIDE)) (by rw [e235]; exact Ar237.1) (State.isArrayOf_alike hZ.alike Ar237.2.1) rfl Ar237.2.2 hin237 hat237 (g := (mkF m 101 #[.val (.int i0), .val (.ref b1), .val (.int (11 : Int32)), .unset, .unset] [(.int (11 : Int32)), (.ref b1)])) rfl rfl (hb hby at_101) _ ?_
    show Steps p.tables e below (T235.setTop (mkF m 102 #[.val (.int i0), .val (.ref b1), .val (.int (11 : Int32)), .unset, .unset] [(.ref o_DIVIDE)])) _
    refine XS.astoreN X235.here hx rfl (hb hby at_102) rfl rfl (l' := #[.val (.int i0), .val (.ref b1), .val (.int (11 : Int32)), .val (.ref o_DIVIDE), .unset]) rfl ?_
    show Steps p.tables e below (T235.setTop (mkF m 103 #[.val (.int i0), .val (.ref b1), .val (.int (11 : Int32)), .val (.ref o_DIVIDE), .unset] [])) _
    refine XS.aloadN X235.here hx rfl (hb hby at_103) rfl rfl ?_
    show Steps p.tables e below (T235.setTop (mkF m 104 #[.val (.int i0), .val (.ref b1), .val (.int (11 : Int32)), .val (.ref o_DIVIDE), .unset] [(.ref o_DIVIDE)])) _
    refine st249 _ ?_
    show Steps p.tables e below (T249.setTop (mkF m 107 #[.val (.int i0), .val (.ref b1), .val (.int (11 : Int32)), .val (.ref o_DIVIDE), .unset] [(.ref o_EQUAL), (.ref o_DIVIDE)])) _
    refine Jvm.RoadKit.acmp (g := (mkF m 107 #[.val (.int i0), .val (.ref b1), .val (.int (11 : Int32)), .val (.ref o_DIVIDE), .unset] [(.ref o_EQUAL), (.ref o_DIVIDE)])) X249 hx rfl rfl rfl (pc0 := 107) (pc' := 110) (same := false) rfl (hb hby at_107) rfl (decide_eq_false fun q => ne280 (Value.ref.inj q)) (by decide) (by decide) ?_
    show Steps p.tables e below (T249.setTop (mkF m 110 #[.val (.int i0), .val (.ref b1), .val (.int (11 : Int32)), .val (.ref o_DIVIDE), .unset] [])) _
    refine XS.aloadN X249.here hx rfl (hb hby at_110) rfl rfl ?_
    show Steps p.tables e below (T249.setTop (mkF m 111 #[.val (.int i0), .val (.ref b1), .val (.int (11 : Int32)), .val (.ref o_DIVIDE), .unset] [(.ref o_DIVIDE)])) _
    refine st291 _ ?_
    show Steps p.tables e below (T291.setTop (mkF m 114 #[.val (.int i0), .val (.ref b1), .val (.int (11 : Int32)), .val (.ref o_DIVIDE), .unset] [(.ref o_NOT_EQUAL), (.ref o_DIVIDE)])) _
    refine Jvm.RoadKit.acmp (g := (mkF m 114 #[.val (.int i0), .val (.ref b1), .val (.int (11 : Int32)), .val (.ref o_DIVIDE), .unset] [(.ref o_NOT_EQUAL), (.ref o_DIVIDE)])) X291 hx rfl rfl rfl (pc0 := 114) (pc' := 117) (same := false) rfl (hb hby at_114) rfl (decide_eq_false fun q => ne307 (Value.ref.inj q)) (by decide) (by decide) ?_
    show Steps p.tables e below (T291.setTop (mkF m 117 #[.val (.int i0), .val (.ref b1), .val (.int (11 : Int32)), .val (.ref o_DIVIDE), .unset] [])) _
    refine XS.aloadN X291.here hx rfl (hb hby at_117) rfl rfl ?_
    show Steps p.tables e below (T291.setTop (mkF m 118 #[.val (.int i0), .val (.ref b1), .val (.int (11 : Int32)), .val (.ref o_DIVIDE), .unset] [(.ref o_DIVIDE)])) _
    refine st317 _ ?_
    show Steps p.tables e below (T317.setTop (mkF m 121 #[.val (.int i0), .val (.ref b1), .val (.int (11 : Int32)), .val (.ref o_DIVIDE), .unset] [(.ref o_LESS), (.ref o_DIVIDE)])) _
    refine Jvm.RoadKit.acmp (g := (mkF m 121 #[.val (.int i0), .val (.ref b1), .val (.int (11 : Int32)), .val (.ref o_DIVIDE), .unset] [(.ref o_LESS), (.ref o_DIVIDE)])) X317 hx rfl rfl rfl (pc0 := 121) (pc' := 124) (same := false) rfl (hb hby at_121) rfl (decide_eq_false fun q => ne333 (Value.ref.inj q)) (by decide) (by decide) ?_
    show Steps p.tables e below (T317.setTop (mkF m 124 #[.val (.int i0), .val (.ref b1), .val (.int (11 : Int32)), .val (.ref o_DIVIDE), .unset] [])) _
    refine XS.aloadN X317.here hx rfl (hb hby at_124) rfl rfl ?_
    show Steps p.tables e below (T317.setTop (mkF m 125 #[.val (.int i0), .val (.ref b1), .val (.int (11 : Int32)), .val (.ref o_DIVIDE), .unset] [(.ref o_DIVIDE)])) _
    refine st342 _ ?_
    show Steps p.tables e below (T342.setTop (mkF m 128 #[.val (.int i0), .val (.ref b1), .val (.int (11 : Int32)), .val (.ref o_DIVIDE), .unset] [(.ref o_LESS_OR_EQUAL), (.ref o_DIVIDE)])) _
    refine Jvm.RoadKit.acmp (g := (mkF m 128 #[.val (.int i0), .val (.ref b1), .val (.int (11 : Int32)), .val (.ref o_DIVIDE), .unset] [(.ref o_LESS_OR_EQUAL), (.ref o_DIVIDE)])) X342 hx rfl rfl rfl (pc0 := 128) (pc' := 131) (same := false) rfl (hb hby at_128) rfl (decide_eq_false fun q => ne358 (Value.ref.inj q)) (by decide) (by decide) ?_
    show Steps p.tables e below (T342.setTop (mkF m 131 #[.val (.int i0), .val (.ref b1), .val (.int (11 : Int32)), .val (.ref o_DIVIDE), .unset] [])) _
    refine XS.aloadN X342.here hx rfl (hb hby at_131) rfl rfl ?_
    show Steps p.tables e below (T342.setTop (mkF m 132 #[.val (.int i0), .val (.ref b1), .val (.int (11 : Int32)), .val (.ref o_DIVIDE), .unset] [(.ref o_DIVIDE)])) _
    refine st366 _ ?_
    show Steps p.tables e below (T366.setTop (mkF m 135 #[.val (.int i0), .val (.ref b1), .val (.int (11 : Int32)), .val (.ref o_DIVIDE), .unset] [(.ref o_GREATER), (.ref o_DIVIDE)])) _
    refine Jvm.RoadKit.acmp (g := (mkF m 135 #[.val (.int i0), .val (.ref b1), .val (.int (11 : Int32)), .val (.ref o_DIVIDE), .unset] [(.ref o_GREATER), (.ref o_DIVIDE)])) X366 hx rfl rfl rfl (pc0 := 135) (pc' := 138) (same := false) rfl (hb hby at_135) rfl (decide_eq_false fun q => ne382 (Value.ref.inj q)) (by decide) (by decide) ?_
    show Steps p.tables e below (T366.setTop (mkF m 138 #[.val (.int i0), .val (.ref b1), .val (.int (11 : Int32)), .val (.ref o_DIVIDE), .unset] [])) _
    refine XS.aloadN X366.here hx rfl (hb hby at_138) rfl rfl ?_
    show Steps p.tables e below (T366.setTop (mkF m 139 #[.val (.int i0), .val (.ref b1), .val (.int (11 : Int32)), .val (.ref o_DIVIDE), .unset] [(.ref o_DIVIDE)])) _
    refine st389 _ ?_
    show Steps p.tables e below (T389.setTop (mkF m 142 #[.val (.int i0), .val (.ref b1), .val (.int (11 : Int32)), .val (.ref o_DIVIDE), .unset] [(.ref o_GREATER_OR_EQUAL), (.ref o_DIVIDE)])) _
    refine Jvm.RoadKit.acmp (g := (mkF m 142 #[.val (.int i0), .val (.ref b1), .val (.int (11 : Int32)), .val (.ref o_DIVIDE), .unset] [(.ref o_GREATER_OR_EQUAL), (.ref o_DIVIDE)])) X389 hx rfl rfl rfl (pc0 := 142) (pc' := 149) (same := false) rfl (hb hby at_142) rfl (decide_eq_false fun q => ne405 (Value.ref.inj q)) (by decide) (by decide) ?_
    show Steps p.tables e below (T389.setTop (mkF m 149 #[.val (.int i0), .val (.ref b1), .val (.int (11 : Int32)), .val (.ref o_DIVIDE), .unset] [])) _
    refine XS.iconst X389.here hx rfl (hb hby at_149) ?_
    show Steps p.tables e below (T389.setTop (mkF m 150 #[.val (.int i0), .val (.ref b1), .val (.int (11 : Int32)), .val (.ref o_DIVIDE), .unset] [(.int (0 : Int32))])) _
    refine XS.istore X389.here hx rfl (hb hby at_150) rfl (l' := #[.val (.int i0), .val (.ref b1), .val (.int (11 : Int32)), .val (.ref o_DIVIDE), .val (.int (0 : Int32))]) rfl ?_
    show Steps p.tables e below (T389.setTop (mkF m 152 #[.val (.int i0), .val (.ref b1), .val (.int (11 : Int32)), .val (.ref o_DIVIDE), .val (.int (0 : Int32))] [])) _
    refine XS.aloadN X389.here hx rfl (hb hby at_152) rfl rfl ?_
    show Steps p.tables e below (T389.setTop (mkF m 153 #[.val (.int i0), .val (.ref b1), .val (.int (11 : Int32)), .val (.ref o_DIVIDE), .val (.int (0 : Int32))] [(.ref o_DIVIDE)])) _
    refine st450.trans ?_
    show Steps p.tables e below (T450.setTop (mkF m 156 #[.val (.int i0), .val (.ref b1), .val (.int (11 : Int32)), .val (.ref o_DIVIDE), .val (.int (0 : Int32))] [(.int (0 : Int32))])) _
    refine XS.iload X450.here hx rfl (hb hby at_156) rfl ?_
    show Steps p.tables e below (T450.setTop (mkF m 158 #[.val (.int i0), .val (.ref b1), .val (.int (11 : Int32)), .val (.ref o_DIVIDE), .val (.int (0 : Int32))] [(.int (0 : Int32)), (.int (0 : Int32))])) _
    refine XS.icmpNo X450.here hx rfl (hb hby at_158) rfl (teq (by decide : (0 : Int32) = (0 : Int32))).2 ?_
    show Steps p.tables e below (T450.setTop (mkF m 161 #[.val (.int i0), .val (.ref b1), .val (.int (11 : Int32)), .val (.ref o_DIVIDE), .val (.int (0 : Int32))] [])) _
    refine XS.iconst X450.here hx rfl (hb hby at_161) ?_
    show Steps p.tables e below (T450.setTop (mkF m 162 #[.val (.int i0), .val (.ref b1), .val (.int (11 : Int32)), .val (.ref o_DIVIDE), .val (.int (0 : Int32))] [(.int (1 : Int32))])) _
    refine XS.goto X450.here hx rfl (pc0 := 162) (pc' := 166) rfl (hb hby at_162) (by decide) (by decide) ?_
    show Steps p.tables e below (T450.setTop (mkF m 166 #[.val (.int i0), .val (.ref b1), .val (.int (11 : Int32)), .val (.ref o_DIVIDE), .val (.int (0 : Int32))] [(.int (1 : Int32))])) _
    exact retN X450 hx (t := .boolean) Bd.returns (by simp) (hb hby at_166) hr
  · obtain ⟨cl237, Ar237, qk237, Sz237, Ng237, Ha237, Gf237⟩ := V235
    have hin237 : ¬ ((12 : Int32) < 0 ∨ cl237.slots.size ≤ ((12 : Int32)).toNatClampNeg) := inb_of Sz237 ⟨by decide, by decide⟩
    have hat237 : cl237.slots[((12 : Int32)).toNatClampNeg]? = some (.ref o_MODULO) := Has.at Ha237 hin237 rfl
    have c238 := c19.wr W25
    have c239 := c238.wr W37
    have c240 := c239.wr W51
    have c241 := c240.wr W67
    have c242 := c241.wr W85
    have c243 := c242.wr W105
    have c244 := c243.wr W127
    have c245 := c244.wr W151
    have c246 := c245.wr W177
    have c247 := c246.wr W205
    have c248 := c247.wr W235
    obtain ⟨T249, X249, e249, st249⟩ := getS2 X235 hx hZ hown (host := "") (Or.inl (own_w8 hw)) Via.refl e235 c248 (g := (mkF m 104 #[.val (.int i0), .val (.ref b1), .val (.int (12 : Int32)), .val (.ref o_MODULO), .unset] [(.ref o_MODULO)])) rfl (hb hby at_104)
    have c250 := F_o_MODULO_ordinal.ext E1
    have ne251 : o_MODULO ≠ b1 := (Nat.ne_of_lt (Nat.lt_of_lt_of_le E_o_MODULO.lt sz_b1))
    have c252 := c250.other W7 (Or.inl ne251)
    have c253 := c252.other W15 (Or.inl ne251)
    have c254 := c253.other W25 (Or.inl ne251)
    have c255 := c254.other W37 (Or.inl ne251)
    have c256 := c255.other W51 (Or.inl ne251)
    have c257 := c256.other W67 (Or.inl ne251)
    have c258 := c257.other W85 (Or.inl ne251)
    have c259 := c258.other W105 (Or.inl ne251)
    have c260 := c259.other W127 (Or.inl ne251)
    have c261 := c260.other W151 (Or.inl ne251)
    have c262 := c261.other W177 (Or.inl ne251)
    have c263 := c262.other W205 (Or.inl ne251)
    have c264 := c263.other W235 (Or.inl ne251)
    have c265 := F_o_EQUAL_ordinal.ext E1
    have ne266 : o_EQUAL ≠ b1 := (Nat.ne_of_lt (Nat.lt_of_lt_of_le E_o_EQUAL.lt sz_b1))
    have c267 := c265.other W7 (Or.inl ne266)
    have c268 := c267.other W15 (Or.inl ne266)
    have c269 := c268.other W25 (Or.inl ne266)
    have c270 := c269.other W37 (Or.inl ne266)
    have c271 := c270.other W51 (Or.inl ne266)
    have c272 := c271.other W67 (Or.inl ne266)
    have c273 := c272.other W85 (Or.inl ne266)
    have c274 := c273.other W105 (Or.inl ne266)
    have c275 := c274.other W127 (Or.inl ne266)
    have c276 := c275.other W151 (Or.inl ne266)
    have c277 := c276.other W177 (Or.inl ne266)
    have c278 := c277.other W205 (Or.inl ne266)
    have c279 := c278.other W235 (Or.inl ne266)
    have ne280 : o_MODULO ≠ o_EQUAL := (c264.ne c279 (fun q => absurd (Value.int.inj q) (by decide)))
    have c281 := c30.wr W37
    have c282 := c281.wr W51
    have c283 := c282.wr W67
    have c284 := c283.wr W85
    have c285 := c284.wr W105
    have c286 := c285.wr W127
    have c287 := c286.wr W151
    have c288 := c287.wr W177
    have c289 := c288.wr W205
    have c290 := c289.wr W235
    obtain ⟨T291, X291, e291, st291⟩ := getS2 X249 hx hZ hown (host := "") (Or.inl (own_w10 hw)) Via.refl e249 c290 (g := (mkF m 111 #[.val (.int i0), .val (.ref b1), .val (.int (12 : Int32)), .val (.ref o_MODULO), .unset] [(.ref o_MODULO)])) rfl (hb hby at_111)
    have c292 := F_o_NOT_EQUAL_ordinal.ext E1
    have ne293 : o_NOT_EQUAL ≠ b1 := (Nat.ne_of_lt (Nat.lt_of_lt_of_le E_o_NOT_EQUAL.lt sz_b1))
    have c294 := c292.other W7 (Or.inl ne293)
    have c295 := c294.other W15 (Or.inl ne293)
    have c296 := c295.other W25 (Or.inl ne293)
    have c297 := c296.other W37 (Or.inl ne293)
    have c298 := c297.other W51 (Or.inl ne293)
    have c299 := c298.other W67 (Or.inl ne293)
    have c300 := c299.other W85 (Or.inl ne293)
    have c301 := c300.other W105 (Or.inl ne293)
    have c302 := c301.other W127 (Or.inl ne293)
    have c303 := c302.other W151 (Or.inl ne293)
    have c304 := c303.other W177 (Or.inl ne293)
    have c305 := c304.other W205 (Or.inl ne293)
    have c306 := c305.other W235 (Or.inl ne293)
    have ne307 : o_MODULO ≠ o_NOT_EQUAL := (c264.ne c306 (fun q => absurd (Value.int.inj q) (by decide)))
    have c308 := c43.wr W51
    have c309 := c308.wr W67
    have c310 := c309.wr W85
    have c311 := c310.wr W105
    have c312 := c311.wr W127
    have c313 := c312.wr W151
    have c314 := c313.wr W177
    have c315 := c314.wr W205
    have c316 := c315.wr W235
    obtain ⟨T317, X317, e317, st317⟩ := getS2 X291 hx hZ hown (host := "") (Or.inl (own_w12 hw)) Via.refl e291 c316 (g := (mkF m 118 #[.val (.int i0), .val (.ref b1), .val (.int (12 : Int32)), .val (.ref o_MODULO), .unset] [(.ref o_MODULO)])) rfl (hb hby at_118)
    have c318 := F_o_LESS_ordinal.ext E1
    have ne319 : o_LESS ≠ b1 := (Nat.ne_of_lt (Nat.lt_of_lt_of_le E_o_LESS.lt sz_b1))
    have c320 := c318.other W7 (Or.inl ne319)
    have c321 := c320.other W15 (Or.inl ne319)
    have c322 := c321.other W25 (Or.inl ne319)
    have c323 := c322.other W37 (Or.inl ne319)
    have c324 := c323.other W51 (Or.inl ne319)
    have c325 := c324.other W67 (Or.inl ne319)
    have c326 := c325.other W85 (Or.inl ne319)
    have c327 := c326.other W105 (Or.inl ne319)
    have c328 := c327.other W127 (Or.inl ne319)
    have c329 := c328.other W151 (Or.inl ne319)
    have c330 := c329.other W177 (Or.inl ne319)
    have c331 := c330.other W205 (Or.inl ne319)
    have c332 := c331.other W235 (Or.inl ne319)
    have ne333 : o_MODULO ≠ o_LESS := (c264.ne c332 (fun q => absurd (Value.int.inj q) (by decide)))
    have c334 := c58.wr W67
    have c335 := c334.wr W85
    have c336 := c335.wr W105
    have c337 := c336.wr W127
    have c338 := c337.wr W151
    have c339 := c338.wr W177
    have c340 := c339.wr W205
    have c341 := c340.wr W235
    obtain ⟨T342, X342, e342, st342⟩ := getS2 X317 hx hZ hown (host := "") (Or.inl (own_w14 hw)) Via.refl e317 c341 (g := (mkF m 125 #[.val (.int i0), .val (.ref b1), .val (.int (12 : Int32)), .val (.ref o_MODULO), .unset] [(.ref o_MODULO)])) rfl (hb hby at_125)
    have c343 := F_o_LESS_OR_EQUAL_ordinal.ext E1
    have ne344 : o_LESS_OR_EQUAL ≠ b1 := (Nat.ne_of_lt (Nat.lt_of_lt_of_le E_o_LESS_OR_EQUAL.lt sz_b1))
    have c345 := c343.other W7 (Or.inl ne344)
    have c346 := c345.other W15 (Or.inl ne344)
    have c347 := c346.other W25 (Or.inl ne344)
    have c348 := c347.other W37 (Or.inl ne344)
    have c349 := c348.other W51 (Or.inl ne344)
    have c350 := c349.other W67 (Or.inl ne344)
    have c351 := c350.other W85 (Or.inl ne344)
    have c352 := c351.other W105 (Or.inl ne344)
    have c353 := c352.other W127 (Or.inl ne344)
    have c354 := c353.other W151 (Or.inl ne344)
    have c355 := c354.other W177 (Or.inl ne344)
    have c356 := c355.other W205 (Or.inl ne344)
    have c357 := c356.other W235 (Or.inl ne344)
    have ne358 : o_MODULO ≠ o_LESS_OR_EQUAL := (c264.ne c357 (fun q => absurd (Value.int.inj q) (by decide)))
    have c359 := c75.wr W85
    have c360 := c359.wr W105
    have c361 := c360.wr W127
    have c362 := c361.wr W151
    have c363 := c362.wr W177
    have c364 := c363.wr W205
    have c365 := c364.wr W235
    obtain ⟨T366, X366, e366, st366⟩ := getS2 X342 hx hZ hown (host := "") (Or.inl (own_w16 hw)) Via.refl e342 c365 (g := (mkF m 132 #[.val (.int i0), .val (.ref b1), .val (.int (12 : Int32)), .val (.ref o_MODULO), .unset] [(.ref o_MODULO)])) rfl (hb hby at_132)
    have c367 := F_o_GREATER_ordinal.ext E1
    have ne368 : o_GREATER ≠ b1 := (Nat.ne_of_lt (Nat.lt_of_lt_of_le E_o_GREATER.lt sz_b1))
    have c369 := c367.other W7 (Or.inl ne368)
    have c370 := c369.other W15 (Or.inl ne368)
    have c371 := c370.other W25 (Or.inl ne368)
    have c372 := c371.other W37 (Or.inl ne368)
    have c373 := c372.other W51 (Or.inl ne368)
    have c374 := c373.other W67 (Or.inl ne368)
    have c375 := c374.other W85 (Or.inl ne368)
    have c376 := c375.other W105 (Or.inl ne368)
    have c377 := c376.other W127 (Or.inl ne368)
    have c378 := c377.other W151 (Or.inl ne368)
    have c379 := c378.other W177 (Or.inl ne368)
    have c380 := c379.other W205 (Or.inl ne368)
    have c381 := c380.other W235 (Or.inl ne368)
    have ne382 : o_MODULO ≠ o_GREATER := (c264.ne c381 (fun q => absurd (Value.int.inj q) (by decide)))
    have c383 := c94.wr W105
    have c384 := c383.wr W127
    have c385 := c384.wr W151
    have c386 := c385.wr W177
    have c387 := c386.wr W205
    have c388 := c387.wr W235
    obtain ⟨T389, X389, e389, st389⟩ := getS2 X366 hx hZ hown (host := "") (Or.inl (own_w18 hw)) Via.refl e366 c388 (g := (mkF m 139 #[.val (.int i0), .val (.ref b1), .val (.int (12 : Int32)), .val (.ref o_MODULO), .unset] [(.ref o_MODULO)])) rfl (hb hby at_139)
    have c390 := F_o_GREATER_OR_EQUAL_ordinal.ext E1
    have ne391 : o_GREATER_OR_EQUAL ≠ b1 := (Nat.ne_of_lt (Nat.lt_of_lt_of_le E_o_GREATER_OR_EQUAL.lt sz_b1))
    have c392 := c390.other W7 (Or.inl ne391)
    have c393 := c392.other W15 (Or.inl ne391)
    have c394 := c393.other W25 (Or.inl ne391)
    have c395 := c394.other W37 (Or.inl ne391)
    have c396 := c395.other W51 (Or.inl ne391)
    have c397 := c396.other W67 (Or.inl ne391)
    have c398 := c397.other W85 (Or.inl ne391)
    have c399 := c398.other W105 (Or.inl ne391)
    have c400 := c399.other W127 (Or.inl ne391)
    have c401 := c400.other W151 (Or.inl ne391)
    have c402 := c401.other W177 (Or.inl ne391)
    have c403 := c402.other W205 (Or.inl ne391)
    have c404 := c403.other W235 (Or.inl ne391)
    have ne405 : o_MODULO ≠ o_GREATER_OR_EQUAL := (c264.ne c404 (fun q => absurd (Value.int.inj q) (by decide)))
    have c406 := c234.wr W235
    have c407 := F_o_MODULO_precedence.ext E1
    have c408 := c407.other W7 (Or.inl ne251)
    have c409 := c408.other W15 (Or.inl ne251)
    have c410 := c409.other W25 (Or.inl ne251)
    have c411 := c410.other W37 (Or.inl ne251)
    have c412 := c411.other W51 (Or.inl ne251)
    have c413 := c412.other W67 (Or.inl ne251)
    have c414 := c413.other W85 (Or.inl ne251)
    have c415 := c414.other W105 (Or.inl ne251)
    have c416 := c415.other W127 (Or.inl ne251)
    have c417 := c416.other W151 (Or.inl ne251)
    have c418 := c417.other W177 (Or.inl ne251)
    have c419 := c418.other W205 (Or.inl ne251)
    have c420 := c419.other W235 (Or.inl ne251)
    have c421 := F_o_EQUAL_precedence.ext E1
    have c422 := c421.other W7 (Or.inl ne266)
    have c423 := c422.other W15 (Or.inl ne266)
    have c424 := c423.other W25 (Or.inl ne266)
    have c425 := c424.other W37 (Or.inl ne266)
    have c426 := c425.other W51 (Or.inl ne266)
    have c427 := c426.other W67 (Or.inl ne266)
    have c428 := c427.other W85 (Or.inl ne266)
    have c429 := c428.other W105 (Or.inl ne266)
    have c430 := c429.other W127 (Or.inl ne266)
    have c431 := c430.other W151 (Or.inl ne266)
    have c432 := c431.other W177 (Or.inl ne266)
    have c433 := c432.other W205 (Or.inl ne266)
    have c434 := c433.other W235 (Or.inl ne266)
    have c435 := F_o_LESS_precedence.ext E1
    have c436 := c435.other W7 (Or.inl ne319)
    have c437 := c436.other W15 (Or.inl ne319)
    have c438 := c437.other W25 (Or.inl ne319)
    have c439 := c438.other W37 (Or.inl ne319)
    have c440 := c439.other W51 (Or.inl ne319)
    have c441 := c440.other W67 (Or.inl ne319)
    have c442 := c441.other W85 (Or.inl ne319)
    have c443 := c442.other W105 (Or.inl ne319)
    have c444 := c443.other W127 (Or.inl ne319)
    have c445 := c444.other W151 (Or.inl ne319)
    have c446 := c445.other W177 (Or.inl ne319)
    have c447 := c446.other W205 (Or.inl ne319)
    have c448 := c447.other W235 (Or.inl ne319)
    obtain ⟨cq449, kq449, q449a, q449b, q449c⟩ := isOf hZ e389 c406
    obtain ⟨_, _, ⟨T449, L449, k449, n449⟩, -, X449, ⟨Lc449, hQ449, l449, y449, z449⟩, st449⟩ := X389.virtualBack hx (y := (⟨"com/example/treelational/treelational/xpath/Operator", "isComparison", "()Z"⟩ : MethodName)) (z := (⟨"com/example/treelational/treelational/xpath/Operator", "isComparison", "()Z"⟩ : MethodName)) hown (mvT hZ (own_w31 hw)) (mvT hZ (own_w32 hw)) (notFace_of_selects (args := #[]) (mvT hZ (own_w34 hw))) (mvT hZ (own_w34 hw)) (mvT hZ (own_w33 hw)) (by decide) (backOf (W := 0) (rm1_8 l Z a0 hw [] o_MODULO o_EQUAL o_LESS h235 n0 (Nat.le_trans Z0 KC236.1) c420 c248 c434 c316 c448) hZ (own_w35 hw) (own_w3 hw) (by decide) (by decide)) q449a q449c (g := (mkF m 153 #[.val (.int i0), .val (.ref b1), .val (.int (12 : Int32)), .val (.ref o_MODULO), .val (.int (0 : Int32))] [(.ref o_MODULO)])) rfl (by rw [hml]; rfl) (Steps.refl _) (argsL := []) (rest := []) (lenOf pd___Z rfl) rfl (by show 2 * 0 + _ ≤ _; exact Nat.le_of_eq rfl) (hb hby at_153) (fun _ _ => ⟨rfl, e389, (by decide : 1 + 0 ≤ _), (by decide : 13 + 0 ≤ _)⟩)
    dsimp only [Pt.U, Pt.locs, Pt.cells, Pt.slots] at X449 l449 y449 z449 st449 hQ449
    subst l449 y449 z449
    obtain ⟨rfl, N449q, e449⟩ := hQ449
    have N449 := Fr.app N235 N449q
    obtain ⟨fs, hr, hrun, hended, hW, hsame⟩ := X449.leave (v := some (.int (1 : Int32))) (fun h => by rw [Bd.returns] at h; cases h)
    refine ⟨_, _, pre1 _ ?_, hrun, hended, _, _, rfl, ⟨rfl, N449⟩, ⟨_, rfl⟩, hW, hsame.mono (by decide) (by decide)⟩
    show Steps p.tables e below (T235.setTop (mkF m 98 #[.val (.int i0), .val (.ref b1), .unset, .unset, .unset] [(.int ((i0 &&& (2147483647 : Int32)) % (13 : Int32)))])) _
    rw [he0]
    show Steps p.tables e below (T235.setTop (mkF m 98 #[.val (.int i0), .val (.ref b1), .unset, .unset, .unset] [(.int (12 : Int32))])) _
    refine XS.istoreN X235.here hx rfl (hb hby at_98) rfl (l' := #[.val (.int i0), .val (.ref b1), .val (.int (12 : Int32)), .unset, .unset]) rfl ?_
    show Steps p.tables e below (T235.setTop (mkF m 99 #[.val (.int i0), .val (.ref b1), .val (.int (12 : Int32)), .unset, .unset] [])) _
    refine XS.aloadN X235.here hx rfl (hb hby at_99) rfl rfl ?_
    show Steps p.tables e below (T235.setTop (mkF m 100 #[.val (.int i0), .val (.ref b1), .val (.int (12 : Int32)), .unset, .unset] [(.ref b1)])) _
    refine XS.iloadN X235.here hx rfl (hb hby at_100) rfl ?_
    show Steps p.tables e below (T235.setTop (mkF m 101 #[.val (.int i0), .val (.ref b1), .val (.int (12 : Int32)), .unset, .unset] [(.int (12 : Int32)), (.ref b1)])) _
    refine X235.aaload hx (j := (12 : Int32)) (v := (.ref o_MODULO)) (by rw [e235]; exact Ar237.1) (State.isArrayOf_alike hZ.alike Ar237.2.1) rfl Ar237.2.2 hin237 hat237 (g := (mkF m 101 #[.val (.int i0), .val (.ref b1), .val (.int (12 : Int32)), .unset, .unset] [(.int (12 : Int32)), (.ref b1)])) rfl rfl (hb hby at_101) _ ?_
    show Steps p.tables e below (T235.setTop (mkF m 102 #[.val (.int i0), .val (.ref b1), .val (.int (12 : Int32)), .unset, .unset] [(.ref o_MODULO)])) _
    refine XS.astoreN X235.here hx rfl (hb hby at_102) rfl rfl (l' := #[.val (.int i0), .val (.ref b1), .val (.int (12 : Int32)), .val (.ref o_MODULO), .unset]) rfl ?_
    show Steps p.tables e below (T235.setTop (mkF m 103 #[.val (.int i0), .val (.ref b1), .val (.int (12 : Int32)), .val (.ref o_MODULO), .unset] [])) _
    refine XS.aloadN X235.here hx rfl (hb hby at_103) rfl rfl ?_
    show Steps p.tables e below (T235.setTop (mkF m 104 #[.val (.int i0), .val (.ref b1), .val (.int (12 : Int32)), .val (.ref o_MODULO), .unset] [(.ref o_MODULO)])) _
    refine st249 _ ?_
    show Steps p.tables e below (T249.setTop (mkF m 107 #[.val (.int i0), .val (.ref b1), .val (.int (12 : Int32)), .val (.ref o_MODULO), .unset] [(.ref o_EQUAL), (.ref o_MODULO)])) _
    refine Jvm.RoadKit.acmp (g := (mkF m 107 #[.val (.int i0), .val (.ref b1), .val (.int (12 : Int32)), .val (.ref o_MODULO), .unset] [(.ref o_EQUAL), (.ref o_MODULO)])) X249 hx rfl rfl rfl (pc0 := 107) (pc' := 110) (same := false) rfl (hb hby at_107) rfl (decide_eq_false fun q => ne280 (Value.ref.inj q)) (by decide) (by decide) ?_
    show Steps p.tables e below (T249.setTop (mkF m 110 #[.val (.int i0), .val (.ref b1), .val (.int (12 : Int32)), .val (.ref o_MODULO), .unset] [])) _
    refine XS.aloadN X249.here hx rfl (hb hby at_110) rfl rfl ?_
    show Steps p.tables e below (T249.setTop (mkF m 111 #[.val (.int i0), .val (.ref b1), .val (.int (12 : Int32)), .val (.ref o_MODULO), .unset] [(.ref o_MODULO)])) _
    refine st291 _ ?_
    show Steps p.tables e below (T291.setTop (mkF m 114 #[.val (.int i0), .val (.ref b1), .val (.int (12 : Int32)), .val (.ref o_MODULO), .unset] [(.ref o_NOT_EQUAL), (.ref o_MODULO)])) _
    refine Jvm.RoadKit.acmp (g := (mkF m 114 #[.val (.int i0), .val (.ref b1), .val (.int (12 : Int32)), .val (.ref o_MODULO), .unset] [(.ref o_NOT_EQUAL), (.ref o_MODULO)])) X291 hx rfl rfl rfl (pc0 := 114) (pc' := 117) (same := false) rfl (hb hby at_114) rfl (decide_eq_false fun q => ne307 (Value.ref.inj q)) (by decide) (by decide) ?_
    show Steps p.tables e below (T291.setTop (mkF m 117 #[.val (.int i0), .val (.ref b1), .val (.int (12 : Int32)), .val (.ref o_MODULO), .unset] [])) _
    refine XS.aloadN X291.here hx rfl (hb hby at_117) rfl rfl ?_
    show Steps p.tables e below (T291.setTop (mkF m 118 #[.val (.int i0), .val (.ref b1), .val (.int (12 : Int32)), .val (.ref o_MODULO), .unset] [(.ref o_MODULO)])) _
    refine st317 _ ?_
    show Steps p.tables e below (T317.setTop (mkF m 121 #[.val (.int i0), .val (.ref b1), .val (.int (12 : Int32)), .val (.ref o_MODULO), .unset] [(.ref o_LESS), (.ref o_MODULO)])) _
    refine Jvm.RoadKit.acmp (g := (mkF m 121 #[.val (.int i0), .val (.ref b1), .val (.int (12 : Int32)), .val (.ref o_MODULO), .unset] [(.ref o_LESS), (.ref o_MODULO)])) X317 hx rfl rfl rfl (pc0 := 121) (pc' := 124) (same := false) rfl (hb hby at_121) rfl (decide_eq_false fun q => ne333 (Value.ref.inj q)) (by decide) (by decide) ?_
    show Steps p.tables e below (T317.setTop (mkF m 124 #[.val (.int i0), .val (.ref b1), .val (.int (12 : Int32)), .val (.ref o_MODULO), .unset] [])) _
    refine XS.aloadN X317.here hx rfl (hb hby at_124) rfl rfl ?_
    show Steps p.tables e below (T317.setTop (mkF m 125 #[.val (.int i0), .val (.ref b1), .val (.int (12 : Int32)), .val (.ref o_MODULO), .unset] [(.ref o_MODULO)])) _
    refine st342 _ ?_
    show Steps p.tables e below (T342.setTop (mkF m 128 #[.val (.int i0), .val (.ref b1), .val (.int (12 : Int32)), .val (.ref o_MODULO), .unset] [(.ref o_LESS_OR_EQUAL), (.ref o_MODULO)])) _
    refine Jvm.RoadKit.acmp (g := (mkF m 128 #[.val (.int i0), .val (.ref b1), .val (.int (12 : Int32)), .val (.ref o_MODULO), .unset] [(.ref o_LESS_OR_EQUAL), (.ref o_MODULO)])) X342 hx rfl rfl rfl (pc0 := 128) (pc' := 131) (same := false) rfl (hb hby at_128) rfl (decide_eq_false fun q => ne358 (Value.ref.inj q)) (by decide) (by decide) ?_
    show Steps p.tables e below (T342.setTop (mkF m 131 #[.val (.int i0), .val (.ref b1), .val (.int (12 : Int32)), .val (.ref o_MODULO), .unset] [])) _
    refine XS.aloadN X342.here hx rfl (hb hby at_131) rfl rfl ?_
    show Steps p.tables e below (T342.setTop (mkF m 132 #[.val (.int i0), .val (.ref b1), .val (.int (12 : Int32)), .val (.ref o_MODULO), .unset] [(.ref o_MODULO)])) _
    refine st366 _ ?_
    show Steps p.tables e below (T366.setTop (mkF m 135 #[.val (.int i0), .val (.ref b1), .val (.int (12 : Int32)), .val (.ref o_MODULO), .unset] [(.ref o_GREATER), (.ref o_MODULO)])) _
    refine Jvm.RoadKit.acmp (g := (mkF m 135 #[.val (.int i0), .val (.ref b1), .val (.int (12 : Int32)), .val (.ref o_MODULO), .unset] [(.ref o_GREATER), (.ref o_MODULO)])) X366 hx rfl rfl rfl (pc0 := 135) (pc' := 138) (same := false) rfl (hb hby at_135) rfl (decide_eq_false fun q => ne382 (Value.ref.inj q)) (by decide) (by decide) ?_
    show Steps p.tables e below (T366.setTop (mkF m 138 #[.val (.int i0), .val (.ref b1), .val (.int (12 : Int32)), .val (.ref o_MODULO), .unset] [])) _
    refine XS.aloadN X366.here hx rfl (hb hby at_138) rfl rfl ?_
    show Steps p.tables e below (T366.setTop (mkF m 139 #[.val (.int i0), .val (.ref b1), .val (.int (12 : Int32)), .val (.ref o_MODULO), .unset] [(.ref o_MODULO)])) _
    refine st389 _ ?_
    show Steps p.tables e below (T389.setTop (mkF m 142 #[.val (.int i0), .val (.ref b1), .val (.int (12 : Int32)), .val (.ref o_MODULO), .unset] [(.ref o_GREATER_OR_EQUAL), (.ref o_MODULO)])) _
    refine Jvm.RoadKit.acmp (g := (mkF m 142 #[.val (.int i0), .val (.ref b1), .val (.int (12 : Int32)), .val (.ref o_MODULO), .unset] [(.ref o_GREATER_OR_EQUAL), (.ref o_MODULO)])) X389 hx rfl rfl rfl (pc0 := 142) (pc' := 149) (same := false) rfl (hb hby at_142) rfl (decide_eq_false fun q => ne405 (Value.ref.inj q)) (by decide) (by decide) ?_
    show Steps p.tables e below (T389.setTop (mkF m 149 #[.val (.int i0), .val (.ref b1), .val (.int (12 : Int32)), .val (.ref o_MODULO), .unset] [])) _
    refine XS.iconst X389.here hx rfl (hb hby at_149) ?_
    show Steps p.tables e below (T389.setTop (mkF m 150 #[.val (.int i0), .val (.ref b1), .val (.int (12 : Int32)), .val (.ref o_MODULO), .unset] [(.int (0 : Int32))])) _
    refine XS.istore X389.here hx rfl (hb hby at_150) rfl (l' := #[.val (.int i0), .val (.ref b1), .val (.int (12 : Int32)), .val (.ref o_MODULO), .val (.int (0 : Int32))]) rfl ?_
    show Steps p.tables e below (T389.setTop (mkF m 152 #[.val (.int i0), .val (.ref b1), .val (.int (12 : Int32)), .val (.ref o_MODULO), .val (.int (0 : Int32))] [])) _
    refine XS.aloadN X389.here hx rfl (hb hby at_152) rfl rfl ?_
    show Steps p.tables e below (T389.setTop (mkF m 153 #[.val (.int i0), .val (.ref b1), .val (.int (12 : Int32)), .val (.ref o_MODULO), .val (.int (0 : Int32))] [(.ref o_MODULO)])) _
    refine st449.trans ?_
    show Steps p.tables e below (T449.setTop (mkF m 156 #[.val (.int i0), .val (.ref b1), .val (.int (12 : Int32)), .val (.ref o_MODULO), .val (.int (0 : Int32))] [(.int (0 : Int32))])) _
    refine XS.iload X449.here hx rfl (hb hby at_156) rfl ?_
    show Steps p.tables e below (T449.setTop (mkF m 158 #[.val (.int i0), .val (.ref b1), .val (.int (12 : Int32)), .val (.ref o_MODULO), .val (.int (0 : Int32))] [(.int (0 : Int32)), (.int (0 : Int32))])) _
    refine XS.icmpNo X449.here hx rfl (hb hby at_158) rfl (teq (by decide : (0 : Int32) = (0 : Int32))).2 ?_
    show Steps p.tables e below (T449.setTop (mkF m 161 #[.val (.int i0), .val (.ref b1), .val (.int (12 : Int32)), .val (.ref o_MODULO), .val (.int (0 : Int32))] [])) _
    refine XS.iconst X449.here hx rfl (hb hby at_161) ?_
    show Steps p.tables e below (T449.setTop (mkF m 162 #[.val (.int i0), .val (.ref b1), .val (.int (12 : Int32)), .val (.ref o_MODULO), .val (.int (0 : Int32))] [(.int (1 : Int32))])) _
    refine XS.goto X449.here hx rfl (pc0 := 162) (pc' := 166) rfl (hb hby at_162) (by decide) (by decide) ?_
    show Steps p.tables e below (T449.setTop (mkF m 166 #[.val (.int i0), .val (.ref b1), .val (.int (12 : Int32)), .val (.ref o_MODULO), .val (.int (0 : Int32))] [(.int (1 : Int32))])) _
    exact retN X449 hx (t := .boolean) Bd.returns (by simp) (hb hby at_166) hr
set_option maxRecDepth 65536 in
set_option maxHeartbeats 40000000 in
theorem comes_1 {Post : Tables → Env → Array Value → State → Outcome → State → Prop} (hpost : ∀ tb e args s v u, (limb_1_1.after args s (.returned v) u = true ∧ limb_1_2.after args s (.returned v) u = true ∧ True) → FrameEnd s (.returned v) u (Jvm.fieldLocs frame_1_writes args s ++ Jvm.arrayLocs frame_1_arrays args s ++ Jvm.staticLocs frame_1_statics s) 16 128 → Post tb e args s (.returned v) u) :
    ArmFor flags0 classFile x code maxLocals ret World_1 tables_1 room_1 Calls_1 rest_1 Pre_1 Post := by
  intro l hfl _ _ p e ha hc hk s m args below hf hA hF happ hP
  obtain ⟨hcalls, hrest, hpre⟩ := hP
  obtain ⟨-, -, -, hnamed, -, -, -, hat⟩ := (Spec.applies_iff hf).mp happ
  obtain ⟨hg, hn⟩ := and_e (Cond.before_iff.mp (show (Jvm.Cond.and given_1 narrow_1).before args s = true from hpre))
  obtain ⟨hg_1a, hg_1b⟩ := and_e hg
  obtain ⟨w0, rfl⟩ : ∃ w0 : Value, args = #[w0] := by
    have hs : args.size = 1 := by simpa [Cond.value, given_1] using hg_1a
    obtain ⟨L⟩ := args
    match L, hs with
    | [w0], _ => exact ⟨w0, rfl⟩
  have hw := fun d (hd : d ∈ tables_1) => atoms_spec (ws := Jvm.Cond.code x code maxLocals ret :: tables_1) hat d (List.mem_cons_of_mem _ hd)
  have hfit : Fit s := fun {y c} hc i hi => by
    obtain ⟨ha, rfl⟩ := Array.getElem?_eq_some_iff.mp hc
    have q := List.all_eq_true.mp ((Array.all_eq_true_iff_forall_mem.mp hF) _ (Array.getElem_mem ha)) i (List.mem_range.mpr hi)
    simpa [Array.getElem?_eq_getElem hi] using q
  obtain ⟨i0, ei0⟩ := is_v hg_1b
  obtain rfl : w0 = (.int i0) := Option.some.inj ei0
  obtain ⟨hn_1a, hn_1b⟩ := and_e hn
  obtain ⟨hn_2a, hn_2b⟩ := and_e hn_1b
  obtain ⟨hn_3a, hn_3b⟩ := and_e hn_2b
  obtain ⟨hn_4a, hn_4b⟩ := and_e hn_3b
  obtain ⟨hn_5a, hn_5b⟩ := and_e hn_4b
  obtain ⟨hn_6a, hn_6b⟩ := and_e hn_5b
  obtain ⟨hn_7a, hn_7b⟩ := and_e hn_6b
  obtain ⟨hn_8a, hn_8b⟩ := and_e hn_7b
  obtain ⟨hn_9a, hn_9b⟩ := and_e hn_8b
  obtain ⟨hn_10a, hn_10b⟩ := and_e hn_9b
  obtain ⟨hn_11a, hn_11b⟩ := and_e hn_10b
  obtain ⟨hn_12a, hn_12b⟩ := and_e hn_11b
  obtain ⟨hn_13a, hn_13b⟩ := and_e hn_12b
  obtain ⟨hn_14a, hn_14b⟩ := and_e hn_13b
  obtain ⟨hn_15a, hn_15b⟩ := and_e hn_14b
  obtain ⟨hn_16a, hn_16b⟩ := and_e hn_15b
  obtain ⟨hn_17a, hn_17b⟩ := and_e hn_16b
  obtain ⟨hn_18a, hn_18b⟩ := and_e hn_17b
  obtain ⟨hn_19a, hn_19b⟩ := and_e hn_18b
  obtain ⟨hn_20a, hn_20b⟩ := and_e hn_19b
  obtain ⟨hn_21a, hn_21b⟩ := and_e hn_20b
  obtain ⟨hn_22a, hn_22b⟩ := and_e hn_21b
  obtain ⟨hn_23a, hn_23b⟩ := and_e hn_22b
  obtain ⟨hn_24a, hn_24b⟩ := and_e hn_23b
  obtain ⟨hn_25a, hn_25b⟩ := and_e hn_24b
  obtain ⟨hn_26a, hn_26b⟩ := and_e hn_25b
  obtain ⟨hn_27a, hn_27b⟩ := and_e hn_26b
  obtain ⟨hn_28a, hn_28b⟩ := and_e hn_27b
  obtain ⟨hn_29a, hn_29b⟩ := and_e hn_28b
  obtain ⟨hn_30a, hn_30b⟩ := and_e hn_29b
  obtain ⟨hn_31a, hn_31b⟩ := and_e hn_30b
  obtain ⟨hn_32a, hn_32b⟩ := and_e hn_31b
  obtain ⟨hn_33a, hn_33b⟩ := and_e hn_32b
  obtain ⟨hn_34a, hn_34b⟩ := and_e hn_33b
  obtain ⟨hn_35a, hn_35b⟩ := and_e hn_34b
  obtain ⟨hn_36a, hn_36b⟩ := and_e hn_35b
  obtain ⟨hn_37a, hn_37b⟩ := and_e hn_36b
  obtain ⟨hn_38a, hn_38b⟩ := and_e hn_37b
  obtain ⟨o_OR, ev_o_OR⟩ := exa_v hn_1a
  have S_o_OR := Sta.start ev_o_OR (Or.inr ⟨(own_w3 hw), (own_w4 hw)⟩)
  have E_o_OR := Exa.start ev_o_OR hn_1a
  obtain ⟨o_AND, ev_o_AND⟩ := exa_v hn_2a
  have S_o_AND := Sta.start ev_o_AND (Or.inr ⟨(own_w3 hw), (own_w7 hw)⟩)
  have E_o_AND := Exa.start ev_o_AND hn_2a
  obtain ⟨o_EQUAL, ev_o_EQUAL⟩ := exa_v hn_3a
  have S_o_EQUAL := Sta.start ev_o_EQUAL (Or.inr ⟨(own_w3 hw), (own_w9 hw)⟩)
  have E_o_EQUAL := Exa.start ev_o_EQUAL hn_3a
  obtain ⟨o_NOT_EQUAL, ev_o_NOT_EQUAL⟩ := exa_v hn_4a
  have S_o_NOT_EQUAL := Sta.start ev_o_NOT_EQUAL (Or.inr ⟨(own_w3 hw), (own_w11 hw)⟩)
  have E_o_NOT_EQUAL := Exa.start ev_o_NOT_EQUAL hn_4a
  obtain ⟨o_LESS, ev_o_LESS⟩ := exa_v hn_5a
  have S_o_LESS := Sta.start ev_o_LESS (Or.inr ⟨(own_w3 hw), (own_w13 hw)⟩)
  have E_o_LESS := Exa.start ev_o_LESS hn_5a
  obtain ⟨o_LESS_OR_EQUAL, ev_o_LESS_OR_EQUAL⟩ := exa_v hn_6a
  have S_o_LESS_OR_EQUAL := Sta.start ev_o_LESS_OR_EQUAL (Or.inr ⟨(own_w3 hw), (own_w15 hw)⟩)
  have E_o_LESS_OR_EQUAL := Exa.start ev_o_LESS_OR_EQUAL hn_6a
  obtain ⟨o_GREATER, ev_o_GREATER⟩ := exa_v hn_7a
  have S_o_GREATER := Sta.start ev_o_GREATER (Or.inr ⟨(own_w3 hw), (own_w17 hw)⟩)
  have E_o_GREATER := Exa.start ev_o_GREATER hn_7a
  obtain ⟨o_GREATER_OR_EQUAL, ev_o_GREATER_OR_EQUAL⟩ := exa_v hn_8a
  have S_o_GREATER_OR_EQUAL := Sta.start ev_o_GREATER_OR_EQUAL (Or.inr ⟨(own_w3 hw), (own_w19 hw)⟩)
  have E_o_GREATER_OR_EQUAL := Exa.start ev_o_GREATER_OR_EQUAL hn_8a
  obtain ⟨o_PLUS, ev_o_PLUS⟩ := exa_v hn_9a
  have S_o_PLUS := Sta.start ev_o_PLUS (Or.inr ⟨(own_w3 hw), (own_w21 hw)⟩)
  have E_o_PLUS := Exa.start ev_o_PLUS hn_9a
  obtain ⟨o_MINUS, ev_o_MINUS⟩ := exa_v hn_10a
  have S_o_MINUS := Sta.start ev_o_MINUS (Or.inr ⟨(own_w3 hw), (own_w23 hw)⟩)
  have E_o_MINUS := Exa.start ev_o_MINUS hn_10a
  obtain ⟨o_MULTIPLY, ev_o_MULTIPLY⟩ := exa_v hn_11a
  have S_o_MULTIPLY := Sta.start ev_o_MULTIPLY (Or.inr ⟨(own_w3 hw), (own_w25 hw)⟩)
  have E_o_MULTIPLY := Exa.start ev_o_MULTIPLY hn_11a
  obtain ⟨o_DIVIDE, ev_o_DIVIDE⟩ := exa_v hn_12a
  have S_o_DIVIDE := Sta.start ev_o_DIVIDE (Or.inr ⟨(own_w3 hw), (own_w27 hw)⟩)
  have E_o_DIVIDE := Exa.start ev_o_DIVIDE hn_12a
  obtain ⟨o_MODULO, ev_o_MODULO⟩ := exa_v hn_13a
  have S_o_MODULO := Sta.start ev_o_MODULO (Or.inr ⟨(own_w3 hw), (own_w29 hw)⟩)
  have E_o_MODULO := Exa.start ev_o_MODULO hn_13a
  have F_o_OR_ordinal := own_fldI ev_o_OR hn_14a
  have F_o_EQUAL_ordinal := own_fldI ev_o_EQUAL hn_15a
  have F_o_NOT_EQUAL_ordinal := own_fldI ev_o_NOT_EQUAL hn_16a
  have F_o_LESS_ordinal := own_fldI ev_o_LESS hn_17a
  have F_o_LESS_OR_EQUAL_ordinal := own_fldI ev_o_LESS_OR_EQUAL hn_18a
  have F_o_GREATER_ordinal := own_fldI ev_o_GREATER hn_19a
  have F_o_GREATER_OR_EQUAL_ordinal := own_fldI ev_o_GREATER_OR_EQUAL hn_20a
  have F_o_OR_precedence := own_fldI ev_o_OR hn_21a
  have F_o_EQUAL_precedence := own_fldI ev_o_EQUAL hn_22a
  have F_o_NOT_EQUAL_precedence := own_fldI ev_o_NOT_EQUAL hn_23a
  have F_o_LESS_precedence := own_fldI ev_o_LESS hn_24a
  have F_o_GREATER_precedence := own_fldI ev_o_GREATER hn_25a
  have F_o_LESS_OR_EQUAL_precedence := own_fldI ev_o_LESS_OR_EQUAL hn_26a
  have F_o_GREATER_OR_EQUAL_precedence := own_fldI ev_o_GREATER_OR_EQUAL hn_27a
  have F_o_MINUS_ordinal := own_fldI ev_o_MINUS hn_28a
  have F_o_MINUS_precedence := own_fldI ev_o_MINUS hn_29a
  have F_o_DIVIDE_ordinal := own_fldI ev_o_DIVIDE hn_30a
  have F_o_DIVIDE_precedence := own_fldI ev_o_DIVIDE hn_31a
  have F_o_AND_ordinal := own_fldI ev_o_AND hn_32a
  have F_o_AND_precedence := own_fldI ev_o_AND hn_33a
  have F_o_PLUS_ordinal := own_fldI ev_o_PLUS hn_34a
  have F_o_PLUS_precedence := own_fldI ev_o_PLUS hn_35a
  have F_o_MULTIPLY_ordinal := own_fldI ev_o_MULTIPLY hn_36a
  have F_o_MULTIPLY_precedence := own_fldI ev_o_MULTIPLY hn_37a
  have F_o_MODULO_ordinal := own_fldI ev_o_MODULO hn_38a
  have F_o_MODULO_precedence := own_fldI ev_o_MODULO hn_38b
  obtain ⟨n, o, h1, h2, h3, _, L, rfl, ⟨rfl, N⟩, hq⟩ := rm0 l s _ hw tables_1 i0 o_OR o_AND o_EQUAL o_NOT_EQUAL o_LESS o_LESS_OR_EQUAL o_GREATER o_GREATER_OR_EQUAL o_PLUS o_MINUS o_MULTIPLY o_DIVIDE o_MODULO s.heap s.heap.size (Nat.le_refl _) S_o_OR E_o_OR S_o_AND E_o_AND S_o_EQUAL E_o_EQUAL S_o_NOT_EQUAL E_o_NOT_EQUAL S_o_LESS E_o_LESS S_o_LESS_OR_EQUAL E_o_LESS_OR_EQUAL S_o_GREATER E_o_GREATER S_o_GREATER_OR_EQUAL E_o_GREATER_OR_EQUAL S_o_PLUS E_o_PLUS S_o_MINUS E_o_MINUS S_o_MULTIPLY E_o_MULTIPLY S_o_DIVIDE E_o_DIVIDE S_o_MODULO E_o_MODULO F_o_OR_ordinal F_o_EQUAL_ordinal F_o_NOT_EQUAL_ordinal F_o_LESS_ordinal F_o_LESS_OR_EQUAL_ordinal F_o_GREATER_ordinal F_o_GREATER_OR_EQUAL_ordinal F_o_OR_precedence F_o_EQUAL_precedence F_o_NOT_EQUAL_precedence F_o_LESS_precedence F_o_GREATER_precedence F_o_LESS_OR_EQUAL_precedence F_o_GREATER_OR_EQUAL_precedence F_o_MINUS_ordinal F_o_MINUS_precedence F_o_DIVIDE_ordinal F_o_DIVIDE_precedence F_o_AND_ordinal F_o_AND_precedence F_o_PLUS_ordinal F_o_PLUS_precedence F_o_MULTIPLY_ordinal F_o_MULTIPLY_precedence F_o_MODULO_ordinal F_o_MODULO_precedence p e ha hc hk s m _ below hf ((Spec.applies_iff_loose hf).mp happ).1 ⟨rfl, State.Warmed39.refl s, rfl⟩ trivial
  refine ⟨n, _, h1, h2, h3, hpost _ _ _ _ _ _ ⟨Cond.after_iff.mpr rfl, Cond.after_iff.mpr (eq_i res_at (Term.int_eval (1)) rfl), trivial⟩ ⟨hq.1, hq.2.1, (hq.2.2.sift fun y hy => Or.inr (N y hy)).mono (by decide) (by decide)⟩⟩
theorem main_1_1 : Claimed_1_1 := comes_1 fun _ _ _ _ _ _ h hF => ⟨h.1, hF⟩
theorem main_1_2 : Claimed_1_2 := comes_1 fun _ _ _ _ _ _ h hF => ⟨h.2.1, hF⟩
end Jvm.Pilot.@@N@@
namespace Jvm.Pilot.@@N@@
open Jvm Jvm.ClassFile Sem Op Lib Jvm.Free Jvm.Stand Jvm.Pilot.@@N@@.Jvm.D
/-! MADE BY PROGRAM (witnessworld.py) out of the Statement's table words and the real class files: 13 classes; the members and pool entries that the words name. The judged class is class 1, her method 1. -/
namespace start1
open Jvm.ClassFile
def u (s : String) : CpInfo := .utf8 (stringToUtf16 s)
/-- a pool by its gaps: so many unusable entries, then the entry; so many at the end -/
def gap : Nat → List CpInfo → List CpInfo
  | 0, r => r
  | n + 1, r => .unusable :: gap n r
def poolList (es : List (Nat × CpInfo)) (last : Nat) : List CpInfo := es.foldr (fun e r => gap e.1 (e.2 :: r)) (gap last [])
def pool (es : List (Nat × CpInfo)) (last : Nat) : Array CpInfo := ⟨poolList es last⟩
def fileOf (pool : Array CpInfo) (this : Nat) (attrs : Array Attribute := #[]) (ms : Array MethodInfo := #[]) (fl : Nat := 33) (sup : Nat := 0) (ifs : Array Nat := #[]) (fds : Array FieldInfo := #[]) : ClassFile where
  minorVersion := 0
  majorVersion := 65
  constantPool := pool
  accessFlags := fl
  thisClass := this
  superClass := sup
  interfaces := ifs
  fields := fds
  methods := ms
  attributes := attrs
def plain (name : String) (sup : Option ClassId) : Class where
  name := name
  kind := .ordinary
  loader := none
  accessFlags := 33
  super := sup
  interfaces := #[]
  cf := none
  fields := #[]
  methods := #[]
  instanceTypes := #[]
  staticTypes := #[]
  resolved := #[]
  callSites := []
  init := .initialized
  statics := none
  mirror := none

def pool0 : Array CpInfo := pool [(5, u "<init>"), (0, u "()V"), (1, .class_ 10), (1, u "java/lang/Object")] 113

def k0m0 : Method := { name := "<init>", desc := "()V", sig := { parameters := [], returnType := none }, accessFlags := 1, code := none }
/-- java/lang/Object -/
def k0 : Class := { plain "java/lang/Object" none with
  accessFlags := 33
  interfaces := #[]
  cf := some (fileOf pool0 8 #[] #[{ accessFlags := 1, nameIndex := 5, descriptorIndex := 6, attributes := #[] }] 33 0 #[] #[])
  fields := #[]
  methods := #[k0m0]
  instanceTypes := #[]
  staticTypes := #[]
  resolved := Array.replicate 124 none
  statics := none }

def pool1 : Array CpInfo := pool [(2, .class_ 4), (1, u "java/lang/Object"), (0, u "<init>"), (0, u "()V"), (0, .class_ 8), (0, u "com/example/treelational/treelational/xpath/Operator"), (0, .fieldref 7 10), (0, .nameAndType 11 12), (0, u "OR"), (0, u "Lcom/example/treelational/treelational/xpath/Operator;"), (0, .fieldref 7 14), (0, .nameAndType 15 12), (0, u "AND"), (0, .fieldref 7 17), (0, .nameAndType 18 12), (0, u "EQUAL"), (0, .fieldref 7 20), (0, .nameAndType 21 12), (0, u "NOT_EQUAL"), (0, .fieldref 7 23), (0, .nameAndType 24 12), (0, u "LESS"), (0, .fieldref 7 26), (0, .nameAndType 27 12), (0, u "LESS_OR_EQUAL"), (0, .fieldref 7 29), (0, .nameAndType 30 12), (0, u "GREATER"), (0, .fieldref 7 32), (0, .nameAndType 33 12), (0, u "GREATER_OR_EQUAL"), (0, .fieldref 7 35), (0, .nameAndType 36 12), (0, u "PLUS"), (0, .fieldref 7 38), (0, .nameAndType 39 12), (0, u "MINUS"), (0, .fieldref 7 41), (0, .nameAndType 42 12), (0, u "MULTIPLY"), (0, .fieldref 7 44), (0, .nameAndType 45 12), (0, u "DIVIDE"), (0, .fieldref 7 47), (0, .nameAndType 48 12), (0, u "MODULO"), (0, .integer 2147483647), (0, .methodref 7 51), (0, .nameAndType 52 53), (0, u "isComparison"), (0, u "()Z"), (0, .class_ 55), (0, u "com/example/treelational/treelational/xpath/OperatorIsComparisonPinLaw"), (2, u "law"), (0, u "(I)Z")] 5

def k1m0 : Method := { name := "<init>", desc := "()V", sig := { parameters := [], returnType := none }, accessFlags := 1, code := none }
def k1c1 : Code := { maxStack := 4, maxLocals := 5, code := code, exceptionTable := #[], attributes := #[] }
def k1m1 : Method := { name := "law", desc := "(I)Z", sig := { parameters := [.int], returnType := some .boolean }, accessFlags := 9, code := some k1c1 }
/-- com/example/treelational/treelational/xpath/OperatorIsComparisonPinLaw -/
def k1 : Class := { plain "com/example/treelational/treelational/xpath/OperatorIsComparisonPinLaw" (some 0) with
  accessFlags := 49
  interfaces := #[]
  cf := some (fileOf pool1 54 #[] #[{ accessFlags := 1, nameIndex := 5, descriptorIndex := 6, attributes := #[] }, { accessFlags := 9, nameIndex := 58, descriptorIndex := 59, attributes := #[] }] 49 2 #[] #[])
  fields := #[]
  methods := #[k1m0, k1m1]
  instanceTypes := #[]
  staticTypes := #[]
  resolved := Array.replicate 65 none
  statics := none }

def pool2 : Array CpInfo := pool [(1, .class_ 2), (0, u "java/lang/constant/Constable"), (0, .class_ 4), (0, u "java/lang/Object")] 6

/-- java/lang/constant/Constable -/
def k2 : Class := { plain "java/lang/constant/Constable" (some 0) with
  accessFlags := 1537
  interfaces := #[]
  cf := some (fileOf pool2 1 #[] #[] 1537 3 #[] #[])
  fields := #[]
  methods := #[]
  instanceTypes := #[]
  staticTypes := #[]
  resolved := Array.replicate 11 none
  statics := none }

def pool3 : Array CpInfo := pool [(1, .class_ 2), (0, u "java/lang/Comparable"), (0, .class_ 4), (0, u "java/lang/Object")] 7

/-- java/lang/Comparable -/
def k3 : Class := { plain "java/lang/Comparable" (some 0) with
  accessFlags := 1537
  interfaces := #[]
  cf := some (fileOf pool3 1 #[] #[] 1537 3 #[] #[])
  fields := #[]
  methods := #[]
  instanceTypes := #[]
  staticTypes := #[]
  resolved := Array.replicate 12 none
  statics := none }

def pool4 : Array CpInfo := pool [(1, .class_ 2), (0, u "java/io/Serializable"), (0, .class_ 4), (0, u "java/lang/Object")] 2

/-- java/io/Serializable -/
def k4 : Class := { plain "java/io/Serializable" (some 0) with
  accessFlags := 1537
  interfaces := #[]
  cf := some (fileOf pool4 1 #[] #[] 1537 3 #[] #[])
  fields := #[]
  methods := #[]
  instanceTypes := #[]
  staticTypes := #[]
  resolved := Array.replicate 7 none
  statics := none }

def pool5 : Array CpInfo := pool [(2, .class_ 4), (1, u "java/lang/Enum"), (0, u "name"), (0, u "Ljava/lang/String;"), (2, u "ordinal"), (0, u "I"), (1, .class_ 14), (1, u "java/lang/Object"), (4, u "hash"), (86, .class_ 108), (1, u "java/lang/Enum$EnumDesc"), (2, .class_ 112), (0, u "java/lang/constant/Constable"), (0, .class_ 114), (0, u "java/lang/Comparable"), (0, .class_ 116), (0, u "java/io/Serializable")] 87

/-- java/lang/Enum -/
def k5 : Class := { plain "java/lang/Enum" (some 0) with
  accessFlags := 1057
  interfaces := #[2, 3, 4]
  cf := some (fileOf pool5 2 #[.nestMembers #[106]] #[] 1057 12 #[111, 113, 115] #[{ accessFlags := 18, nameIndex := 5, descriptorIndex := 6, attributes := #[] }, { accessFlags := 18, nameIndex := 9, descriptorIndex := 10, attributes := #[] }, { accessFlags := 2, nameIndex := 19, descriptorIndex := 10, attributes := #[] }])
  fields := #[{ name := "name", type := (.object "java/lang/String"), accessFlags := 18, slot := 0, constantValue := 0 }, { name := "ordinal", type := .int, accessFlags := 18, slot := 1, constantValue := 0 }, { name := "hash", type := .int, accessFlags := 2, slot := 2, constantValue := 0 }]
  methods := #[]
  instanceTypes := #[(.object "java/lang/String"), .int, .int]
  staticTypes := #[]
  resolved := Array.replicate 204 none
  statics := none }

def pool6 : Array CpInfo := pool [(1, .class_ 2), (0, u "com/example/treelational/treelational/xpath/Operator"), (2, u "OR"), (0, u "Lcom/example/treelational/treelational/xpath/Operator;"), (2, u "AND"), (0, .fieldref 1 11), (0, .nameAndType 12 6), (0, u "EQUAL"), (2, u "NOT_EQUAL"), (0, .fieldref 1 17), (0, .nameAndType 18 6), (0, u "LESS"), (2, u "LESS_OR_EQUAL"), (2, u "GREATER"), (2, u "GREATER_OR_EQUAL"), (2, u "PLUS"), (2, u "MINUS"), (2, u "MULTIPLY"), (2, u "DIVIDE"), (2, u "MODULO"), (2, u "$VALUES"), (0, u "[Lcom/example/treelational/treelational/xpath/Operator;"), (6, .class_ 55), (1, u "java/lang/Enum"), (8, u "symbol"), (0, u "Ljava/lang/String;"), (0, .fieldref 1 67), (0, .nameAndType 68 69), (0, u "precedence"), (0, u "I"), (57, u "TIGHTEST"), (10, u "()Z"), (0, u "isComparison")] 8

def k6c0 : Code := { maxStack := 2, maxLocals := 1, code := prog_43_method_7_code, exceptionTable := #[], attributes := #[] }
def k6m0 : Method := { name := "isComparison", desc := "()Z", sig := { parameters := [], returnType := some .boolean }, accessFlags := 1, code := some k6c0 }
/-- com/example/treelational/treelational/xpath/Operator -/
def k6 : Class := { plain "com/example/treelational/treelational/xpath/Operator" (some 5) with
  accessFlags := 16433
  interfaces := #[]
  cf := some (fileOf pool6 1 #[] #[{ accessFlags := 1, nameIndex := 139, descriptorIndex := 138, attributes := #[] }] 16433 53 #[] #[{ accessFlags := 16409, nameIndex := 5, descriptorIndex := 6, attributes := #[] }, { accessFlags := 16409, nameIndex := 9, descriptorIndex := 6, attributes := #[] }, { accessFlags := 16409, nameIndex := 12, descriptorIndex := 6, attributes := #[] }, { accessFlags := 16409, nameIndex := 15, descriptorIndex := 6, attributes := #[] }, { accessFlags := 16409, nameIndex := 18, descriptorIndex := 6, attributes := #[] }, { accessFlags := 16409, nameIndex := 21, descriptorIndex := 6, attributes := #[] }, { accessFlags := 16409, nameIndex := 24, descriptorIndex := 6, attributes := #[] }, { accessFlags := 16409, nameIndex := 27, descriptorIndex := 6, attributes := #[] }, { accessFlags := 16409, nameIndex := 30, descriptorIndex := 6, attributes := #[] }, { accessFlags := 16409, nameIndex := 33, descriptorIndex := 6, attributes := #[] }, { accessFlags := 16409, nameIndex := 36, descriptorIndex := 6, attributes := #[] }, { accessFlags := 16409, nameIndex := 39, descriptorIndex := 6, attributes := #[] }, { accessFlags := 16409, nameIndex := 42, descriptorIndex := 6, attributes := #[] }, { accessFlags := 24, nameIndex := 127, descriptorIndex := 69, attributes := #[] }, { accessFlags := 18, nameIndex := 64, descriptorIndex := 65, attributes := #[] }, { accessFlags := 18, nameIndex := 68, descriptorIndex := 69, attributes := #[] }, { accessFlags := 4122, nameIndex := 45, descriptorIndex := 46, attributes := #[] }])
  fields := #[{ name := "OR", type := (.object "com/example/treelational/treelational/xpath/Operator"), accessFlags := 16409, slot := 0, constantValue := 0 }, { name := "AND", type := (.object "com/example/treelational/treelational/xpath/Operator"), accessFlags := 16409, slot := 1, constantValue := 0 }, { name := "EQUAL", type := (.object "com/example/treelational/treelational/xpath/Operator"), accessFlags := 16409, slot := 2, constantValue := 0 }, { name := "NOT_EQUAL", type := (.object "com/example/treelational/treelational/xpath/Operator"), accessFlags := 16409, slot := 3, constantValue := 0 }, { name := "LESS", type := (.object "com/example/treelational/treelational/xpath/Operator"), accessFlags := 16409, slot := 4, constantValue := 0 }, { name := "LESS_OR_EQUAL", type := (.object "com/example/treelational/treelational/xpath/Operator"), accessFlags := 16409, slot := 5, constantValue := 0 }, { name := "GREATER", type := (.object "com/example/treelational/treelational/xpath/Operator"), accessFlags := 16409, slot := 6, constantValue := 0 }, { name := "GREATER_OR_EQUAL", type := (.object "com/example/treelational/treelational/xpath/Operator"), accessFlags := 16409, slot := 7, constantValue := 0 }, { name := "PLUS", type := (.object "com/example/treelational/treelational/xpath/Operator"), accessFlags := 16409, slot := 8, constantValue := 0 }, { name := "MINUS", type := (.object "com/example/treelational/treelational/xpath/Operator"), accessFlags := 16409, slot := 9, constantValue := 0 }, { name := "MULTIPLY", type := (.object "com/example/treelational/treelational/xpath/Operator"), accessFlags := 16409, slot := 10, constantValue := 0 }, { name := "DIVIDE", type := (.object "com/example/treelational/treelational/xpath/Operator"), accessFlags := 16409, slot := 11, constantValue := 0 }, { name := "MODULO", type := (.object "com/example/treelational/treelational/xpath/Operator"), accessFlags := 16409, slot := 12, constantValue := 0 }, { name := "TIGHTEST", type := .int, accessFlags := 24, slot := 13, constantValue := 0 }, { name := "symbol", type := (.object "java/lang/String"), accessFlags := 18, slot := 3, constantValue := 0 }, { name := "precedence", type := .int, accessFlags := 18, slot := 4, constantValue := 0 }, { name := "$VALUES", type := (.array (.object "com/example/treelational/treelational/xpath/Operator")), accessFlags := 4122, slot := 14, constantValue := 0 }]
  methods := #[k6m0]
  instanceTypes := #[(.object "java/lang/String"), .int, .int, (.object "java/lang/String"), .int]
  staticTypes := #[(.object "com/example/treelational/treelational/xpath/Operator"), (.object "com/example/treelational/treelational/xpath/Operator"), (.object "com/example/treelational/treelational/xpath/Operator"), (.object "com/example/treelational/treelational/xpath/Operator"), (.object "com/example/treelational/treelational/xpath/Operator"), (.object "com/example/treelational/treelational/xpath/Operator"), (.object "com/example/treelational/treelational/xpath/Operator"), (.object "com/example/treelational/treelational/xpath/Operator"), (.object "com/example/treelational/treelational/xpath/Operator"), (.object "com/example/treelational/treelational/xpath/Operator"), (.object "com/example/treelational/treelational/xpath/Operator"), (.object "com/example/treelational/treelational/xpath/Operator"), (.object "com/example/treelational/treelational/xpath/Operator"), .int, (.array (.object "com/example/treelational/treelational/xpath/Operator"))]
  resolved := Array.replicate 148 none
  statics := some 0 }

def pool7 : Array CpInfo := pool [(1, u "java/lang/Cloneable"), (0, .class_ 1), (0, u "java/lang/Object"), (0, .class_ 3)] 3

/-- java/lang/Cloneable -/
def k7 : Class := { plain "java/lang/Cloneable" (some 0) with
  accessFlags := 1537
  interfaces := #[]
  cf := some (fileOf pool7 2 #[] #[] 1537 4 #[] #[])
  fields := #[]
  methods := #[]
  instanceTypes := #[]
  staticTypes := #[]
  resolved := Array.replicate 8 none
  statics := none }

/-- the primitive byte -/
def k8 : Class := { plain "byte" none with kind := .primitive 'B', accessFlags := 0x411 }
/-- [B -/
def k9 : Class := { plain "[B" (some 0) with kind := .array 8 .byte, interfaces := #[7, 4], accessFlags := 1041 }

/-- the primitive int -/
def k10 : Class := { plain "int" none with kind := .primitive 'I', accessFlags := 0x411 }
/-- [I -/
def k11 : Class := { plain "[I" (some 0) with kind := .array 10 .int, interfaces := #[7, 4], accessFlags := 1041 }

/-- [Lcom/example/treelational/treelational/xpath/Operator; -/
def k12 : Class := { plain "[Lcom/example/treelational/treelational/xpath/Operator;" (some 0) with kind := .array 6 (.object "com/example/treelational/treelational/xpath/Operator"), interfaces := #[7, 4], accessFlags := 1041 }

def heap : Heap := #[{ cls := 6, slots := #[.ref 1, .ref 2, .ref 3, .ref 4, .ref 5, .ref 6, .ref 7, .ref 8, .ref 9, .ref 10, .ref 11, .ref 12, .ref 13, .int 0, .null], vm := .statics 6 },
  { cls := 6, slots := #[.null, .int 0, .int 0, .null, .int 1], vm := .none },
  { cls := 6, slots := #[.null, .int 1, .int 0, .null, .int 2], vm := .none },
  { cls := 6, slots := #[.null, .int 2, .int 0, .null, .int 3], vm := .none },
  { cls := 6, slots := #[.null, .int 3, .int 0, .null, .int 3], vm := .none },
  { cls := 6, slots := #[.null, .int 4, .int 0, .null, .int 4], vm := .none },
  { cls := 6, slots := #[.null, .int 5, .int 0, .null, .int 4], vm := .none },
  { cls := 6, slots := #[.null, .int 6, .int 0, .null, .int 4], vm := .none },
  { cls := 6, slots := #[.null, .int 7, .int 0, .null, .int 4], vm := .none },
  { cls := 6, slots := #[.null, .int 8, .int 0, .null, .int 5], vm := .none },
  { cls := 6, slots := #[.null, .int 9, .int 0, .null, .int 5], vm := .none },
  { cls := 6, slots := #[.null, .int 10, .int 0, .null, .int 6], vm := .none },
  { cls := 6, slots := #[.null, .int 11, .int 0, .null, .int 6], vm := .none },
  { cls := 6, slots := #[.null, .int 12, .int 0, .null, .int 6], vm := .none }]
def classes : Array Class := #[k0, k1, k2, k3, k4, k5, k6, k7, k8, k9, k10, k11, k12]
def interned : List (Array UInt16 × Addr) := []
def slotsUsed : Nat := 80
def theMethod : MethodId := ⟨1, 1⟩
def args0 : Array Value := #[.int 5]
def aboutOver (below : List Frame) : State where
  vm := { classes := classes, interned := interned.toArray }
  heap := heap
  slotsUsed := slotsUsed
  threads := #[{ frames := .invoking theMethod args0 :: below }]
def below0 : List Frame := [.native { method := ⟨0, 0⟩, args := #[] }]
def about1 : State := aboutOver below0
def p0 : Program := .bare "" "" ""
def e0 : Env := launch0.env 0 0 0
theorem w_frames : about1.frames = Frame.invoking theMethod args0 :: below0 := rfl
set_option maxRecDepth 65536 in
theorem w_args : argsFit about1.vm theMethod args0 = true := by decide +kernel
set_option maxRecDepth 65536 in
theorem w_heap : heapFits about1 = true := by decide +kernel
set_option maxRecDepth 65536 in
theorem w_runnable : about1.curStatus? = some .runnable := by decide +kernel
set_option maxRecDepth 65536 in
theorem w_alone : about1.alone = true := by decide +kernel
set_option maxRecDepth 65536 in
theorem w_named : about1.methodNamed? x = some theMethod := by decide +kernel
set_option maxRecDepth 65536 in
theorem w_hears : about1.hears theMethod below0 = true := by decide +kernel
set_option maxRecDepth 65536 in
theorem w_ripe : about1.ripe theMethod args0 below0 = true := by decide +kernel
theorem w_running : about1.status = .running := rfl
set_option maxRecDepth 65536 in
theorem w_room : about1.hasRoom e0.platform room_1 = true :=
  launch0.hasRoom_least _ room_1 (by decide +kernel) (by decide +kernel) (by decide +kernel) (by decide +kernel) (by decide +kernel) (by decide +kernel)
theorem allAtoms_all (ts : List Jvm.Cond) (a : Array Jvm.Value) (st : Jvm.State) : (allAtoms ts).before a st = ts.all (fun c => c.before a st) := by
  induction ts with
  | nil => rfl
  | cons c t ih =>
    show (Jvm.Cond.and c (allAtoms t)).before a st = _
    rw [Jvm.Cond.before_and, ih, List.all_cons]
def words1 : List Jvm.Cond := Jvm.Cond.code x code maxLocals ret :: tables_1
/-- a 'code' word, met by the world's own term for the bytes: nothing is compared byte by byte -/
theorem code_word {y : MethodName} {bytes : ByteArray} {mx : Nat} {rt : Option FieldType} {a : Array Value} {s : State} {m : MethodId} {meth : Method} {c : Code} (h1 : s.methodNamed? y = some m) (h2 : s.vm.method? m = some meth) (h3 : meth.code = some c) (h4 : c.code = bytes)
    (h5 : (c.maxLocals == mx && c.exceptionTable.isEmpty && decide (c.maxStack ≤ mostOperands) && decide (meth.sig.returnType = rt) && !meth.locks && decide (parseMethodDescriptor y.desc = some meth.sig)) = true) : (Jvm.Cond.code y bytes mx rt).before a s = true := by
  simp only [Bool.and_eq_true, beq_iff_eq, Bool.not_eq_true', decide_eq_true_eq] at h5
  obtain ⟨⟨⟨⟨⟨g1, g2⟩, g3⟩, g4⟩, g5⟩, g6⟩ := h5
  simp [Cond.before, Cond.holds, Cond.value, h1, h2, h3, h4, g1, g2, g3, g4, g5, g6]
def isCode : Jvm.Cond → Bool
  | .code _ _ _ _ => true
  | _ => false
theorem all_split {L : List Jvm.Cond} {P : Jvm.Cond → Bool} (h1 : L.all (fun c => isCode c || P c) = true) (h2 : ∀ c ∈ L.filter isCode, P c = true) : L.all P = true := by
  refine List.all_eq_true.mpr fun c hc => ?_
  have h := List.all_eq_true.mp h1 c hc
  rcases Bool.eq_false_or_eq_true (isCode c) with hi | hi
  · exact h2 c (List.mem_filter.mpr ⟨hc, hi⟩)
  · simpa [hi] using h
set_option maxRecDepth 65536 in
theorem w_c0 : (Jvm.Cond.code x code maxLocals ret).before args0 about1 = true := code_word (m := ⟨1, 1⟩) (meth := k1m1) (c := k1c1) (by decide +kernel) rfl rfl rfl (by decide +kernel)
set_option maxRecDepth 65536 in
theorem w_c1 : (Jvm.Cond.code ({ cls := "com/example/treelational/treelational/xpath/Operator", name := "isComparison", desc := "()Z" } : Jvm.MethodName) prog_43_method_7_code (1 : Nat) (Option.some Jvm.ClassFile.FieldType.boolean)).before args0 about1 = true := code_word (m := ⟨6, 0⟩) (meth := k6m0) (c := k6c0) (by decide +kernel) rfl rfl rfl (by decide +kernel)
def codes1 : List Jvm.Cond := [Jvm.Cond.code x code maxLocals ret, Jvm.Cond.code ({ cls := "com/example/treelational/treelational/xpath/Operator", name := "isComparison", desc := "()Z" } : Jvm.MethodName) prog_43_method_7_code (1 : Nat) (Option.some Jvm.ClassFile.FieldType.boolean)]
set_option maxRecDepth 65536 in
theorem codes_eq : words1.filter isCode = codes1 := rfl
theorem w_codes : ∀ c ∈ words1.filter isCode, c.before args0 about1 = true := by
  rw [codes_eq]
  intro c hc
  simp only [codes1, List.mem_cons, List.not_mem_nil, or_false] at hc
  rcases hc with rfl | rfl
  · exact w_c0
  · exact w_c1
set_option maxRecDepth 65536 in
theorem w_t1 : (words1.take 24).all (fun c => isCode c || c.before args0 about1) = true := by decide +kernel
set_option maxRecDepth 65536 in
theorem w_t2 : (words1.drop 24).all (fun c => isCode c || c.before args0 about1) = true := by decide +kernel
theorem w_tables : (allAtoms (Jvm.Cond.code x code maxLocals ret :: tables_1)).before args0 about1 = true := by
  rw [allAtoms_all]
  show words1.all (fun c => c.before args0 about1) = true
  refine all_split ?_ w_codes
  rw [← List.take_append_drop 24 words1, List.all_append, w_t1, w_t2]
  rfl
set_option maxRecDepth 65536 in
theorem w_case : (Jvm.Cond.and given_1 narrow_1).before args0 about1 = true := by decide +kernel
theorem w_applies : (headSpec (Jvm.Cond.code x code maxLocals ret :: tables_1) room_1).applies x e0.platform about1 = true :=
  (Spec.applies_iff w_frames).mpr ⟨w_running, w_runnable, w_alone, w_named, w_hears, w_ripe, w_room, w_tables⟩
theorem atStart : AtStart classFile x code maxLocals ret World_1 tables_1 room_1 Calls_1 rest_1 Pre_1 launch0 p0 e0 about1 theMethod args0 below0 :=
  ⟨lists_1, trivial, launch0.admits_env _ _ _, launch0.least_env, fairChoices_fair.cas, fairChoices_fair.clock, w_frames, w_args, w_heap, w_applies, trivial, trivial, w_case⟩
end start1
theorem witness_1 : WitnessClaimed_1 := ⟨start1.p0, start1.e0, start1.about1, start1.theMethod, start1.args0, start1.below0, start1.atStart⟩
end Jvm.Pilot.@@N@@
