import JvmDerived
import JvmDerived.Pilot.@@N@@Statement
import JvmDerived.Pilot.@@N@@Code
set_option linter.unusedVariables false
set_option linter.unusedSimpArgs false
namespace Jvm.RoadKit
open Sem ClassFile Op Lib Jvm.Stand Jvm.Free Jvm.LawKit
section New
variable {p : Program} {l : Launch} {e : Env} {R : Room} {s : State} {m : MethodId} {args : Array Value} {below : List Frame} {meth : Method} {c : Code} {T : State} {locs : List Loc} {cells slots : Nat}
theorem retI (X : Stand p l e R s m args below meth c T locs cells slots) (hx : p.tables.exec = Jvm.exec) {pc : Nat} {Ls : Array Slot} {z : Int32} {rest : List Value} (hret : meth.sig.returnType = some .int) (hd : decode c.code pc = .ok (.ireturn, 1)) {fs : List Frame}
    (hl : ∀ (f : JFrame) (acts : List Action), f.method = m → f.locked = none → f.entered = [] → (doReturn e (T.setTop f) acts (some (.int z))).1 = T.setFrames fs) : Steps p.tables e below (T.setTop (mkF m pc Ls (.int z :: rest))) (T.setFrames fs) :=
  retOut X hx hret rfl (Or.inl ⟨rfl, Or.inl rfl, z, rfl⟩) hd hl
end New
section Carry
variable {Z : State} {h h' : Heap} {C n d : String} {v : Value}
theorem own_ns0 : ∀ x ∈ ([] : List Addr), ∀ c : Cell, h[x]? = some c → c.vm.isStatics = false := fun _ q => nomatch q
theorem own_nsS {a : Addr} {K : String} {L : List Addr} (F : Exa Z h a K) (r : ∀ x ∈ L, ∀ c : Cell, h[x]? = some c → c.vm.isStatics = false) : ∀ x ∈ a :: L, ∀ c : Cell, h[x]? = some c → c.vm.isStatics = false := fun x z c hc => by
  rcases List.mem_cons.mp z with rfl | z
  · obtain ⟨c1, _, h1, -, -, h4, -⟩ := F
    cases h1.symm.trans hc; exact h4
  · exact r x z c hc
theorem own_sta_keep {ws : List Addr} (F : Sta Z h C n d v) (K : Keep h h' ws) (q : ∀ x ∈ ws, ∀ c : Cell, h[x]? = some c → c.vm.isStatics = false) : Sta Z h' C n d v := by
  obtain ⟨cf, i, k, f, st, cell, h1, h2, h3, h4, h5, h6, h7⟩ := F
  exact ⟨cf, i, k, f, st, cell, h1, h2, h3, h4, K.2.1 st cell h5 (fun z => by rw [q st z cell h5] at h6; cases h6), h6, h7⟩
theorem own_fitc {a : Addr} {cl : Cell} {ty : FieldType} {vs : List Value} {d : Value} (A : Arr Z h a cl ty) (H : Has cl vs d) (G : ∀ i, i < cl.slots.size → fits ty (vs.getD i d) = true) : FitC Z cl :=
  fitC_of A fun i hi v hv => by rw [H i hi] at hv; cases hv; exact G i hi
theorem own_evI {args : Array Value} {s : State} {t : Term} {k : Int32} (hh : (Cond.eq t (.int k)).value args s none s [] = some true) : t.eval args s none [] s = some (.int k) := by
  cases hf : t.eval args s none [] s with
  | none => simp [Cond.value, hf] at hh
  | some w => cases w <;> simp [Cond.value, hf, Term.eval] at hh ⊢; exact hh
theorem own_evJ {args : Array Value} {s : State} {t : Term} {k : Int64} (hh : (Cond.eq t (.long k)).value args s none s [] = some true) : t.eval args s none [] s = some (.long k) := by
  cases hf : t.eval args s none [] s with
  | none => simp [Cond.value, hf] at hh
  | some w => cases w <;> simp [Cond.value, hf, Term.eval] at hh ⊢; exact hh
theorem own_evR {args : Array Value} {s : State} {t u : Term} {y : Addr} (hu : u.eval args s none [] s = some (.ref y)) (hh : (Cond.eq t u).value args s none s [] = some true) : t.eval args s none [] s = some (.ref y) := by
  cases hf : t.eval args s none [] s with
  | none => simp [Cond.value, hf] at hh
  | some w => cases w <;> simp [Cond.value, hf, hu] at hh ⊢; exact hh
theorem own_elem {args : Array Value} {s : State} {t u : Term} {x y : Addr} {k : Int32} {cl : Cell} (ht : t.eval args s none [] s = some (.ref x)) (hu : u.eval args s none [] s = some (.ref y)) (hc : s.heap[x]? = some cl) (hh : (Cond.eq (.elem t (.int k)) u).value args s none s [] = some true) : cl.slots[k.toNatClampNeg]? = some (.ref y) :=
  (elem_in (own_evR hu hh) ht rfl hc).2
theorem own_arv {args : Array Value} {s : State} {t : Term} {a : Addr} {c : Cell} {ty : FieldType} {z : Int32} {vs : List Value} {dv : Value} (hf : Fit s) (ev : t.eval args s none [] s = some (.ref a)) (A : Arr s s.heap a c ty) (hl : (Cond.eq (.length t) (.int z)).value args s none s [] = some true) (hz : ¬ z < 0) (hn : z.toNatClampNeg = vs.length) (H : HasL c 0 vs) : Arv s s.heap a c.cls ty z vs dv := by
  have e1 := own_evI hl
  have e2 : s.arrayAt? a = some c := A.fin (Vm.Alike.refl _)
  have q : c.slots.size < 2 ^ 31 := by
    apply Decidable.byContradiction
    intro hq
    simp [Term.eval, ev, e2, hq] at e1
  have e3 := len_f ev e2 q
  exact Arv.start hf A q (Value.int.inj (Option.some.inj (e3.symm.trans e1))) hz hn H
theorem own_lam {s : State} {a0 : Array Value} {y : MethodName} {m : MethodId} {pc index : Nat} {σ : Lambda.Shape} (hZ : Z.Warmed39 s.vm) (w : (Cond.lambdaSite y pc index σ).before a0 Z = true) (hcap : σ.captured = []) (hn : s.methodNamed? y = some m) :
    ∃ (k : Class) (i0 p0 : Nat) (a : Addr), s.vm.classes[m.cls]? = some k ∧ (k.callSites.find? fun z => z.1 == m.idx && z.2.1 == pc) = some (i0, p0, .constant a) := by
  obtain ⟨c, one, hat⟩ := Cond.lambdaSite_spec w
  obtain ⟨m', kS, cfS, i0, p0, lk, hm', hkS, -, -, -, hfind, -, -, hlk⟩ := State.lambdaAt?_spec hat
  have e1 : s.methodNamed? y = Z.methodNamed? y := State.methodNamed?_setVm (s := Z) hZ.alike y
  rw [e1, hm'] at hn
  cases hn
  obtain ⟨k', hk', he⟩ := hZ.alike.2.2 _ _ hkS
  rcases hlk with ⟨a, cell, rfl, -⟩ | ⟨-, -, h⟩
  · exact ⟨k', i0, p0, a, hk', by rw [he]; exact hfind⟩
  · exact absurd hcap h
theorem own_cmp_self (x : Int64) : lcmpW x x = 0 := (lcW x x).trans ((lc_eq x x).mpr rfl)
theorem own_cmp_lt (x : Int64) : ¬ (lcmpW x x < (0 : Int32)) := by rw [own_cmp_self]; decide
theorem own_cmp_gt (x : Int64) : ¬ ((0 : Int32) < lcmpW x x) := by rw [own_cmp_self]; decide
theorem own_sel_priv {s : State} {args args' : Array Value} {K : String} {y z z' : MethodName} (w : (Cond.selects K z' z).before args s = true) (hz : z.cls = y.cls) (hpriv : s.PrivateAt y) (hinst : (Cond.instanceMethod y).before args' s = true) (hy : y.cls ≠ "java/lang/invoke/MethodHandle" ∧ y.cls ≠ "java/lang/invoke/VarHandle") : (Cond.selects y.cls y y).before args' s = true := by
  obtain ⟨c2, r2, m2, q1, q2, q3, q4, kP, hkP, hkPi⟩ := Cond.selects_spec w
  have hc : s.vm.findClass z.cls = some m2.cls := findClass_of_methodNamed q3
  rw [hz] at hc
  exact selects_self_of_private hc hkP hkPi hpriv hinst hy
theorem own_lt_ne {a b : Int32} (q : a < b) : ¬ (a = b) := by intro z; subst z; exact Int32.lt_irrefl q
theorem own_gt_ne {a b : Int32} (q : b < a) : ¬ (a = b) := by intro z; subst z; exact Int32.lt_irrefl q
theorem own_eq_nlt {a b : Int32} (q : a = b) : ¬ (a < b) := by subst q; exact Int32.lt_irrefl
theorem own_nlt {a b : Int32} (q : b < a) : ¬ (a < b) := fun z => Int32.lt_irrefl (Int32.lt_trans z q)
theorem own_tri2 {a b : Int32} (q : ¬ (a = b)) (r : ¬ (b < a)) : a < b := by
  rw [← Int32.toInt_inj] at q; rw [Int32.lt_iff_toInt_lt] at r ⊢; omega
theorem own_fldI {args : Array Value} {s : State} {t : Term} {x : Addr} {C n d : String} {k : Int32} (ht : t.eval args s none [] s = some (.ref x)) (hh : (Cond.eq (.field t C n d) (.int k)).value args s none s [] = some true) : Fld s s.heap x C n d (.int k) :=
  Fld.start ((fld_at ht).symm.trans (own_evI hh))
theorem own_fldJ {args : Array Value} {s : State} {t : Term} {x : Addr} {C n d : String} {k : Int64} (ht : t.eval args s none [] s = some (.ref x)) (hh : (Cond.eq (.field t C n d) (.long k)).value args s none s [] = some true) : Fld s s.heap x C n d (.long k) :=
  Fld.start ((fld_at ht).symm.trans (own_evJ hh))
theorem own_fldN {args : Array Value} {s : State} {t : Term} {x : Addr} {C n d : String} (ht : t.eval args s none [] s = some (.ref x)) (hh : (Cond.eq (.field t C n d) .null).value args s none s [] = some true) : Fld s s.heap x C n d .null := by
  refine Fld.start ?_
  have e1 : (Term.field t C n d).eval args s none [] s = s.fieldOf? x C n d := fld_at ht
  rw [← e1]; exact null_v hh
theorem own_fldR {args : Array Value} {s : State} {t u : Term} {x y : Addr} {C n d : String} (ht : t.eval args s none [] s = some (.ref x)) (hu : u.eval args s none [] s = some (.ref y)) (hh : (Cond.eq (.field t C n d) u).value args s none s [] = some true) : Fld s s.heap x C n d (.ref y) :=
  Fld.start ((fld_at ht).symm.trans (own_evR hu hh))
end Carry
end Jvm.RoadKit
namespace Jvm.Pilot.@@N@@
open Jvm Jvm.ClassFile Sem Op Lib Jvm.Free Jvm.Stand Jvm.LawKit Jvm.RoadKit Bundle Jvm.Pilot.@@N@@.Jvm.D
theorem own_en28 (x : Int32) : ((x &&& (2147483647 : Int32)) % (28 : Int32)) = (0 : Int32) ∨ ((x &&& (2147483647 : Int32)) % (28 : Int32)) = (1 : Int32) ∨ ((x &&& (2147483647 : Int32)) % (28 : Int32)) = (2 : Int32) ∨ ((x &&& (2147483647 : Int32)) % (28 : Int32)) = (3 : Int32) ∨ ((x &&& (2147483647 : Int32)) % (28 : Int32)) = (4 : Int32) ∨ ((x &&& (2147483647 : Int32)) % (28 : Int32)) = (5 : Int32) ∨ ((x &&& (2147483647 : Int32)) % (28 : Int32)) = (6 : Int32) ∨ ((x &&& (2147483647 : Int32)) % (28 : Int32)) = (7 : Int32) ∨ ((x &&& (2147483647 : Int32)) % (28 : Int32)) = (8 : Int32) ∨ ((x &&& (2147483647 : Int32)) % (28 : Int32)) = (9 : Int32) ∨ ((x &&& (2147483647 : Int32)) % (28 : Int32)) = (10 : Int32) ∨ ((x &&& (2147483647 : Int32)) % (28 : Int32)) = (11 : Int32) ∨ ((x &&& (2147483647 : Int32)) % (28 : Int32)) = (12 : Int32) ∨ ((x &&& (2147483647 : Int32)) % (28 : Int32)) = (13 : Int32) ∨ ((x &&& (2147483647 : Int32)) % (28 : Int32)) = (14 : Int32) ∨ ((x &&& (2147483647 : Int32)) % (28 : Int32)) = (15 : Int32) ∨ ((x &&& (2147483647 : Int32)) % (28 : Int32)) = (16 : Int32) ∨ ((x &&& (2147483647 : Int32)) % (28 : Int32)) = (17 : Int32) ∨ ((x &&& (2147483647 : Int32)) % (28 : Int32)) = (18 : Int32) ∨ ((x &&& (2147483647 : Int32)) % (28 : Int32)) = (19 : Int32) ∨ ((x &&& (2147483647 : Int32)) % (28 : Int32)) = (20 : Int32) ∨ ((x &&& (2147483647 : Int32)) % (28 : Int32)) = (21 : Int32) ∨ ((x &&& (2147483647 : Int32)) % (28 : Int32)) = (22 : Int32) ∨ ((x &&& (2147483647 : Int32)) % (28 : Int32)) = (23 : Int32) ∨ ((x &&& (2147483647 : Int32)) % (28 : Int32)) = (24 : Int32) ∨ ((x &&& (2147483647 : Int32)) % (28 : Int32)) = (25 : Int32) ∨ ((x &&& (2147483647 : Int32)) % (28 : Int32)) = (26 : Int32) ∨ ((x &&& (2147483647 : Int32)) % (28 : Int32)) = (27 : Int32) := by
  have e1 := c_mask x (2147483647 : Int32) 31 (by decide) (by decide)
  have e2 : ((x &&& (2147483647 : Int32)) % (28 : Int32)).toInt = (x &&& (2147483647 : Int32)).toInt.tmod (28 : Int32).toInt := Int32.toInt_mod _ _
  have e3 : (28 : Int32).toInt = 28 := by decide
  have h0 : 0 ≤ (x &&& (2147483647 : Int32)).toInt := by first | omega | (rw [e1]; exact Int.emod_nonneg _ (by decide))
  rw [e3, Int.tmod_eq_emod_of_nonneg h0] at e2
  simp only [← Int32.toInt_inj]
  have l0 : (0 : Int32).toInt = 0 := by decide
  have l1 : (1 : Int32).toInt = 1 := by decide
  have l2 : (2 : Int32).toInt = 2 := by decide
  have l3 : (3 : Int32).toInt = 3 := by decide
  have l4 : (4 : Int32).toInt = 4 := by decide
  have l5 : (5 : Int32).toInt = 5 := by decide
  have l6 : (6 : Int32).toInt = 6 := by decide
  have l7 : (7 : Int32).toInt = 7 := by decide
  have l8 : (8 : Int32).toInt = 8 := by decide
  have l9 : (9 : Int32).toInt = 9 := by decide
  have l10 : (10 : Int32).toInt = 10 := by decide
  have l11 : (11 : Int32).toInt = 11 := by decide
  have l12 : (12 : Int32).toInt = 12 := by decide
  have l13 : (13 : Int32).toInt = 13 := by decide
  have l14 : (14 : Int32).toInt = 14 := by decide
  have l15 : (15 : Int32).toInt = 15 := by decide
  have l16 : (16 : Int32).toInt = 16 := by decide
  have l17 : (17 : Int32).toInt = 17 := by decide
  have l18 : (18 : Int32).toInt = 18 := by decide
  have l19 : (19 : Int32).toInt = 19 := by decide
  have l20 : (20 : Int32).toInt = 20 := by decide
  have l21 : (21 : Int32).toInt = 21 := by decide
  have l22 : (22 : Int32).toInt = 22 := by decide
  have l23 : (23 : Int32).toInt = 23 := by decide
  have l24 : (24 : Int32).toInt = 24 := by decide
  have l25 : (25 : Int32).toInt = 25 := by decide
  have l26 : (26 : Int32).toInt = 26 := by decide
  have l27 : (27 : Int32).toInt = 27 := by decide
  rw [l0, l1, l2, l3, l4, l5, l6, l7, l8, l9, l10, l11, l12, l13, l14, l15, l16, l17, l18, l19, l20, l21, l22, l23, l24, l25, l26, l27]
  omega
theorem own_w7 {Z : State} {a0 : Array Value} (hw : ∀ d ∈ tables_1, d.before a0 Z = true) : (Jvm.Cond.laysStatic "com/example/delehat/delehat/protocols/epp/ResultCode" "SUCCESS" "Lcom/example/delehat/delehat/protocols/epp/ResultCode;").before a0 Z = true := hw _ (List.mem_of_getElem? (i := 7) rfl)
theorem own_w6 {Z : State} {a0 : Array Value} (hw : ∀ d ∈ tables_1, d.before a0 Z = true) : (Jvm.Cond.initialized "com/example/delehat/delehat/protocols/epp/ResultCode").before a0 Z = true := hw _ (List.mem_of_getElem? (i := 6) rfl)
theorem own_w54 {Z : State} {a0 : Array Value} (hw : ∀ d ∈ tables_1, d.before a0 Z = true) : (Jvm.Cond.laysStatic "com/example/delehat/delehat/protocols/epp/ResultCode" "SUCCESS_ACK_TO_DEQUEUE" "Lcom/example/delehat/delehat/protocols/epp/ResultCode;").before a0 Z = true := hw _ (List.mem_of_getElem? (i := 54) rfl)
theorem own_w56 {Z : State} {a0 : Array Value} (hw : ∀ d ∈ tables_1, d.before a0 Z = true) : (Jvm.Cond.laysStatic "com/example/delehat/delehat/protocols/epp/ResultCode" "COMMAND_FAILED" "Lcom/example/delehat/delehat/protocols/epp/ResultCode;").before a0 Z = true := hw _ (List.mem_of_getElem? (i := 56) rfl)
theorem own_w58 {Z : State} {a0 : Array Value} (hw : ∀ d ∈ tables_1, d.before a0 Z = true) : (Jvm.Cond.laysStatic "com/example/delehat/delehat/protocols/epp/ResultCode" "AUTHENTICATION_ERROR_CLOSING" "Lcom/example/delehat/delehat/protocols/epp/ResultCode;").before a0 Z = true := hw _ (List.mem_of_getElem? (i := 58) rfl)
theorem own_w60 {Z : State} {a0 : Array Value} (hw : ∀ d ∈ tables_1, d.before a0 Z = true) : (Jvm.Cond.laysStatic "com/example/delehat/delehat/protocols/epp/ResultCode" "OBJECT_PENDING_TRANSFER" "Lcom/example/delehat/delehat/protocols/epp/ResultCode;").before a0 Z = true := hw _ (List.mem_of_getElem? (i := 60) rfl)
theorem own_w62 {Z : State} {a0 : Array Value} (hw : ∀ d ∈ tables_1, d.before a0 Z = true) : (Jvm.Cond.laysStatic "com/example/delehat/delehat/protocols/epp/ResultCode" "REQUIRED_PARAMETER_MISSING" "Lcom/example/delehat/delehat/protocols/epp/ResultCode;").before a0 Z = true := hw _ (List.mem_of_getElem? (i := 62) rfl)
theorem own_w64 {Z : State} {a0 : Array Value} (hw : ∀ d ∈ tables_1, d.before a0 Z = true) : (Jvm.Cond.laysStatic "com/example/delehat/delehat/protocols/epp/ResultCode" "SUCCESS_NO_MESSAGES" "Lcom/example/delehat/delehat/protocols/epp/ResultCode;").before a0 Z = true := hw _ (List.mem_of_getElem? (i := 64) rfl)
theorem own_w66 {Z : State} {a0 : Array Value} (hw : ∀ d ∈ tables_1, d.before a0 Z = true) : (Jvm.Cond.laysStatic "com/example/delehat/delehat/protocols/epp/ResultCode" "UNIMPLEMENTED_COMMAND" "Lcom/example/delehat/delehat/protocols/epp/ResultCode;").before a0 Z = true := hw _ (List.mem_of_getElem? (i := 66) rfl)
theorem own_w68 {Z : State} {a0 : Array Value} (hw : ∀ d ∈ tables_1, d.before a0 Z = true) : (Jvm.Cond.laysStatic "com/example/delehat/delehat/protocols/epp/ResultCode" "PARAMETER_VALUE_POLICY_ERROR" "Lcom/example/delehat/delehat/protocols/epp/ResultCode;").before a0 Z = true := hw _ (List.mem_of_getElem? (i := 68) rfl)
theorem own_w70 {Z : State} {a0 : Array Value} (hw : ∀ d ∈ tables_1, d.before a0 Z = true) : (Jvm.Cond.laysStatic "com/example/delehat/delehat/protocols/epp/ResultCode" "PARAMETER_VALUE_RANGE_ERROR" "Lcom/example/delehat/delehat/protocols/epp/ResultCode;").before a0 Z = true := hw _ (List.mem_of_getElem? (i := 70) rfl)
theorem own_w72 {Z : State} {a0 : Array Value} (hw : ∀ d ∈ tables_1, d.before a0 Z = true) : (Jvm.Cond.laysStatic "com/example/delehat/delehat/protocols/epp/ResultCode" "SUCCESS_PENDING" "Lcom/example/delehat/delehat/protocols/epp/ResultCode;").before a0 Z = true := hw _ (List.mem_of_getElem? (i := 72) rfl)
theorem own_w74 {Z : State} {a0 : Array Value} (hw : ∀ d ∈ tables_1, d.before a0 Z = true) : (Jvm.Cond.laysStatic "com/example/delehat/delehat/protocols/epp/ResultCode" "UNIMPLEMENTED_PROTOCOL_VERSION" "Lcom/example/delehat/delehat/protocols/epp/ResultCode;").before a0 Z = true := hw _ (List.mem_of_getElem? (i := 74) rfl)
theorem own_w76 {Z : State} {a0 : Array Value} (hw : ∀ d ∈ tables_1, d.before a0 Z = true) : (Jvm.Cond.laysStatic "com/example/delehat/delehat/protocols/epp/ResultCode" "PARAMETER_VALUE_SYNTAX_ERROR" "Lcom/example/delehat/delehat/protocols/epp/ResultCode;").before a0 Z = true := hw _ (List.mem_of_getElem? (i := 76) rfl)
theorem own_w78 {Z : State} {a0 : Array Value} (hw : ∀ d ∈ tables_1, d.before a0 Z = true) : (Jvm.Cond.laysStatic "com/example/delehat/delehat/protocols/epp/ResultCode" "OBJECT_NOT_PENDING_TRANSFER" "Lcom/example/delehat/delehat/protocols/epp/ResultCode;").before a0 Z = true := hw _ (List.mem_of_getElem? (i := 78) rfl)
theorem own_w80 {Z : State} {a0 : Array Value} (hw : ∀ d ∈ tables_1, d.before a0 Z = true) : (Jvm.Cond.laysStatic "com/example/delehat/delehat/protocols/epp/ResultCode" "AUTHORIZATION_ERROR" "Lcom/example/delehat/delehat/protocols/epp/ResultCode;").before a0 Z = true := hw _ (List.mem_of_getElem? (i := 80) rfl)
theorem own_w82 {Z : State} {a0 : Array Value} (hw : ∀ d ∈ tables_1, d.before a0 Z = true) : (Jvm.Cond.laysStatic "com/example/delehat/delehat/protocols/epp/ResultCode" "AUTHENTICATION_ERROR" "Lcom/example/delehat/delehat/protocols/epp/ResultCode;").before a0 Z = true := hw _ (List.mem_of_getElem? (i := 82) rfl)
theorem own_w84 {Z : State} {a0 : Array Value} (hw : ∀ d ∈ tables_1, d.before a0 Z = true) : (Jvm.Cond.laysStatic "com/example/delehat/delehat/protocols/epp/ResultCode" "COMMAND_USE_ERROR" "Lcom/example/delehat/delehat/protocols/epp/ResultCode;").before a0 Z = true := hw _ (List.mem_of_getElem? (i := 84) rfl)
theorem own_w86 {Z : State} {a0 : Array Value} (hw : ∀ d ∈ tables_1, d.before a0 Z = true) : (Jvm.Cond.laysStatic "com/example/delehat/delehat/protocols/epp/ResultCode" "OBJECT_EXISTS" "Lcom/example/delehat/delehat/protocols/epp/ResultCode;").before a0 Z = true := hw _ (List.mem_of_getElem? (i := 86) rfl)
theorem own_w88 {Z : State} {a0 : Array Value} (hw : ∀ d ∈ tables_1, d.before a0 Z = true) : (Jvm.Cond.laysStatic "com/example/delehat/delehat/protocols/epp/ResultCode" "OBJECT_ASSOCIATION_PROHIBITS_OPERATION" "Lcom/example/delehat/delehat/protocols/epp/ResultCode;").before a0 Z = true := hw _ (List.mem_of_getElem? (i := 88) rfl)
theorem own_w90 {Z : State} {a0 : Array Value} (hw : ∀ d ∈ tables_1, d.before a0 Z = true) : (Jvm.Cond.laysStatic "com/example/delehat/delehat/protocols/epp/ResultCode" "UNIMPLEMENTED_EXTENSION" "Lcom/example/delehat/delehat/protocols/epp/ResultCode;").before a0 Z = true := hw _ (List.mem_of_getElem? (i := 90) rfl)
theorem own_w92 {Z : State} {a0 : Array Value} (hw : ∀ d ∈ tables_1, d.before a0 Z = true) : (Jvm.Cond.laysStatic "com/example/delehat/delehat/protocols/epp/ResultCode" "SUCCESS_ENDING_SESSION" "Lcom/example/delehat/delehat/protocols/epp/ResultCode;").before a0 Z = true := hw _ (List.mem_of_getElem? (i := 92) rfl)
theorem own_w94 {Z : State} {a0 : Array Value} (hw : ∀ d ∈ tables_1, d.before a0 Z = true) : (Jvm.Cond.laysStatic "com/example/delehat/delehat/protocols/epp/ResultCode" "OBJECT_STATUS_PROHIBITS_OPERATION" "Lcom/example/delehat/delehat/protocols/epp/ResultCode;").before a0 Z = true := hw _ (List.mem_of_getElem? (i := 94) rfl)
theorem own_w96 {Z : State} {a0 : Array Value} (hw : ∀ d ∈ tables_1, d.before a0 Z = true) : (Jvm.Cond.laysStatic "com/example/delehat/delehat/protocols/epp/ResultCode" "INVALID_AUTHORIZATION_INFORMATION" "Lcom/example/delehat/delehat/protocols/epp/ResultCode;").before a0 Z = true := hw _ (List.mem_of_getElem? (i := 96) rfl)
theorem own_w98 {Z : State} {a0 : Array Value} (hw : ∀ d ∈ tables_1, d.before a0 Z = true) : (Jvm.Cond.laysStatic "com/example/delehat/delehat/protocols/epp/ResultCode" "OBJECT_NOT_ELIGIBLE_FOR_TRANSFER" "Lcom/example/delehat/delehat/protocols/epp/ResultCode;").before a0 Z = true := hw _ (List.mem_of_getElem? (i := 98) rfl)
theorem own_w100 {Z : State} {a0 : Array Value} (hw : ∀ d ∈ tables_1, d.before a0 Z = true) : (Jvm.Cond.laysStatic "com/example/delehat/delehat/protocols/epp/ResultCode" "COMMAND_SYNTAX_ERROR" "Lcom/example/delehat/delehat/protocols/epp/ResultCode;").before a0 Z = true := hw _ (List.mem_of_getElem? (i := 100) rfl)
theorem own_w102 {Z : State} {a0 : Array Value} (hw : ∀ d ∈ tables_1, d.before a0 Z = true) : (Jvm.Cond.laysStatic "com/example/delehat/delehat/protocols/epp/ResultCode" "UNIMPLEMENTED_OPTION" "Lcom/example/delehat/delehat/protocols/epp/ResultCode;").before a0 Z = true := hw _ (List.mem_of_getElem? (i := 102) rfl)
theorem own_w104 {Z : State} {a0 : Array Value} (hw : ∀ d ∈ tables_1, d.before a0 Z = true) : (Jvm.Cond.laysStatic "com/example/delehat/delehat/protocols/epp/ResultCode" "UNIMPLEMENTED_OBJECT_SERVICE" "Lcom/example/delehat/delehat/protocols/epp/ResultCode;").before a0 Z = true := hw _ (List.mem_of_getElem? (i := 104) rfl)
theorem own_w106 {Z : State} {a0 : Array Value} (hw : ∀ d ∈ tables_1, d.before a0 Z = true) : (Jvm.Cond.laysStatic "com/example/delehat/delehat/protocols/epp/ResultCode" "OBJECT_DOES_NOT_EXIST" "Lcom/example/delehat/delehat/protocols/epp/ResultCode;").before a0 Z = true := hw _ (List.mem_of_getElem? (i := 106) rfl)
theorem own_w0 {Z : State} {a0 : Array Value} (hw : ∀ d ∈ tables_1, d.before a0 Z = true) : (Jvm.Cond.constant "com/example/delehat/delehat/protocols/epp/PayloadOfPinLaw" (94 : Nat) (2147483647 : Int32)).before a0 Z = true := hw _ (List.mem_of_getElem? (i := 0) rfl)
theorem own_w1 {Z : State} {a0 : Array Value} (hw : ∀ d ∈ tables_1, d.before a0 Z = true) : (Jvm.Cond.methodLink "com/example/delehat/delehat/protocols/epp/PayloadOfPinLaw" (95 : Nat) ({ cls := "com/example/delehat/delehat/protocols/epp/PayloadOfPinLaw", name := "pick", desc := "(I)Lcom/example/delehat/delehat/protocols/epp/ResultCode;" } : Jvm.MethodName)).before a0 Z = true := hw _ (List.mem_of_getElem? (i := 1) rfl)
theorem d1_0 : decode method_2_code 0 = .ok (.iload_n 0, 1) := by decide +kernel
theorem d1_1 : decode method_2_code 1 = .ok (.ifCond .ne 7, 3) := by decide +kernel
theorem d1_4 : decode method_2_code 4 = .ok (.getstatic 7, 3) := by decide +kernel
theorem own_w5 {Z : State} {a0 : Array Value} (hw : ∀ d ∈ tables_1, d.before a0 Z = true) : (Jvm.Cond.fieldLink "com/example/delehat/delehat/protocols/epp/PayloadOfPinLaw" (7 : Nat) "com/example/delehat/delehat/protocols/epp/ResultCode" "SUCCESS" "Lcom/example/delehat/delehat/protocols/epp/ResultCode;").before a0 Z = true := hw _ (List.mem_of_getElem? (i := 5) rfl)
theorem d1_7 : decode method_2_code 7 = .ok (.areturn, 1) := by decide +kernel
theorem pn_com_example_delehat_delehat_protocols_epp_PayloadOfPinLaw : plainName "com/example/delehat/delehat/protocols/epp/PayloadOfPinLaw" = true := by first | (simp [plainName, overriddenIn]; done) | decide +kernel
theorem d1_8 : decode method_2_code 8 = .ok (.iload_n 0, 1) := by decide +kernel
theorem d1_9 : decode method_2_code 9 = .ok (.iconst 1, 1) := by decide +kernel
theorem d1_10 : decode method_2_code 10 = .ok (.if_icmp .ne 7, 3) := by decide +kernel
theorem d1_13 : decode method_2_code 13 = .ok (.getstatic 13, 3) := by decide +kernel
theorem own_w71 {Z : State} {a0 : Array Value} (hw : ∀ d ∈ tables_1, d.before a0 Z = true) : (Jvm.Cond.fieldLink "com/example/delehat/delehat/protocols/epp/PayloadOfPinLaw" (13 : Nat) "com/example/delehat/delehat/protocols/epp/ResultCode" "SUCCESS_PENDING" "Lcom/example/delehat/delehat/protocols/epp/ResultCode;").before a0 Z = true := hw _ (List.mem_of_getElem? (i := 71) rfl)
theorem d1_16 : decode method_2_code 16 = .ok (.areturn, 1) := by decide +kernel
theorem d1_17 : decode method_2_code 17 = .ok (.iload_n 0, 1) := by decide +kernel
theorem d1_18 : decode method_2_code 18 = .ok (.iconst 2, 1) := by decide +kernel
theorem d1_19 : decode method_2_code 19 = .ok (.if_icmp .ne 7, 3) := by decide +kernel
theorem d1_22 : decode method_2_code 22 = .ok (.getstatic 16, 3) := by decide +kernel
theorem own_w63 {Z : State} {a0 : Array Value} (hw : ∀ d ∈ tables_1, d.before a0 Z = true) : (Jvm.Cond.fieldLink "com/example/delehat/delehat/protocols/epp/PayloadOfPinLaw" (16 : Nat) "com/example/delehat/delehat/protocols/epp/ResultCode" "SUCCESS_NO_MESSAGES" "Lcom/example/delehat/delehat/protocols/epp/ResultCode;").before a0 Z = true := hw _ (List.mem_of_getElem? (i := 63) rfl)
theorem d1_25 : decode method_2_code 25 = .ok (.areturn, 1) := by decide +kernel
theorem d1_26 : decode method_2_code 26 = .ok (.iload_n 0, 1) := by decide +kernel
theorem d1_27 : decode method_2_code 27 = .ok (.iconst 3, 1) := by decide +kernel
theorem d1_28 : decode method_2_code 28 = .ok (.if_icmp .ne 7, 3) := by decide +kernel
theorem d1_31 : decode method_2_code 31 = .ok (.getstatic 19, 3) := by decide +kernel
theorem own_w53 {Z : State} {a0 : Array Value} (hw : ∀ d ∈ tables_1, d.before a0 Z = true) : (Jvm.Cond.fieldLink "com/example/delehat/delehat/protocols/epp/PayloadOfPinLaw" (19 : Nat) "com/example/delehat/delehat/protocols/epp/ResultCode" "SUCCESS_ACK_TO_DEQUEUE" "Lcom/example/delehat/delehat/protocols/epp/ResultCode;").before a0 Z = true := hw _ (List.mem_of_getElem? (i := 53) rfl)
theorem d1_34 : decode method_2_code 34 = .ok (.areturn, 1) := by decide +kernel
theorem d1_35 : decode method_2_code 35 = .ok (.iload_n 0, 1) := by decide +kernel
theorem d1_36 : decode method_2_code 36 = .ok (.iconst 4, 1) := by decide +kernel
theorem d1_37 : decode method_2_code 37 = .ok (.if_icmp .ne 7, 3) := by decide +kernel
theorem d1_40 : decode method_2_code 40 = .ok (.getstatic 22, 3) := by decide +kernel
theorem own_w91 {Z : State} {a0 : Array Value} (hw : ∀ d ∈ tables_1, d.before a0 Z = true) : (Jvm.Cond.fieldLink "com/example/delehat/delehat/protocols/epp/PayloadOfPinLaw" (22 : Nat) "com/example/delehat/delehat/protocols/epp/ResultCode" "SUCCESS_ENDING_SESSION" "Lcom/example/delehat/delehat/protocols/epp/ResultCode;").before a0 Z = true := hw _ (List.mem_of_getElem? (i := 91) rfl)
theorem d1_43 : decode method_2_code 43 = .ok (.areturn, 1) := by decide +kernel
theorem d1_44 : decode method_2_code 44 = .ok (.iload_n 0, 1) := by decide +kernel
theorem d1_45 : decode method_2_code 45 = .ok (.iconst 5, 1) := by decide +kernel
theorem d1_46 : decode method_2_code 46 = .ok (.if_icmp .ne 7, 3) := by decide +kernel
theorem d1_49 : decode method_2_code 49 = .ok (.getstatic 25, 3) := by decide +kernel
theorem own_w99 {Z : State} {a0 : Array Value} (hw : ∀ d ∈ tables_1, d.before a0 Z = true) : (Jvm.Cond.fieldLink "com/example/delehat/delehat/protocols/epp/PayloadOfPinLaw" (25 : Nat) "com/example/delehat/delehat/protocols/epp/ResultCode" "COMMAND_SYNTAX_ERROR" "Lcom/example/delehat/delehat/protocols/epp/ResultCode;").before a0 Z = true := hw _ (List.mem_of_getElem? (i := 99) rfl)
theorem d1_52 : decode method_2_code 52 = .ok (.areturn, 1) := by decide +kernel
theorem d1_53 : decode method_2_code 53 = .ok (.iload_n 0, 1) := by decide +kernel
theorem d1_54 : decode method_2_code 54 = .ok (.bipush 6, 2) := by decide +kernel
theorem d1_56 : decode method_2_code 56 = .ok (.if_icmp .ne 7, 3) := by decide +kernel
theorem d1_59 : decode method_2_code 59 = .ok (.getstatic 28, 3) := by decide +kernel
theorem own_w83 {Z : State} {a0 : Array Value} (hw : ∀ d ∈ tables_1, d.before a0 Z = true) : (Jvm.Cond.fieldLink "com/example/delehat/delehat/protocols/epp/PayloadOfPinLaw" (28 : Nat) "com/example/delehat/delehat/protocols/epp/ResultCode" "COMMAND_USE_ERROR" "Lcom/example/delehat/delehat/protocols/epp/ResultCode;").before a0 Z = true := hw _ (List.mem_of_getElem? (i := 83) rfl)
theorem d1_62 : decode method_2_code 62 = .ok (.areturn, 1) := by decide +kernel
theorem d1_63 : decode method_2_code 63 = .ok (.iload_n 0, 1) := by decide +kernel
theorem d1_64 : decode method_2_code 64 = .ok (.bipush 7, 2) := by decide +kernel
theorem d1_66 : decode method_2_code 66 = .ok (.if_icmp .ne 7, 3) := by decide +kernel
theorem d1_69 : decode method_2_code 69 = .ok (.getstatic 31, 3) := by decide +kernel
theorem own_w61 {Z : State} {a0 : Array Value} (hw : ∀ d ∈ tables_1, d.before a0 Z = true) : (Jvm.Cond.fieldLink "com/example/delehat/delehat/protocols/epp/PayloadOfPinLaw" (31 : Nat) "com/example/delehat/delehat/protocols/epp/ResultCode" "REQUIRED_PARAMETER_MISSING" "Lcom/example/delehat/delehat/protocols/epp/ResultCode;").before a0 Z = true := hw _ (List.mem_of_getElem? (i := 61) rfl)
theorem d1_72 : decode method_2_code 72 = .ok (.areturn, 1) := by decide +kernel
theorem d1_73 : decode method_2_code 73 = .ok (.iload_n 0, 1) := by decide +kernel
theorem d1_74 : decode method_2_code 74 = .ok (.bipush 8, 2) := by decide +kernel
theorem d1_76 : decode method_2_code 76 = .ok (.if_icmp .ne 7, 3) := by decide +kernel
theorem d1_79 : decode method_2_code 79 = .ok (.getstatic 34, 3) := by decide +kernel
theorem own_w69 {Z : State} {a0 : Array Value} (hw : ∀ d ∈ tables_1, d.before a0 Z = true) : (Jvm.Cond.fieldLink "com/example/delehat/delehat/protocols/epp/PayloadOfPinLaw" (34 : Nat) "com/example/delehat/delehat/protocols/epp/ResultCode" "PARAMETER_VALUE_RANGE_ERROR" "Lcom/example/delehat/delehat/protocols/epp/ResultCode;").before a0 Z = true := hw _ (List.mem_of_getElem? (i := 69) rfl)
theorem d1_82 : decode method_2_code 82 = .ok (.areturn, 1) := by decide +kernel
theorem d1_83 : decode method_2_code 83 = .ok (.iload_n 0, 1) := by decide +kernel
theorem d1_84 : decode method_2_code 84 = .ok (.bipush 9, 2) := by decide +kernel
theorem d1_86 : decode method_2_code 86 = .ok (.if_icmp .ne 7, 3) := by decide +kernel
theorem d1_89 : decode method_2_code 89 = .ok (.getstatic 37, 3) := by decide +kernel
theorem own_w75 {Z : State} {a0 : Array Value} (hw : ∀ d ∈ tables_1, d.before a0 Z = true) : (Jvm.Cond.fieldLink "com/example/delehat/delehat/protocols/epp/PayloadOfPinLaw" (37 : Nat) "com/example/delehat/delehat/protocols/epp/ResultCode" "PARAMETER_VALUE_SYNTAX_ERROR" "Lcom/example/delehat/delehat/protocols/epp/ResultCode;").before a0 Z = true := hw _ (List.mem_of_getElem? (i := 75) rfl)
theorem d1_92 : decode method_2_code 92 = .ok (.areturn, 1) := by decide +kernel
theorem d1_93 : decode method_2_code 93 = .ok (.iload_n 0, 1) := by decide +kernel
theorem d1_94 : decode method_2_code 94 = .ok (.bipush 10, 2) := by decide +kernel
theorem d1_96 : decode method_2_code 96 = .ok (.if_icmp .ne 7, 3) := by decide +kernel
theorem d1_99 : decode method_2_code 99 = .ok (.getstatic 40, 3) := by decide +kernel
theorem own_w73 {Z : State} {a0 : Array Value} (hw : ∀ d ∈ tables_1, d.before a0 Z = true) : (Jvm.Cond.fieldLink "com/example/delehat/delehat/protocols/epp/PayloadOfPinLaw" (40 : Nat) "com/example/delehat/delehat/protocols/epp/ResultCode" "UNIMPLEMENTED_PROTOCOL_VERSION" "Lcom/example/delehat/delehat/protocols/epp/ResultCode;").before a0 Z = true := hw _ (List.mem_of_getElem? (i := 73) rfl)
theorem d1_102 : decode method_2_code 102 = .ok (.areturn, 1) := by decide +kernel
theorem d1_103 : decode method_2_code 103 = .ok (.iload_n 0, 1) := by decide +kernel
theorem d1_104 : decode method_2_code 104 = .ok (.bipush 11, 2) := by decide +kernel
theorem d1_106 : decode method_2_code 106 = .ok (.if_icmp .ne 7, 3) := by decide +kernel
theorem d1_109 : decode method_2_code 109 = .ok (.getstatic 43, 3) := by decide +kernel
theorem own_w65 {Z : State} {a0 : Array Value} (hw : ∀ d ∈ tables_1, d.before a0 Z = true) : (Jvm.Cond.fieldLink "com/example/delehat/delehat/protocols/epp/PayloadOfPinLaw" (43 : Nat) "com/example/delehat/delehat/protocols/epp/ResultCode" "UNIMPLEMENTED_COMMAND" "Lcom/example/delehat/delehat/protocols/epp/ResultCode;").before a0 Z = true := hw _ (List.mem_of_getElem? (i := 65) rfl)
theorem d1_112 : decode method_2_code 112 = .ok (.areturn, 1) := by decide +kernel
theorem d1_113 : decode method_2_code 113 = .ok (.iload_n 0, 1) := by decide +kernel
theorem d1_114 : decode method_2_code 114 = .ok (.bipush 12, 2) := by decide +kernel
theorem d1_116 : decode method_2_code 116 = .ok (.if_icmp .ne 7, 3) := by decide +kernel
theorem d1_119 : decode method_2_code 119 = .ok (.getstatic 46, 3) := by decide +kernel
theorem own_w101 {Z : State} {a0 : Array Value} (hw : ∀ d ∈ tables_1, d.before a0 Z = true) : (Jvm.Cond.fieldLink "com/example/delehat/delehat/protocols/epp/PayloadOfPinLaw" (46 : Nat) "com/example/delehat/delehat/protocols/epp/ResultCode" "UNIMPLEMENTED_OPTION" "Lcom/example/delehat/delehat/protocols/epp/ResultCode;").before a0 Z = true := hw _ (List.mem_of_getElem? (i := 101) rfl)
theorem d1_122 : decode method_2_code 122 = .ok (.areturn, 1) := by decide +kernel
theorem d1_123 : decode method_2_code 123 = .ok (.iload_n 0, 1) := by decide +kernel
theorem d1_124 : decode method_2_code 124 = .ok (.bipush 13, 2) := by decide +kernel
theorem d1_126 : decode method_2_code 126 = .ok (.if_icmp .ne 7, 3) := by decide +kernel
theorem d1_129 : decode method_2_code 129 = .ok (.getstatic 49, 3) := by decide +kernel
theorem own_w89 {Z : State} {a0 : Array Value} (hw : ∀ d ∈ tables_1, d.before a0 Z = true) : (Jvm.Cond.fieldLink "com/example/delehat/delehat/protocols/epp/PayloadOfPinLaw" (49 : Nat) "com/example/delehat/delehat/protocols/epp/ResultCode" "UNIMPLEMENTED_EXTENSION" "Lcom/example/delehat/delehat/protocols/epp/ResultCode;").before a0 Z = true := hw _ (List.mem_of_getElem? (i := 89) rfl)
theorem d1_132 : decode method_2_code 132 = .ok (.areturn, 1) := by decide +kernel
theorem d1_133 : decode method_2_code 133 = .ok (.iload_n 0, 1) := by decide +kernel
theorem d1_134 : decode method_2_code 134 = .ok (.bipush 14, 2) := by decide +kernel
theorem d1_136 : decode method_2_code 136 = .ok (.if_icmp .ne 7, 3) := by decide +kernel
theorem d1_139 : decode method_2_code 139 = .ok (.getstatic 52, 3) := by decide +kernel
theorem own_w97 {Z : State} {a0 : Array Value} (hw : ∀ d ∈ tables_1, d.before a0 Z = true) : (Jvm.Cond.fieldLink "com/example/delehat/delehat/protocols/epp/PayloadOfPinLaw" (52 : Nat) "com/example/delehat/delehat/protocols/epp/ResultCode" "OBJECT_NOT_ELIGIBLE_FOR_TRANSFER" "Lcom/example/delehat/delehat/protocols/epp/ResultCode;").before a0 Z = true := hw _ (List.mem_of_getElem? (i := 97) rfl)
theorem d1_142 : decode method_2_code 142 = .ok (.areturn, 1) := by decide +kernel
theorem d1_143 : decode method_2_code 143 = .ok (.iload_n 0, 1) := by decide +kernel
theorem d1_144 : decode method_2_code 144 = .ok (.bipush 15, 2) := by decide +kernel
theorem d1_146 : decode method_2_code 146 = .ok (.if_icmp .ne 7, 3) := by decide +kernel
theorem d1_149 : decode method_2_code 149 = .ok (.getstatic 55, 3) := by decide +kernel
theorem own_w81 {Z : State} {a0 : Array Value} (hw : ∀ d ∈ tables_1, d.before a0 Z = true) : (Jvm.Cond.fieldLink "com/example/delehat/delehat/protocols/epp/PayloadOfPinLaw" (55 : Nat) "com/example/delehat/delehat/protocols/epp/ResultCode" "AUTHENTICATION_ERROR" "Lcom/example/delehat/delehat/protocols/epp/ResultCode;").before a0 Z = true := hw _ (List.mem_of_getElem? (i := 81) rfl)
theorem d1_152 : decode method_2_code 152 = .ok (.areturn, 1) := by decide +kernel
theorem d1_153 : decode method_2_code 153 = .ok (.iload_n 0, 1) := by decide +kernel
theorem d1_154 : decode method_2_code 154 = .ok (.bipush 16, 2) := by decide +kernel
theorem d1_156 : decode method_2_code 156 = .ok (.if_icmp .ne 7, 3) := by decide +kernel
theorem d1_159 : decode method_2_code 159 = .ok (.getstatic 58, 3) := by decide +kernel
theorem own_w79 {Z : State} {a0 : Array Value} (hw : ∀ d ∈ tables_1, d.before a0 Z = true) : (Jvm.Cond.fieldLink "com/example/delehat/delehat/protocols/epp/PayloadOfPinLaw" (58 : Nat) "com/example/delehat/delehat/protocols/epp/ResultCode" "AUTHORIZATION_ERROR" "Lcom/example/delehat/delehat/protocols/epp/ResultCode;").before a0 Z = true := hw _ (List.mem_of_getElem? (i := 79) rfl)
theorem d1_162 : decode method_2_code 162 = .ok (.areturn, 1) := by decide +kernel
theorem d1_163 : decode method_2_code 163 = .ok (.iload_n 0, 1) := by decide +kernel
theorem d1_164 : decode method_2_code 164 = .ok (.bipush 17, 2) := by decide +kernel
theorem d1_166 : decode method_2_code 166 = .ok (.if_icmp .ne 7, 3) := by decide +kernel
theorem d1_169 : decode method_2_code 169 = .ok (.getstatic 61, 3) := by decide +kernel
theorem own_w95 {Z : State} {a0 : Array Value} (hw : ∀ d ∈ tables_1, d.before a0 Z = true) : (Jvm.Cond.fieldLink "com/example/delehat/delehat/protocols/epp/PayloadOfPinLaw" (61 : Nat) "com/example/delehat/delehat/protocols/epp/ResultCode" "INVALID_AUTHORIZATION_INFORMATION" "Lcom/example/delehat/delehat/protocols/epp/ResultCode;").before a0 Z = true := hw _ (List.mem_of_getElem? (i := 95) rfl)
theorem d1_172 : decode method_2_code 172 = .ok (.areturn, 1) := by decide +kernel
theorem d1_173 : decode method_2_code 173 = .ok (.iload_n 0, 1) := by decide +kernel
theorem d1_174 : decode method_2_code 174 = .ok (.bipush 18, 2) := by decide +kernel
theorem d1_176 : decode method_2_code 176 = .ok (.if_icmp .ne 7, 3) := by decide +kernel
theorem d1_179 : decode method_2_code 179 = .ok (.getstatic 64, 3) := by decide +kernel
theorem own_w59 {Z : State} {a0 : Array Value} (hw : ∀ d ∈ tables_1, d.before a0 Z = true) : (Jvm.Cond.fieldLink "com/example/delehat/delehat/protocols/epp/PayloadOfPinLaw" (64 : Nat) "com/example/delehat/delehat/protocols/epp/ResultCode" "OBJECT_PENDING_TRANSFER" "Lcom/example/delehat/delehat/protocols/epp/ResultCode;").before a0 Z = true := hw _ (List.mem_of_getElem? (i := 59) rfl)
theorem d1_182 : decode method_2_code 182 = .ok (.areturn, 1) := by decide +kernel
theorem d1_183 : decode method_2_code 183 = .ok (.iload_n 0, 1) := by decide +kernel
theorem d1_184 : decode method_2_code 184 = .ok (.bipush 19, 2) := by decide +kernel
theorem d1_186 : decode method_2_code 186 = .ok (.if_icmp .ne 7, 3) := by decide +kernel
theorem d1_189 : decode method_2_code 189 = .ok (.getstatic 67, 3) := by decide +kernel
theorem own_w77 {Z : State} {a0 : Array Value} (hw : ∀ d ∈ tables_1, d.before a0 Z = true) : (Jvm.Cond.fieldLink "com/example/delehat/delehat/protocols/epp/PayloadOfPinLaw" (67 : Nat) "com/example/delehat/delehat/protocols/epp/ResultCode" "OBJECT_NOT_PENDING_TRANSFER" "Lcom/example/delehat/delehat/protocols/epp/ResultCode;").before a0 Z = true := hw _ (List.mem_of_getElem? (i := 77) rfl)
theorem d1_192 : decode method_2_code 192 = .ok (.areturn, 1) := by decide +kernel
theorem d1_193 : decode method_2_code 193 = .ok (.iload_n 0, 1) := by decide +kernel
theorem d1_194 : decode method_2_code 194 = .ok (.bipush 20, 2) := by decide +kernel
theorem d1_196 : decode method_2_code 196 = .ok (.if_icmp .ne 7, 3) := by decide +kernel
theorem d1_199 : decode method_2_code 199 = .ok (.getstatic 70, 3) := by decide +kernel
theorem own_w85 {Z : State} {a0 : Array Value} (hw : ∀ d ∈ tables_1, d.before a0 Z = true) : (Jvm.Cond.fieldLink "com/example/delehat/delehat/protocols/epp/PayloadOfPinLaw" (70 : Nat) "com/example/delehat/delehat/protocols/epp/ResultCode" "OBJECT_EXISTS" "Lcom/example/delehat/delehat/protocols/epp/ResultCode;").before a0 Z = true := hw _ (List.mem_of_getElem? (i := 85) rfl)
theorem d1_202 : decode method_2_code 202 = .ok (.areturn, 1) := by decide +kernel
theorem d1_203 : decode method_2_code 203 = .ok (.iload_n 0, 1) := by decide +kernel
theorem d1_204 : decode method_2_code 204 = .ok (.bipush 21, 2) := by decide +kernel
theorem d1_206 : decode method_2_code 206 = .ok (.if_icmp .ne 7, 3) := by decide +kernel
theorem d1_209 : decode method_2_code 209 = .ok (.getstatic 73, 3) := by decide +kernel
theorem own_w105 {Z : State} {a0 : Array Value} (hw : ∀ d ∈ tables_1, d.before a0 Z = true) : (Jvm.Cond.fieldLink "com/example/delehat/delehat/protocols/epp/PayloadOfPinLaw" (73 : Nat) "com/example/delehat/delehat/protocols/epp/ResultCode" "OBJECT_DOES_NOT_EXIST" "Lcom/example/delehat/delehat/protocols/epp/ResultCode;").before a0 Z = true := hw _ (List.mem_of_getElem? (i := 105) rfl)
theorem d1_212 : decode method_2_code 212 = .ok (.areturn, 1) := by decide +kernel
theorem d1_213 : decode method_2_code 213 = .ok (.iload_n 0, 1) := by decide +kernel
theorem d1_214 : decode method_2_code 214 = .ok (.bipush 22, 2) := by decide +kernel
theorem d1_216 : decode method_2_code 216 = .ok (.if_icmp .ne 7, 3) := by decide +kernel
theorem d1_219 : decode method_2_code 219 = .ok (.getstatic 76, 3) := by decide +kernel
theorem own_w93 {Z : State} {a0 : Array Value} (hw : ∀ d ∈ tables_1, d.before a0 Z = true) : (Jvm.Cond.fieldLink "com/example/delehat/delehat/protocols/epp/PayloadOfPinLaw" (76 : Nat) "com/example/delehat/delehat/protocols/epp/ResultCode" "OBJECT_STATUS_PROHIBITS_OPERATION" "Lcom/example/delehat/delehat/protocols/epp/ResultCode;").before a0 Z = true := hw _ (List.mem_of_getElem? (i := 93) rfl)
theorem d1_222 : decode method_2_code 222 = .ok (.areturn, 1) := by decide +kernel
theorem d1_223 : decode method_2_code 223 = .ok (.iload_n 0, 1) := by decide +kernel
theorem d1_224 : decode method_2_code 224 = .ok (.bipush 23, 2) := by decide +kernel
theorem d1_226 : decode method_2_code 226 = .ok (.if_icmp .ne 7, 3) := by decide +kernel
theorem d1_229 : decode method_2_code 229 = .ok (.getstatic 79, 3) := by decide +kernel
theorem own_w87 {Z : State} {a0 : Array Value} (hw : ∀ d ∈ tables_1, d.before a0 Z = true) : (Jvm.Cond.fieldLink "com/example/delehat/delehat/protocols/epp/PayloadOfPinLaw" (79 : Nat) "com/example/delehat/delehat/protocols/epp/ResultCode" "OBJECT_ASSOCIATION_PROHIBITS_OPERATION" "Lcom/example/delehat/delehat/protocols/epp/ResultCode;").before a0 Z = true := hw _ (List.mem_of_getElem? (i := 87) rfl)
theorem d1_232 : decode method_2_code 232 = .ok (.areturn, 1) := by decide +kernel
theorem d1_233 : decode method_2_code 233 = .ok (.iload_n 0, 1) := by decide +kernel
theorem d1_234 : decode method_2_code 234 = .ok (.bipush 24, 2) := by decide +kernel
theorem d1_236 : decode method_2_code 236 = .ok (.if_icmp .ne 7, 3) := by decide +kernel
theorem d1_239 : decode method_2_code 239 = .ok (.getstatic 82, 3) := by decide +kernel
theorem own_w67 {Z : State} {a0 : Array Value} (hw : ∀ d ∈ tables_1, d.before a0 Z = true) : (Jvm.Cond.fieldLink "com/example/delehat/delehat/protocols/epp/PayloadOfPinLaw" (82 : Nat) "com/example/delehat/delehat/protocols/epp/ResultCode" "PARAMETER_VALUE_POLICY_ERROR" "Lcom/example/delehat/delehat/protocols/epp/ResultCode;").before a0 Z = true := hw _ (List.mem_of_getElem? (i := 67) rfl)
theorem d1_242 : decode method_2_code 242 = .ok (.areturn, 1) := by decide +kernel
theorem d1_243 : decode method_2_code 243 = .ok (.iload_n 0, 1) := by decide +kernel
theorem d1_244 : decode method_2_code 244 = .ok (.bipush 25, 2) := by decide +kernel
theorem d1_246 : decode method_2_code 246 = .ok (.if_icmp .ne 7, 3) := by decide +kernel
theorem d1_249 : decode method_2_code 249 = .ok (.getstatic 85, 3) := by decide +kernel
theorem own_w103 {Z : State} {a0 : Array Value} (hw : ∀ d ∈ tables_1, d.before a0 Z = true) : (Jvm.Cond.fieldLink "com/example/delehat/delehat/protocols/epp/PayloadOfPinLaw" (85 : Nat) "com/example/delehat/delehat/protocols/epp/ResultCode" "UNIMPLEMENTED_OBJECT_SERVICE" "Lcom/example/delehat/delehat/protocols/epp/ResultCode;").before a0 Z = true := hw _ (List.mem_of_getElem? (i := 103) rfl)
theorem d1_252 : decode method_2_code 252 = .ok (.areturn, 1) := by decide +kernel
theorem d1_253 : decode method_2_code 253 = .ok (.iload_n 0, 1) := by decide +kernel
theorem d1_254 : decode method_2_code 254 = .ok (.bipush 26, 2) := by decide +kernel
theorem d1_256 : decode method_2_code 256 = .ok (.if_icmp .ne 7, 3) := by decide +kernel
theorem d1_259 : decode method_2_code 259 = .ok (.getstatic 88, 3) := by decide +kernel
theorem own_w55 {Z : State} {a0 : Array Value} (hw : ∀ d ∈ tables_1, d.before a0 Z = true) : (Jvm.Cond.fieldLink "com/example/delehat/delehat/protocols/epp/PayloadOfPinLaw" (88 : Nat) "com/example/delehat/delehat/protocols/epp/ResultCode" "COMMAND_FAILED" "Lcom/example/delehat/delehat/protocols/epp/ResultCode;").before a0 Z = true := hw _ (List.mem_of_getElem? (i := 55) rfl)
theorem d1_262 : decode method_2_code 262 = .ok (.areturn, 1) := by decide +kernel
theorem d1_263 : decode method_2_code 263 = .ok (.getstatic 91, 3) := by decide +kernel
theorem own_w57 {Z : State} {a0 : Array Value} (hw : ∀ d ∈ tables_1, d.before a0 Z = true) : (Jvm.Cond.fieldLink "com/example/delehat/delehat/protocols/epp/PayloadOfPinLaw" (91 : Nat) "com/example/delehat/delehat/protocols/epp/ResultCode" "AUTHENTICATION_ERROR_CLOSING" "Lcom/example/delehat/delehat/protocols/epp/ResultCode;").before a0 Z = true := hw _ (List.mem_of_getElem? (i := 57) rfl)
theorem d1_266 : decode method_2_code 266 = .ok (.areturn, 1) := by decide +kernel
theorem own_w4 {Z : State} {a0 : Array Value} (hw : ∀ d ∈ tables_1, d.before a0 Z = true) : (Jvm.Cond.code ({ cls := "com/example/delehat/delehat/protocols/epp/PayloadOfPinLaw", name := "pick", desc := "(I)Lcom/example/delehat/delehat/protocols/epp/ResultCode;" } : Jvm.MethodName) method_2_code (1 : Nat) (Option.some (Jvm.ClassFile.FieldType.object "com/example/delehat/delehat/protocols/epp/ResultCode"))).before a0 Z = true := hw _ (List.mem_of_getElem? (i := 4) rfl)
theorem own_w3 {Z : State} {a0 : Array Value} (hw : ∀ d ∈ tables_1, d.before a0 Z = true) : (Jvm.Cond.initialized "com/example/delehat/delehat/protocols/epp/PayloadOfPinLaw").before a0 Z = true := hw _ (List.mem_of_getElem? (i := 3) rfl)
theorem pd__I_Lcom_example_delehat_delehat_protocols_epp_ResultCode_ : parseMethodDescriptor "(I)Lcom/example/delehat/delehat/protocols/epp/ResultCode;" = some ⟨[.int], some (.object "com/example/delehat/delehat/protocols/epp/ResultCode")⟩ := by decide +kernel
theorem own_w2 {Z : State} {a0 : Array Value} (hw : ∀ d ∈ tables_1, d.before a0 Z = true) : (Jvm.Cond.static ({ cls := "com/example/delehat/delehat/protocols/epp/PayloadOfPinLaw", name := "pick", desc := "(I)Lcom/example/delehat/delehat/protocols/epp/ResultCode;" } : Jvm.MethodName)).before a0 Z = true := hw _ (List.mem_of_getElem? (i := 2) rfl)
theorem own_w8 {Z : State} {a0 : Array Value} (hw : ∀ d ∈ tables_1, d.before a0 Z = true) : (Jvm.Cond.methodLink "com/example/delehat/delehat/protocols/epp/PayloadOfPinLaw" (101 : Nat) ({ cls := "com/example/delehat/delehat/protocols/epp/Responses$Payload", name := "of", desc := "(Lcom/example/delehat/delehat/protocols/epp/ResultCode;)Lcom/example/delehat/delehat/protocols/epp/Responses$Payload;" } : Jvm.MethodName)).before a0 Z = true := hw _ (List.mem_of_getElem? (i := 8) rfl)
theorem d2_0 : decode prog_83_method_2_code 0 = .ok (.new 8, 3) := by decide +kernel
theorem own_w12 {Z : State} {a0 : Array Value} (hw : ∀ d ∈ tables_1, d.before a0 Z = true) : (Jvm.Cond.classLink "com/example/delehat/delehat/protocols/epp/Responses$Payload" (8 : Nat) "com/example/delehat/delehat/protocols/epp/Responses$Payload").before a0 Z = true := hw _ (List.mem_of_getElem? (i := 12) rfl)
theorem own_w13 {Z : State} {a0 : Array Value} (hw : ∀ d ∈ tables_1, d.before a0 Z = true) : (Jvm.Cond.instantiable "com/example/delehat/delehat/protocols/epp/Responses$Payload" (4 : Nat)).before a0 Z = true := hw _ (List.mem_of_getElem? (i := 13) rfl)
theorem own_w10 {Z : State} {a0 : Array Value} (hw : ∀ d ∈ tables_1, d.before a0 Z = true) : (Jvm.Cond.initialized "com/example/delehat/delehat/protocols/epp/Responses$Payload").before a0 Z = true := hw _ (List.mem_of_getElem? (i := 10) rfl)
theorem own_w26 {Z : State} {a0 : Array Value} (hw : ∀ d ∈ tables_1, d.before a0 Z = true) : (Jvm.Cond.laysFinal "com/example/delehat/delehat/protocols/epp/Responses$Payload" "com/example/delehat/delehat/protocols/epp/Responses$Payload" "code" "Lcom/example/delehat/delehat/protocols/epp/ResultCode;").before a0 Z = true := hw _ (List.mem_of_getElem? (i := 26) rfl)
theorem own_w28 {Z : State} {a0 : Array Value} (hw : ∀ d ∈ tables_1, d.before a0 Z = true) : (Jvm.Cond.laysFinal "com/example/delehat/delehat/protocols/epp/Responses$Payload" "com/example/delehat/delehat/protocols/epp/Responses$Payload" "msgQ" "Lcom/example/delehat/delehat/protocols/epp/Responses$ElementWriter;").before a0 Z = true := hw _ (List.mem_of_getElem? (i := 28) rfl)
theorem own_w30 {Z : State} {a0 : Array Value} (hw : ∀ d ∈ tables_1, d.before a0 Z = true) : (Jvm.Cond.laysFinal "com/example/delehat/delehat/protocols/epp/Responses$Payload" "com/example/delehat/delehat/protocols/epp/Responses$Payload" "resData" "Lcom/example/delehat/delehat/protocols/epp/Responses$ElementWriter;").before a0 Z = true := hw _ (List.mem_of_getElem? (i := 30) rfl)
theorem own_w32 {Z : State} {a0 : Array Value} (hw : ∀ d ∈ tables_1, d.before a0 Z = true) : (Jvm.Cond.laysFinal "com/example/delehat/delehat/protocols/epp/Responses$Payload" "com/example/delehat/delehat/protocols/epp/Responses$Payload" "extension" "Lcom/example/delehat/delehat/protocols/epp/Responses$ElementWriter;").before a0 Z = true := hw _ (List.mem_of_getElem? (i := 32) rfl)
theorem d2_3 : decode prog_83_method_2_code 3 = .ok (.dup, 1) := by decide +kernel
theorem d2_4 : decode prog_83_method_2_code 4 = .ok (.aload_n 0, 1) := by decide +kernel
theorem d2_5 : decode prog_83_method_2_code 5 = .ok (.aconst_null, 1) := by decide +kernel
theorem d2_6 : decode prog_83_method_2_code 6 = .ok (.aconst_null, 1) := by decide +kernel
theorem d2_7 : decode prog_83_method_2_code 7 = .ok (.aconst_null, 1) := by decide +kernel
theorem d2_8 : decode prog_83_method_2_code 8 = .ok (.invokespecial 23, 3) := by decide +kernel
theorem own_w14 {Z : State} {a0 : Array Value} (hw : ∀ d ∈ tables_1, d.before a0 Z = true) : (Jvm.Cond.methodLink "com/example/delehat/delehat/protocols/epp/Responses$Payload" (23 : Nat) ({ cls := "com/example/delehat/delehat/protocols/epp/Responses$Payload", name := "<init>", desc := "(Lcom/example/delehat/delehat/protocols/epp/ResultCode;Lcom/example/delehat/delehat/protocols/epp/Responses$ElementWriter;Lcom/example/delehat/delehat/protocols/epp/Responses$ElementWriter;Lcom/example/delehat/delehat/protocols/epp/Responses$ElementWriter;)V" } : Jvm.MethodName)).before a0 Z = true := hw _ (List.mem_of_getElem? (i := 14) rfl)
theorem d3_0 : decode prog_83_method_1_code 0 = .ok (.aload_n 0, 1) := by decide +kernel
theorem d3_1 : decode prog_83_method_1_code 1 = .ok (.invokespecial 1, 3) := by decide +kernel
theorem own_w17 {Z : State} {a0 : Array Value} (hw : ∀ d ∈ tables_1, d.before a0 Z = true) : (Jvm.Cond.methodLink "com/example/delehat/delehat/protocols/epp/Responses$Payload" (1 : Nat) ({ cls := "java/lang/Record", name := "<init>", desc := "()V" } : Jvm.MethodName)).before a0 Z = true := hw _ (List.mem_of_getElem? (i := 17) rfl)
theorem d4_0 : decode jdk_30_method_1_code 0 = .ok (.aload_n 0, 1) := by decide +kernel
theorem d4_1 : decode jdk_30_method_1_code 1 = .ok (.invokespecial 1, 3) := by decide +kernel
theorem own_w22 {Z : State} {a0 : Array Value} (hw : ∀ d ∈ tables_1, d.before a0 Z = true) : (Jvm.Cond.methodLink "java/lang/Record" (1 : Nat) ({ cls := "java/lang/Object", name := "<init>", desc := "()V" } : Jvm.MethodName)).before a0 Z = true := hw _ (List.mem_of_getElem? (i := 22) rfl)
theorem own_w23 {Z : State} {a0 : Array Value} (hw : ∀ d ∈ tables_1, d.before a0 Z = true) : (Jvm.Cond.instanceMethod ({ cls := "java/lang/Object", name := "<init>", desc := "()V" } : Jvm.MethodName)).before a0 Z = true := hw _ (List.mem_of_getElem? (i := 23) rfl)
theorem own_w24 {Z : State} {a0 : Array Value} (hw : ∀ d ∈ tables_1, d.before a0 Z = true) : (Jvm.Cond.code ({ cls := "java/lang/Object", name := "<init>", desc := "()V" } : Jvm.MethodName) object_method_1_code (1 : Nat) (Option.none : Option Jvm.ClassFile.FieldType)).before a0 Z = true := hw _ (List.mem_of_getElem? (i := 24) rfl)
theorem d4_4 : decode jdk_30_method_1_code 4 = .ok (.return_, 1) := by decide +kernel
theorem pn_java_lang_Record : plainName "java/lang/Record" = true := by first | (simp [plainName, overriddenIn]; done) | decide +kernel
theorem own_w21 {Z : State} {a0 : Array Value} (hw : ∀ d ∈ tables_1, d.before a0 Z = true) : (Jvm.Cond.code ({ cls := "java/lang/Record", name := "<init>", desc := "()V" } : Jvm.MethodName) jdk_30_method_1_code (1 : Nat) (Option.none : Option Jvm.ClassFile.FieldType)).before a0 Z = true := hw _ (List.mem_of_getElem? (i := 21) rfl)
theorem own_w20 {Z : State} {a0 : Array Value} (hw : ∀ d ∈ tables_1, d.before a0 Z = true) : (Jvm.Cond.initialized "java/lang/Record").before a0 Z = true := hw _ (List.mem_of_getElem? (i := 20) rfl)
theorem pd___V : parseMethodDescriptor "()V" = some ⟨[], none⟩ := by decide +kernel
theorem own_w18 {Z : State} {a0 : Array Value} (hw : ∀ d ∈ tables_1, d.before a0 Z = true) : (Jvm.Cond.instanceMethod ({ cls := "java/lang/Record", name := "<init>", desc := "()V" } : Jvm.MethodName)).before a0 Z = true := hw _ (List.mem_of_getElem? (i := 18) rfl)
theorem d3_4 : decode prog_83_method_1_code 4 = .ok (.aload_n 0, 1) := by decide +kernel
theorem d3_5 : decode prog_83_method_1_code 5 = .ok (.aload_n 1, 1) := by decide +kernel
theorem d3_6 : decode prog_83_method_1_code 6 = .ok (.putfield 7, 3) := by decide +kernel
theorem own_w25 {Z : State} {a0 : Array Value} (hw : ∀ d ∈ tables_1, d.before a0 Z = true) : (Jvm.Cond.fieldLink "com/example/delehat/delehat/protocols/epp/Responses$Payload" (7 : Nat) "com/example/delehat/delehat/protocols/epp/Responses$Payload" "code" "Lcom/example/delehat/delehat/protocols/epp/ResultCode;").before a0 Z = true := hw _ (List.mem_of_getElem? (i := 25) rfl)
theorem d3_9 : decode prog_83_method_1_code 9 = .ok (.aload_n 0, 1) := by decide +kernel
theorem d3_10 : decode prog_83_method_1_code 10 = .ok (.aload_n 2, 1) := by decide +kernel
theorem d3_11 : decode prog_83_method_1_code 11 = .ok (.putfield 13, 3) := by decide +kernel
theorem own_w27 {Z : State} {a0 : Array Value} (hw : ∀ d ∈ tables_1, d.before a0 Z = true) : (Jvm.Cond.fieldLink "com/example/delehat/delehat/protocols/epp/Responses$Payload" (13 : Nat) "com/example/delehat/delehat/protocols/epp/Responses$Payload" "msgQ" "Lcom/example/delehat/delehat/protocols/epp/Responses$ElementWriter;").before a0 Z = true := hw _ (List.mem_of_getElem? (i := 27) rfl)
theorem d3_14 : decode prog_83_method_1_code 14 = .ok (.aload_n 0, 1) := by decide +kernel
theorem d3_15 : decode prog_83_method_1_code 15 = .ok (.aload_n 3, 1) := by decide +kernel
theorem d3_16 : decode prog_83_method_1_code 16 = .ok (.putfield 17, 3) := by decide +kernel
theorem own_w29 {Z : State} {a0 : Array Value} (hw : ∀ d ∈ tables_1, d.before a0 Z = true) : (Jvm.Cond.fieldLink "com/example/delehat/delehat/protocols/epp/Responses$Payload" (17 : Nat) "com/example/delehat/delehat/protocols/epp/Responses$Payload" "resData" "Lcom/example/delehat/delehat/protocols/epp/Responses$ElementWriter;").before a0 Z = true := hw _ (List.mem_of_getElem? (i := 29) rfl)
theorem d3_19 : decode prog_83_method_1_code 19 = .ok (.aload_n 0, 1) := by decide +kernel
theorem d3_20 : decode prog_83_method_1_code 20 = .ok (.aload 4, 2) := by decide +kernel
theorem d3_22 : decode prog_83_method_1_code 22 = .ok (.putfield 20, 3) := by decide +kernel
theorem own_w31 {Z : State} {a0 : Array Value} (hw : ∀ d ∈ tables_1, d.before a0 Z = true) : (Jvm.Cond.fieldLink "com/example/delehat/delehat/protocols/epp/Responses$Payload" (20 : Nat) "com/example/delehat/delehat/protocols/epp/Responses$Payload" "extension" "Lcom/example/delehat/delehat/protocols/epp/Responses$ElementWriter;").before a0 Z = true := hw _ (List.mem_of_getElem? (i := 31) rfl)
theorem d3_25 : decode prog_83_method_1_code 25 = .ok (.return_, 1) := by decide +kernel
theorem pn_com_example_delehat_delehat_protocols_epp_Responses_Payload : plainName "com/example/delehat/delehat/protocols/epp/Responses$Payload" = true := by first | (simp [plainName, overriddenIn]; done) | decide +kernel
theorem own_w16 {Z : State} {a0 : Array Value} (hw : ∀ d ∈ tables_1, d.before a0 Z = true) : (Jvm.Cond.code ({ cls := "com/example/delehat/delehat/protocols/epp/Responses$Payload", name := "<init>", desc := "(Lcom/example/delehat/delehat/protocols/epp/ResultCode;Lcom/example/delehat/delehat/protocols/epp/Responses$ElementWriter;Lcom/example/delehat/delehat/protocols/epp/Responses$ElementWriter;Lcom/example/delehat/delehat/protocols/epp/Responses$ElementWriter;)V" } : Jvm.MethodName) prog_83_method_1_code (5 : Nat) (Option.none : Option Jvm.ClassFile.FieldType)).before a0 Z = true := hw _ (List.mem_of_getElem? (i := 16) rfl)
theorem pd__Lcom_example_delehat_delehat_protocols_epp_ResultCode_Lcom_example_delehat_delehat_protocols_epp_Responses_ElementWriter_Lcom_example_delehat_delehat_protocols_epp_Responses_ElementWriter_Lcom_example_delehat_delehat_protocols_epp_Responses_ElementWriter__V : parseMethodDescriptor "(Lcom/example/delehat/delehat/protocols/epp/ResultCode;Lcom/example/delehat/delehat/protocols/epp/Responses$ElementWriter;Lcom/example/delehat/delehat/protocols/epp/Responses$ElementWriter;Lcom/example/delehat/delehat/protocols/epp/Responses$ElementWriter;)V" = some ⟨[(.object "com/example/delehat/delehat/protocols/epp/ResultCode"), (.object "com/example/delehat/delehat/protocols/epp/Responses$ElementWriter"), (.object "com/example/delehat/delehat/protocols/epp/Responses$ElementWriter"), (.object "com/example/delehat/delehat/protocols/epp/Responses$ElementWriter")], none⟩ := by decide +kernel
theorem own_w15 {Z : State} {a0 : Array Value} (hw : ∀ d ∈ tables_1, d.before a0 Z = true) : (Jvm.Cond.instanceMethod ({ cls := "com/example/delehat/delehat/protocols/epp/Responses$Payload", name := "<init>", desc := "(Lcom/example/delehat/delehat/protocols/epp/ResultCode;Lcom/example/delehat/delehat/protocols/epp/Responses$ElementWriter;Lcom/example/delehat/delehat/protocols/epp/Responses$ElementWriter;Lcom/example/delehat/delehat/protocols/epp/Responses$ElementWriter;)V" } : Jvm.MethodName)).before a0 Z = true := hw _ (List.mem_of_getElem? (i := 15) rfl)
theorem d2_11 : decode prog_83_method_2_code 11 = .ok (.areturn, 1) := by decide +kernel
theorem own_w11 {Z : State} {a0 : Array Value} (hw : ∀ d ∈ tables_1, d.before a0 Z = true) : (Jvm.Cond.code ({ cls := "com/example/delehat/delehat/protocols/epp/Responses$Payload", name := "of", desc := "(Lcom/example/delehat/delehat/protocols/epp/ResultCode;)Lcom/example/delehat/delehat/protocols/epp/Responses$Payload;" } : Jvm.MethodName) prog_83_method_2_code (1 : Nat) (Option.some (Jvm.ClassFile.FieldType.object "com/example/delehat/delehat/protocols/epp/Responses$Payload"))).before a0 Z = true := hw _ (List.mem_of_getElem? (i := 11) rfl)
theorem pd__Lcom_example_delehat_delehat_protocols_epp_ResultCode__Lcom_example_delehat_delehat_protocols_epp_Responses_Payload_ : parseMethodDescriptor "(Lcom/example/delehat/delehat/protocols/epp/ResultCode;)Lcom/example/delehat/delehat/protocols/epp/Responses$Payload;" = some ⟨[(.object "com/example/delehat/delehat/protocols/epp/ResultCode")], some (.object "com/example/delehat/delehat/protocols/epp/Responses$Payload")⟩ := by decide +kernel
theorem own_w9 {Z : State} {a0 : Array Value} (hw : ∀ d ∈ tables_1, d.before a0 Z = true) : (Jvm.Cond.static ({ cls := "com/example/delehat/delehat/protocols/epp/Responses$Payload", name := "of", desc := "(Lcom/example/delehat/delehat/protocols/epp/ResultCode;)Lcom/example/delehat/delehat/protocols/epp/Responses$Payload;" } : Jvm.MethodName)).before a0 Z = true := hw _ (List.mem_of_getElem? (i := 9) rfl)
theorem own_w33 {Z : State} {a0 : Array Value} (hw : ∀ d ∈ tables_1, d.before a0 Z = true) : (Jvm.Cond.methodLink "com/example/delehat/delehat/protocols/epp/PayloadOfPinLaw" (107 : Nat) ({ cls := "com/example/delehat/delehat/protocols/epp/Responses$Payload", name := "code", desc := "()Lcom/example/delehat/delehat/protocols/epp/ResultCode;" } : Jvm.MethodName)).before a0 Z = true := hw _ (List.mem_of_getElem? (i := 33) rfl)
theorem d6_0 : decode prog_83_method_9_code 0 = .ok (.aload_n 0, 1) := by decide +kernel
theorem d6_1 : decode prog_83_method_9_code 1 = .ok (.getfield 7, 3) := by decide +kernel
theorem d6_4 : decode prog_83_method_9_code 4 = .ok (.areturn, 1) := by decide +kernel
theorem own_w37 {Z : State} {a0 : Array Value} (hw : ∀ d ∈ tables_1, d.before a0 Z = true) : (Jvm.Cond.code ({ cls := "com/example/delehat/delehat/protocols/epp/Responses$Payload", name := "code", desc := "()Lcom/example/delehat/delehat/protocols/epp/ResultCode;" } : Jvm.MethodName) prog_83_method_9_code (1 : Nat) (Option.some (Jvm.ClassFile.FieldType.object "com/example/delehat/delehat/protocols/epp/ResultCode"))).before a0 Z = true := hw _ (List.mem_of_getElem? (i := 37) rfl)
theorem pd___Lcom_example_delehat_delehat_protocols_epp_ResultCode_ : parseMethodDescriptor "()Lcom/example/delehat/delehat/protocols/epp/ResultCode;" = some ⟨[], some (.object "com/example/delehat/delehat/protocols/epp/ResultCode")⟩ := by decide +kernel
theorem own_w36 {Z : State} {a0 : Array Value} (hw : ∀ d ∈ tables_1, d.before a0 Z = true) : (Jvm.Cond.selects "com/example/delehat/delehat/protocols/epp/Responses$Payload" ({ cls := "com/example/delehat/delehat/protocols/epp/Responses$Payload", name := "code", desc := "()Lcom/example/delehat/delehat/protocols/epp/ResultCode;" } : Jvm.MethodName) ({ cls := "com/example/delehat/delehat/protocols/epp/Responses$Payload", name := "code", desc := "()Lcom/example/delehat/delehat/protocols/epp/ResultCode;" } : Jvm.MethodName)).before a0 Z = true := hw _ (List.mem_of_getElem? (i := 36) rfl)
theorem own_w34 {Z : State} {a0 : Array Value} (hw : ∀ d ∈ tables_1, d.before a0 Z = true) : (Jvm.Cond.declares ({ cls := "com/example/delehat/delehat/protocols/epp/Responses$Payload", name := "code", desc := "()Lcom/example/delehat/delehat/protocols/epp/ResultCode;" } : Jvm.MethodName)).before a0 Z = true := hw _ (List.mem_of_getElem? (i := 34) rfl)
theorem own_w35 {Z : State} {a0 : Array Value} (hw : ∀ d ∈ tables_1, d.before a0 Z = true) : (Jvm.Cond.instanceMethod ({ cls := "com/example/delehat/delehat/protocols/epp/Responses$Payload", name := "code", desc := "()Lcom/example/delehat/delehat/protocols/epp/ResultCode;" } : Jvm.MethodName)).before a0 Z = true := hw _ (List.mem_of_getElem? (i := 35) rfl)
theorem own_w38 {Z : State} {a0 : Array Value} (hw : ∀ d ∈ tables_1, d.before a0 Z = true) : (Jvm.Cond.methodLink "com/example/delehat/delehat/protocols/epp/PayloadOfPinLaw" (111 : Nat) ({ cls := "com/example/delehat/delehat/protocols/epp/Responses$Payload", name := "msgQ", desc := "()Lcom/example/delehat/delehat/protocols/epp/Responses$ElementWriter;" } : Jvm.MethodName)).before a0 Z = true := hw _ (List.mem_of_getElem? (i := 38) rfl)
theorem d7_0 : decode prog_83_method_10_code 0 = .ok (.aload_n 0, 1) := by decide +kernel
theorem d7_1 : decode prog_83_method_10_code 1 = .ok (.getfield 13, 3) := by decide +kernel
theorem d7_4 : decode prog_83_method_10_code 4 = .ok (.areturn, 1) := by decide +kernel
theorem own_w42 {Z : State} {a0 : Array Value} (hw : ∀ d ∈ tables_1, d.before a0 Z = true) : (Jvm.Cond.code ({ cls := "com/example/delehat/delehat/protocols/epp/Responses$Payload", name := "msgQ", desc := "()Lcom/example/delehat/delehat/protocols/epp/Responses$ElementWriter;" } : Jvm.MethodName) prog_83_method_10_code (1 : Nat) (Option.some (Jvm.ClassFile.FieldType.object "com/example/delehat/delehat/protocols/epp/Responses$ElementWriter"))).before a0 Z = true := hw _ (List.mem_of_getElem? (i := 42) rfl)
theorem pd___Lcom_example_delehat_delehat_protocols_epp_Responses_ElementWriter_ : parseMethodDescriptor "()Lcom/example/delehat/delehat/protocols/epp/Responses$ElementWriter;" = some ⟨[], some (.object "com/example/delehat/delehat/protocols/epp/Responses$ElementWriter")⟩ := by decide +kernel
theorem own_w41 {Z : State} {a0 : Array Value} (hw : ∀ d ∈ tables_1, d.before a0 Z = true) : (Jvm.Cond.selects "com/example/delehat/delehat/protocols/epp/Responses$Payload" ({ cls := "com/example/delehat/delehat/protocols/epp/Responses$Payload", name := "msgQ", desc := "()Lcom/example/delehat/delehat/protocols/epp/Responses$ElementWriter;" } : Jvm.MethodName) ({ cls := "com/example/delehat/delehat/protocols/epp/Responses$Payload", name := "msgQ", desc := "()Lcom/example/delehat/delehat/protocols/epp/Responses$ElementWriter;" } : Jvm.MethodName)).before a0 Z = true := hw _ (List.mem_of_getElem? (i := 41) rfl)
theorem own_w39 {Z : State} {a0 : Array Value} (hw : ∀ d ∈ tables_1, d.before a0 Z = true) : (Jvm.Cond.declares ({ cls := "com/example/delehat/delehat/protocols/epp/Responses$Payload", name := "msgQ", desc := "()Lcom/example/delehat/delehat/protocols/epp/Responses$ElementWriter;" } : Jvm.MethodName)).before a0 Z = true := hw _ (List.mem_of_getElem? (i := 39) rfl)
theorem own_w40 {Z : State} {a0 : Array Value} (hw : ∀ d ∈ tables_1, d.before a0 Z = true) : (Jvm.Cond.instanceMethod ({ cls := "com/example/delehat/delehat/protocols/epp/Responses$Payload", name := "msgQ", desc := "()Lcom/example/delehat/delehat/protocols/epp/Responses$ElementWriter;" } : Jvm.MethodName)).before a0 Z = true := hw _ (List.mem_of_getElem? (i := 40) rfl)
theorem own_w43 {Z : State} {a0 : Array Value} (hw : ∀ d ∈ tables_1, d.before a0 Z = true) : (Jvm.Cond.methodLink "com/example/delehat/delehat/protocols/epp/PayloadOfPinLaw" (115 : Nat) ({ cls := "com/example/delehat/delehat/protocols/epp/Responses$Payload", name := "resData", desc := "()Lcom/example/delehat/delehat/protocols/epp/Responses$ElementWriter;" } : Jvm.MethodName)).before a0 Z = true := hw _ (List.mem_of_getElem? (i := 43) rfl)
theorem d8_0 : decode prog_83_method_11_code 0 = .ok (.aload_n 0, 1) := by decide +kernel
theorem d8_1 : decode prog_83_method_11_code 1 = .ok (.getfield 17, 3) := by decide +kernel
theorem d8_4 : decode prog_83_method_11_code 4 = .ok (.areturn, 1) := by decide +kernel
theorem own_w47 {Z : State} {a0 : Array Value} (hw : ∀ d ∈ tables_1, d.before a0 Z = true) : (Jvm.Cond.code ({ cls := "com/example/delehat/delehat/protocols/epp/Responses$Payload", name := "resData", desc := "()Lcom/example/delehat/delehat/protocols/epp/Responses$ElementWriter;" } : Jvm.MethodName) prog_83_method_11_code (1 : Nat) (Option.some (Jvm.ClassFile.FieldType.object "com/example/delehat/delehat/protocols/epp/Responses$ElementWriter"))).before a0 Z = true := hw _ (List.mem_of_getElem? (i := 47) rfl)
theorem own_w46 {Z : State} {a0 : Array Value} (hw : ∀ d ∈ tables_1, d.before a0 Z = true) : (Jvm.Cond.selects "com/example/delehat/delehat/protocols/epp/Responses$Payload" ({ cls := "com/example/delehat/delehat/protocols/epp/Responses$Payload", name := "resData", desc := "()Lcom/example/delehat/delehat/protocols/epp/Responses$ElementWriter;" } : Jvm.MethodName) ({ cls := "com/example/delehat/delehat/protocols/epp/Responses$Payload", name := "resData", desc := "()Lcom/example/delehat/delehat/protocols/epp/Responses$ElementWriter;" } : Jvm.MethodName)).before a0 Z = true := hw _ (List.mem_of_getElem? (i := 46) rfl)
theorem own_w44 {Z : State} {a0 : Array Value} (hw : ∀ d ∈ tables_1, d.before a0 Z = true) : (Jvm.Cond.declares ({ cls := "com/example/delehat/delehat/protocols/epp/Responses$Payload", name := "resData", desc := "()Lcom/example/delehat/delehat/protocols/epp/Responses$ElementWriter;" } : Jvm.MethodName)).before a0 Z = true := hw _ (List.mem_of_getElem? (i := 44) rfl)
theorem own_w45 {Z : State} {a0 : Array Value} (hw : ∀ d ∈ tables_1, d.before a0 Z = true) : (Jvm.Cond.instanceMethod ({ cls := "com/example/delehat/delehat/protocols/epp/Responses$Payload", name := "resData", desc := "()Lcom/example/delehat/delehat/protocols/epp/Responses$ElementWriter;" } : Jvm.MethodName)).before a0 Z = true := hw _ (List.mem_of_getElem? (i := 45) rfl)
theorem own_w48 {Z : State} {a0 : Array Value} (hw : ∀ d ∈ tables_1, d.before a0 Z = true) : (Jvm.Cond.methodLink "com/example/delehat/delehat/protocols/epp/PayloadOfPinLaw" (118 : Nat) ({ cls := "com/example/delehat/delehat/protocols/epp/Responses$Payload", name := "extension", desc := "()Lcom/example/delehat/delehat/protocols/epp/Responses$ElementWriter;" } : Jvm.MethodName)).before a0 Z = true := hw _ (List.mem_of_getElem? (i := 48) rfl)
theorem d9_0 : decode prog_83_method_12_code 0 = .ok (.aload_n 0, 1) := by decide +kernel
theorem d9_1 : decode prog_83_method_12_code 1 = .ok (.getfield 20, 3) := by decide +kernel
theorem d9_4 : decode prog_83_method_12_code 4 = .ok (.areturn, 1) := by decide +kernel
theorem own_w52 {Z : State} {a0 : Array Value} (hw : ∀ d ∈ tables_1, d.before a0 Z = true) : (Jvm.Cond.code ({ cls := "com/example/delehat/delehat/protocols/epp/Responses$Payload", name := "extension", desc := "()Lcom/example/delehat/delehat/protocols/epp/Responses$ElementWriter;" } : Jvm.MethodName) prog_83_method_12_code (1 : Nat) (Option.some (Jvm.ClassFile.FieldType.object "com/example/delehat/delehat/protocols/epp/Responses$ElementWriter"))).before a0 Z = true := hw _ (List.mem_of_getElem? (i := 52) rfl)
theorem own_w51 {Z : State} {a0 : Array Value} (hw : ∀ d ∈ tables_1, d.before a0 Z = true) : (Jvm.Cond.selects "com/example/delehat/delehat/protocols/epp/Responses$Payload" ({ cls := "com/example/delehat/delehat/protocols/epp/Responses$Payload", name := "extension", desc := "()Lcom/example/delehat/delehat/protocols/epp/Responses$ElementWriter;" } : Jvm.MethodName) ({ cls := "com/example/delehat/delehat/protocols/epp/Responses$Payload", name := "extension", desc := "()Lcom/example/delehat/delehat/protocols/epp/Responses$ElementWriter;" } : Jvm.MethodName)).before a0 Z = true := hw _ (List.mem_of_getElem? (i := 51) rfl)
theorem own_w49 {Z : State} {a0 : Array Value} (hw : ∀ d ∈ tables_1, d.before a0 Z = true) : (Jvm.Cond.declares ({ cls := "com/example/delehat/delehat/protocols/epp/Responses$Payload", name := "extension", desc := "()Lcom/example/delehat/delehat/protocols/epp/Responses$ElementWriter;" } : Jvm.MethodName)).before a0 Z = true := hw _ (List.mem_of_getElem? (i := 49) rfl)
theorem own_w50 {Z : State} {a0 : Array Value} (hw : ∀ d ∈ tables_1, d.before a0 Z = true) : (Jvm.Cond.instanceMethod ({ cls := "com/example/delehat/delehat/protocols/epp/Responses$Payload", name := "extension", desc := "()Lcom/example/delehat/delehat/protocols/epp/Responses$ElementWriter;" } : Jvm.MethodName)).before a0 Z = true := hw _ (List.mem_of_getElem? (i := 50) rfl)
theorem ef1_1 (m : MethodId) : entryFrame m #[(.int (0 : Int32))] 1 = mkF m 0 #[.val (.int (0 : Int32))] [] := by first | (simp [entryFrame, mkF, argsToLocals, Value.category]; done) | rfl
def Q1_1 (Z : State) (a1 : Addr) (h0 : Heap) (n0 : Nat) (v : Option Value) (h : Heap) (L : List Loc) : Prop := v = some (.ref a1) ∧ Fr n0 L ∧ h = h0
set_option maxRecDepth 65536 in
set_option maxHeartbeats 40000000 in
theorem rm1_1 (l : Launch) (Z : State) (a0 : Array Value) (hw : ∀ d ∈ tables_1, d.before a0 Z = true) (ws : List Jvm.Cond) (a1 : Addr) (h0 : Heap) (n0 : Nat) (Z0 : n0 ≤ h0.size) (S_ResultCode_SUCCESS : Sta Z h0 "com/example/delehat/delehat/protocols/epp/ResultCode" "SUCCESS" "Lcom/example/delehat/delehat/protocols/epp/ResultCode;" (.ref a1)) :
    MetFree l (⟨"com/example/delehat/delehat/protocols/epp/PayloadOfPinLaw", "pick", "(I)Lcom/example/delehat/delehat/protocols/epp/ResultCode;"⟩ : MethodName) (head1 (Jvm.Cond.code (⟨"com/example/delehat/delehat/protocols/epp/PayloadOfPinLaw", "pick", "(I)Lcom/example/delehat/delehat/protocols/epp/ResultCode;"⟩ : MethodName) method_2_code 1 (some (.object "com/example/delehat/delehat/protocols/epp/ResultCode")) :: ws) ({ frames := 0, cells := 0, slots := 0, locals := 0 } : Room)) (fun a U => a = #[(.int (0 : Int32))] ∧ Z.Warmed39 U.vm ∧ U.heap = h0) (fun _ _ _ _ _ => True) (fun _ U o U' => ∃ v L, o = .returned v ∧ Q1_1 Z a1 h0 n0 v U'.heap L ∧ FrameEnd U o U' L ({ frames := 0, cells := 0, slots := 0, locals := 0 } : Room).cells ({ frames := 0, cells := 0, slots := 0, locals := 0 } : Room).slots) := by
  refine MetFree.of_bodySF (plainFor_of_name pn_com_example_delehat_delehat_protocols_epp_PayloadOfPinLaw) hisR ?_
  intro p e s m args below meth c s₁ Bd hml0 hP hK
  obtain ⟨rfl, hZ, hh⟩ := hP
  have hx := Bd.exec
  have hby := Bd.bytes
  have hml : c.maxLocals = 1 := hml0
  have hown : s.vm.findClass "com/example/delehat/delehat/protocols/epp/PayloadOfPinLaw" = some m.cls := findClass_of_methodNamed Bd.named
  have hnm := (name_of_methodNamed Bd.named Bd.method).1
  have X0 : Stand p l e ({ frames := 0, cells := 0, slots := 0, locals := 0 } : Room) s m #[(.int (0 : Int32))] below meth c s₁ [] 0 0 := Stand.of_body Bd
  have e0 : s₁.heap = h0 := by rw [← hh, Bd.state]; rfl
  have N0 := Fr.nil n0
  have pre0 : ∀ t, Steps p.tables e below (s₁.setTop (mkF m 0 #[.val (.int (0 : Int32))] [])) t → Steps p.tables e below (s₁.setTop (entryFrame m #[(.int (0 : Int32))] 1)) t := fun t k => castTop (ef1_1 m) k
  obtain ⟨T1, X1, e1, st1⟩ := getS2 X0 hx hZ hown (host := "") (Or.inl (own_w5 hw)) Via.refl e0 S_ResultCode_SUCCESS (g := (mkF m 4 #[.val (.int (0 : Int32))] [])) rfl (hb hby d1_4)
  obtain ⟨fs, hr, hrun, hended, hW, hsame⟩ := X1.leave (v := some (.ref a1)) (fun h => by rw [Bd.returns] at h; cases h)
  refine ⟨_, _, pre0 _ ?_, hrun, hended, _, _, rfl, ?_, ⟨_, rfl⟩, hW, hsame.mono (by decide) (by decide)⟩
  · show Steps p.tables e below (s₁.setTop (mkF m 0 #[.val (.int (0 : Int32))] [])) _
    refine XS.iloadN X0.here hx rfl (hb hby d1_0) rfl ?_
    show Steps p.tables e below (s₁.setTop (mkF m 1 #[.val (.int (0 : Int32))] [(.int (0 : Int32))])) _
    refine XS.ifNo X0.here hx rfl (hb hby d1_1) rfl ((if0 _ _).trans (teq (by decide : (0 : Int32) = (0 : Int32))).2) ?_
    show Steps p.tables e below (s₁.setTop (mkF m 4 #[.val (.int (0 : Int32))] [])) _
    refine st1 _ ?_
    show Steps p.tables e below (T1.setTop (mkF m 7 #[.val (.int (0 : Int32))] [(.ref a1)])) _
    exact retOut X1 hx Bd.returns rfl (Or.inr (Or.inr (Or.inr (Or.inr ⟨rfl, rfl, rfl⟩)))) (hb hby d1_7) hr
  · show Q1_1 Z a1 h0 n0 _ T1.heap _
    rw [e1]
    exact ⟨rfl, N0, rfl⟩
theorem ef1_2 (m : MethodId) : entryFrame m #[(.int (1 : Int32))] 1 = mkF m 0 #[.val (.int (1 : Int32))] [] := by first | (simp [entryFrame, mkF, argsToLocals, Value.category]; done) | rfl
def Q1_2 (Z : State) (a1 : Addr) (h0 : Heap) (n0 : Nat) (v : Option Value) (h : Heap) (L : List Loc) : Prop := v = some (.ref a1) ∧ Fr n0 L ∧ h = h0
set_option maxRecDepth 65536 in
set_option maxHeartbeats 40000000 in
theorem rm1_2 (l : Launch) (Z : State) (a0 : Array Value) (hw : ∀ d ∈ tables_1, d.before a0 Z = true) (ws : List Jvm.Cond) (a1 : Addr) (h0 : Heap) (n0 : Nat) (Z0 : n0 ≤ h0.size) (S_ResultCode_SUCCESS_PENDING : Sta Z h0 "com/example/delehat/delehat/protocols/epp/ResultCode" "SUCCESS_PENDING" "Lcom/example/delehat/delehat/protocols/epp/ResultCode;" (.ref a1)) :
    MetFree l (⟨"com/example/delehat/delehat/protocols/epp/PayloadOfPinLaw", "pick", "(I)Lcom/example/delehat/delehat/protocols/epp/ResultCode;"⟩ : MethodName) (head1 (Jvm.Cond.code (⟨"com/example/delehat/delehat/protocols/epp/PayloadOfPinLaw", "pick", "(I)Lcom/example/delehat/delehat/protocols/epp/ResultCode;"⟩ : MethodName) method_2_code 1 (some (.object "com/example/delehat/delehat/protocols/epp/ResultCode")) :: ws) ({ frames := 0, cells := 0, slots := 0, locals := 0 } : Room)) (fun a U => a = #[(.int (1 : Int32))] ∧ Z.Warmed39 U.vm ∧ U.heap = h0) (fun _ _ _ _ _ => True) (fun _ U o U' => ∃ v L, o = .returned v ∧ Q1_2 Z a1 h0 n0 v U'.heap L ∧ FrameEnd U o U' L ({ frames := 0, cells := 0, slots := 0, locals := 0 } : Room).cells ({ frames := 0, cells := 0, slots := 0, locals := 0 } : Room).slots) := by
  refine MetFree.of_bodySF (plainFor_of_name pn_com_example_delehat_delehat_protocols_epp_PayloadOfPinLaw) hisR ?_
  intro p e s m args below meth c s₁ Bd hml0 hP hK
  obtain ⟨rfl, hZ, hh⟩ := hP
  have hx := Bd.exec
  have hby := Bd.bytes
  have hml : c.maxLocals = 1 := hml0
  have hown : s.vm.findClass "com/example/delehat/delehat/protocols/epp/PayloadOfPinLaw" = some m.cls := findClass_of_methodNamed Bd.named
  have hnm := (name_of_methodNamed Bd.named Bd.method).1
  have X0 : Stand p l e ({ frames := 0, cells := 0, slots := 0, locals := 0 } : Room) s m #[(.int (1 : Int32))] below meth c s₁ [] 0 0 := Stand.of_body Bd
  have e0 : s₁.heap = h0 := by rw [← hh, Bd.state]; rfl
  have N0 := Fr.nil n0
  have pre0 : ∀ t, Steps p.tables e below (s₁.setTop (mkF m 0 #[.val (.int (1 : Int32))] [])) t → Steps p.tables e below (s₁.setTop (entryFrame m #[(.int (1 : Int32))] 1)) t := fun t k => castTop (ef1_2 m) k
  obtain ⟨T1, X1, e1, st1⟩ := getS2 X0 hx hZ hown (host := "") (Or.inl (own_w71 hw)) Via.refl e0 S_ResultCode_SUCCESS_PENDING (g := (mkF m 13 #[.val (.int (1 : Int32))] [])) rfl (hb hby d1_13)
  obtain ⟨fs, hr, hrun, hended, hW, hsame⟩ := X1.leave (v := some (.ref a1)) (fun h => by rw [Bd.returns] at h; cases h)
  refine ⟨_, _, pre0 _ ?_, hrun, hended, _, _, rfl, ?_, ⟨_, rfl⟩, hW, hsame.mono (by decide) (by decide)⟩
  · show Steps p.tables e below (s₁.setTop (mkF m 0 #[.val (.int (1 : Int32))] [])) _
    refine XS.iloadN X0.here hx rfl (hb hby d1_0) rfl ?_
    show Steps p.tables e below (s₁.setTop (mkF m 1 #[.val (.int (1 : Int32))] [(.int (1 : Int32))])) _
    refine XS.ifYes X0.here hx rfl (pc0 := 1) (pc' := 8) rfl (hb hby d1_1) rfl ((if0 _ _).trans (feq (by decide : ¬ ((1 : Int32) = (0 : Int32)))).2) (by decide) (by decide) ?_
    show Steps p.tables e below (s₁.setTop (mkF m 8 #[.val (.int (1 : Int32))] [])) _
    refine XS.iloadN X0.here hx rfl (hb hby d1_8) rfl ?_
    show Steps p.tables e below (s₁.setTop (mkF m 9 #[.val (.int (1 : Int32))] [(.int (1 : Int32))])) _
    refine XS.iconst X0.here hx rfl (hb hby d1_9) ?_
    show Steps p.tables e below (s₁.setTop (mkF m 10 #[.val (.int (1 : Int32))] [(.int (1 : Int32)), (.int (1 : Int32))])) _
    refine XS.icmpNo X0.here hx rfl (hb hby d1_10) rfl (teq (by decide : (1 : Int32) = (1 : Int32))).2 ?_
    show Steps p.tables e below (s₁.setTop (mkF m 13 #[.val (.int (1 : Int32))] [])) _
    refine st1 _ ?_
    show Steps p.tables e below (T1.setTop (mkF m 16 #[.val (.int (1 : Int32))] [(.ref a1)])) _
    exact retOut X1 hx Bd.returns rfl (Or.inr (Or.inr (Or.inr (Or.inr ⟨rfl, rfl, rfl⟩)))) (hb hby d1_16) hr
  · show Q1_2 Z a1 h0 n0 _ T1.heap _
    rw [e1]
    exact ⟨rfl, N0, rfl⟩
theorem ef1_3 (m : MethodId) : entryFrame m #[(.int (2 : Int32))] 1 = mkF m 0 #[.val (.int (2 : Int32))] [] := by first | (simp [entryFrame, mkF, argsToLocals, Value.category]; done) | rfl
def Q1_3 (Z : State) (a1 : Addr) (h0 : Heap) (n0 : Nat) (v : Option Value) (h : Heap) (L : List Loc) : Prop := v = some (.ref a1) ∧ Fr n0 L ∧ h = h0
set_option maxRecDepth 65536 in
set_option maxHeartbeats 40000000 in
theorem rm1_3 (l : Launch) (Z : State) (a0 : Array Value) (hw : ∀ d ∈ tables_1, d.before a0 Z = true) (ws : List Jvm.Cond) (a1 : Addr) (h0 : Heap) (n0 : Nat) (Z0 : n0 ≤ h0.size) (S_ResultCode_SUCCESS_NO_MESSAGES : Sta Z h0 "com/example/delehat/delehat/protocols/epp/ResultCode" "SUCCESS_NO_MESSAGES" "Lcom/example/delehat/delehat/protocols/epp/ResultCode;" (.ref a1)) :
    MetFree l (⟨"com/example/delehat/delehat/protocols/epp/PayloadOfPinLaw", "pick", "(I)Lcom/example/delehat/delehat/protocols/epp/ResultCode;"⟩ : MethodName) (head1 (Jvm.Cond.code (⟨"com/example/delehat/delehat/protocols/epp/PayloadOfPinLaw", "pick", "(I)Lcom/example/delehat/delehat/protocols/epp/ResultCode;"⟩ : MethodName) method_2_code 1 (some (.object "com/example/delehat/delehat/protocols/epp/ResultCode")) :: ws) ({ frames := 0, cells := 0, slots := 0, locals := 0 } : Room)) (fun a U => a = #[(.int (2 : Int32))] ∧ Z.Warmed39 U.vm ∧ U.heap = h0) (fun _ _ _ _ _ => True) (fun _ U o U' => ∃ v L, o = .returned v ∧ Q1_3 Z a1 h0 n0 v U'.heap L ∧ FrameEnd U o U' L ({ frames := 0, cells := 0, slots := 0, locals := 0 } : Room).cells ({ frames := 0, cells := 0, slots := 0, locals := 0 } : Room).slots) := by
  refine MetFree.of_bodySF (plainFor_of_name pn_com_example_delehat_delehat_protocols_epp_PayloadOfPinLaw) hisR ?_
  intro p e s m args below meth c s₁ Bd hml0 hP hK
  obtain ⟨rfl, hZ, hh⟩ := hP
  have hx := Bd.exec
  have hby := Bd.bytes
  have hml : c.maxLocals = 1 := hml0
  have hown : s.vm.findClass "com/example/delehat/delehat/protocols/epp/PayloadOfPinLaw" = some m.cls := findClass_of_methodNamed Bd.named
  have hnm := (name_of_methodNamed Bd.named Bd.method).1
  have X0 : Stand p l e ({ frames := 0, cells := 0, slots := 0, locals := 0 } : Room) s m #[(.int (2 : Int32))] below meth c s₁ [] 0 0 := Stand.of_body Bd
  have e0 : s₁.heap = h0 := by rw [← hh, Bd.state]; rfl
  have N0 := Fr.nil n0
  have pre0 : ∀ t, Steps p.tables e below (s₁.setTop (mkF m 0 #[.val (.int (2 : Int32))] [])) t → Steps p.tables e below (s₁.setTop (entryFrame m #[(.int (2 : Int32))] 1)) t := fun t k => castTop (ef1_3 m) k
  obtain ⟨T1, X1, e1, st1⟩ := getS2 X0 hx hZ hown (host := "") (Or.inl (own_w63 hw)) Via.refl e0 S_ResultCode_SUCCESS_NO_MESSAGES (g := (mkF m 22 #[.val (.int (2 : Int32))] [])) rfl (hb hby d1_22)
  obtain ⟨fs, hr, hrun, hended, hW, hsame⟩ := X1.leave (v := some (.ref a1)) (fun h => by rw [Bd.returns] at h; cases h)
  refine ⟨_, _, pre0 _ ?_, hrun, hended, _, _, rfl, ?_, ⟨_, rfl⟩, hW, hsame.mono (by decide) (by decide)⟩
  · show Steps p.tables e below (s₁.setTop (mkF m 0 #[.val (.int (2 : Int32))] [])) _
    refine XS.iloadN X0.here hx rfl (hb hby d1_0) rfl ?_
    show Steps p.tables e below (s₁.setTop (mkF m 1 #[.val (.int (2 : Int32))] [(.int (2 : Int32))])) _
    refine XS.ifYes X0.here hx rfl (pc0 := 1) (pc' := 8) rfl (hb hby d1_1) rfl ((if0 _ _).trans (feq (by decide : ¬ ((2 : Int32) = (0 : Int32)))).2) (by decide) (by decide) ?_
    show Steps p.tables e below (s₁.setTop (mkF m 8 #[.val (.int (2 : Int32))] [])) _
    refine XS.iloadN X0.here hx rfl (hb hby d1_8) rfl ?_
    show Steps p.tables e below (s₁.setTop (mkF m 9 #[.val (.int (2 : Int32))] [(.int (2 : Int32))])) _
    refine XS.iconst X0.here hx rfl (hb hby d1_9) ?_
    show Steps p.tables e below (s₁.setTop (mkF m 10 #[.val (.int (2 : Int32))] [(.int (1 : Int32)), (.int (2 : Int32))])) _
    refine XS.icmpYes X0.here hx rfl (pc0 := 10) (pc' := 17) rfl (hb hby d1_10) rfl (feq (by decide : ¬ ((2 : Int32) = (1 : Int32)))).2 (by decide) (by decide) ?_
    show Steps p.tables e below (s₁.setTop (mkF m 17 #[.val (.int (2 : Int32))] [])) _
    refine XS.iloadN X0.here hx rfl (hb hby d1_17) rfl ?_
    show Steps p.tables e below (s₁.setTop (mkF m 18 #[.val (.int (2 : Int32))] [(.int (2 : Int32))])) _
    refine XS.iconst X0.here hx rfl (hb hby d1_18) ?_
    show Steps p.tables e below (s₁.setTop (mkF m 19 #[.val (.int (2 : Int32))] [(.int (2 : Int32)), (.int (2 : Int32))])) _
    refine XS.icmpNo X0.here hx rfl (hb hby d1_19) rfl (teq (by decide : (2 : Int32) = (2 : Int32))).2 ?_
    show Steps p.tables e below (s₁.setTop (mkF m 22 #[.val (.int (2 : Int32))] [])) _
    refine st1 _ ?_
    show Steps p.tables e below (T1.setTop (mkF m 25 #[.val (.int (2 : Int32))] [(.ref a1)])) _
    exact retOut X1 hx Bd.returns rfl (Or.inr (Or.inr (Or.inr (Or.inr ⟨rfl, rfl, rfl⟩)))) (hb hby d1_25) hr
  · show Q1_3 Z a1 h0 n0 _ T1.heap _
    rw [e1]
    exact ⟨rfl, N0, rfl⟩
theorem ef1_4 (m : MethodId) : entryFrame m #[(.int (3 : Int32))] 1 = mkF m 0 #[.val (.int (3 : Int32))] [] := by first | (simp [entryFrame, mkF, argsToLocals, Value.category]; done) | rfl
def Q1_4 (Z : State) (a1 : Addr) (h0 : Heap) (n0 : Nat) (v : Option Value) (h : Heap) (L : List Loc) : Prop := v = some (.ref a1) ∧ Fr n0 L ∧ h = h0
set_option maxRecDepth 65536 in
set_option maxHeartbeats 40000000 in
theorem rm1_4 (l : Launch) (Z : State) (a0 : Array Value) (hw : ∀ d ∈ tables_1, d.before a0 Z = true) (ws : List Jvm.Cond) (a1 : Addr) (h0 : Heap) (n0 : Nat) (Z0 : n0 ≤ h0.size) (S_ResultCode_SUCCESS_ACK_TO_DEQUEUE : Sta Z h0 "com/example/delehat/delehat/protocols/epp/ResultCode" "SUCCESS_ACK_TO_DEQUEUE" "Lcom/example/delehat/delehat/protocols/epp/ResultCode;" (.ref a1)) :
    MetFree l (⟨"com/example/delehat/delehat/protocols/epp/PayloadOfPinLaw", "pick", "(I)Lcom/example/delehat/delehat/protocols/epp/ResultCode;"⟩ : MethodName) (head1 (Jvm.Cond.code (⟨"com/example/delehat/delehat/protocols/epp/PayloadOfPinLaw", "pick", "(I)Lcom/example/delehat/delehat/protocols/epp/ResultCode;"⟩ : MethodName) method_2_code 1 (some (.object "com/example/delehat/delehat/protocols/epp/ResultCode")) :: ws) ({ frames := 0, cells := 0, slots := 0, locals := 0 } : Room)) (fun a U => a = #[(.int (3 : Int32))] ∧ Z.Warmed39 U.vm ∧ U.heap = h0) (fun _ _ _ _ _ => True) (fun _ U o U' => ∃ v L, o = .returned v ∧ Q1_4 Z a1 h0 n0 v U'.heap L ∧ FrameEnd U o U' L ({ frames := 0, cells := 0, slots := 0, locals := 0 } : Room).cells ({ frames := 0, cells := 0, slots := 0, locals := 0 } : Room).slots) := by
  refine MetFree.of_bodySF (plainFor_of_name pn_com_example_delehat_delehat_protocols_epp_PayloadOfPinLaw) hisR ?_
  intro p e s m args below meth c s₁ Bd hml0 hP hK
  obtain ⟨rfl, hZ, hh⟩ := hP
  have hx := Bd.exec
  have hby := Bd.bytes
  have hml : c.maxLocals = 1 := hml0
  have hown : s.vm.findClass "com/example/delehat/delehat/protocols/epp/PayloadOfPinLaw" = some m.cls := findClass_of_methodNamed Bd.named
  have hnm := (name_of_methodNamed Bd.named Bd.method).1
  have X0 : Stand p l e ({ frames := 0, cells := 0, slots := 0, locals := 0 } : Room) s m #[(.int (3 : Int32))] below meth c s₁ [] 0 0 := Stand.of_body Bd
  have e0 : s₁.heap = h0 := by rw [← hh, Bd.state]; rfl
  have N0 := Fr.nil n0
  have pre0 : ∀ t, Steps p.tables e below (s₁.setTop (mkF m 0 #[.val (.int (3 : Int32))] [])) t → Steps p.tables e below (s₁.setTop (entryFrame m #[(.int (3 : Int32))] 1)) t := fun t k => castTop (ef1_4 m) k
  obtain ⟨T1, X1, e1, st1⟩ := getS2 X0 hx hZ hown (host := "") (Or.inl (own_w53 hw)) Via.refl e0 S_ResultCode_SUCCESS_ACK_TO_DEQUEUE (g := (mkF m 31 #[.val (.int (3 : Int32))] [])) rfl (hb hby d1_31)
  obtain ⟨fs, hr, hrun, hended, hW, hsame⟩ := X1.leave (v := some (.ref a1)) (fun h => by rw [Bd.returns] at h; cases h)
  refine ⟨_, _, pre0 _ ?_, hrun, hended, _, _, rfl, ?_, ⟨_, rfl⟩, hW, hsame.mono (by decide) (by decide)⟩
  · show Steps p.tables e below (s₁.setTop (mkF m 0 #[.val (.int (3 : Int32))] [])) _
    refine XS.iloadN X0.here hx rfl (hb hby d1_0) rfl ?_
    show Steps p.tables e below (s₁.setTop (mkF m 1 #[.val (.int (3 : Int32))] [(.int (3 : Int32))])) _
    refine XS.ifYes X0.here hx rfl (pc0 := 1) (pc' := 8) rfl (hb hby d1_1) rfl ((if0 _ _).trans (feq (by decide : ¬ ((3 : Int32) = (0 : Int32)))).2) (by decide) (by decide) ?_
    show Steps p.tables e below (s₁.setTop (mkF m 8 #[.val (.int (3 : Int32))] [])) _
    refine XS.iloadN X0.here hx rfl (hb hby d1_8) rfl ?_
    show Steps p.tables e below (s₁.setTop (mkF m 9 #[.val (.int (3 : Int32))] [(.int (3 : Int32))])) _
    refine XS.iconst X0.here hx rfl (hb hby d1_9) ?_
    show Steps p.tables e below (s₁.setTop (mkF m 10 #[.val (.int (3 : Int32))] [(.int (1 : Int32)), (.int (3 : Int32))])) _
    refine XS.icmpYes X0.here hx rfl (pc0 := 10) (pc' := 17) rfl (hb hby d1_10) rfl (feq (by decide : ¬ ((3 : Int32) = (1 : Int32)))).2 (by decide) (by decide) ?_
    show Steps p.tables e below (s₁.setTop (mkF m 17 #[.val (.int (3 : Int32))] [])) _
    refine XS.iloadN X0.here hx rfl (hb hby d1_17) rfl ?_
    show Steps p.tables e below (s₁.setTop (mkF m 18 #[.val (.int (3 : Int32))] [(.int (3 : Int32))])) _
    refine XS.iconst X0.here hx rfl (hb hby d1_18) ?_
    show Steps p.tables e below (s₁.setTop (mkF m 19 #[.val (.int (3 : Int32))] [(.int (2 : Int32)), (.int (3 : Int32))])) _
    refine XS.icmpYes X0.here hx rfl (pc0 := 19) (pc' := 26) rfl (hb hby d1_19) rfl (feq (by decide : ¬ ((3 : Int32) = (2 : Int32)))).2 (by decide) (by decide) ?_
    show Steps p.tables e below (s₁.setTop (mkF m 26 #[.val (.int (3 : Int32))] [])) _
    refine XS.iloadN X0.here hx rfl (hb hby d1_26) rfl ?_
    show Steps p.tables e below (s₁.setTop (mkF m 27 #[.val (.int (3 : Int32))] [(.int (3 : Int32))])) _
    refine XS.iconst X0.here hx rfl (hb hby d1_27) ?_
    show Steps p.tables e below (s₁.setTop (mkF m 28 #[.val (.int (3 : Int32))] [(.int (3 : Int32)), (.int (3 : Int32))])) _
    refine XS.icmpNo X0.here hx rfl (hb hby d1_28) rfl (teq (by decide : (3 : Int32) = (3 : Int32))).2 ?_
    show Steps p.tables e below (s₁.setTop (mkF m 31 #[.val (.int (3 : Int32))] [])) _
    refine st1 _ ?_
    show Steps p.tables e below (T1.setTop (mkF m 34 #[.val (.int (3 : Int32))] [(.ref a1)])) _
    exact retOut X1 hx Bd.returns rfl (Or.inr (Or.inr (Or.inr (Or.inr ⟨rfl, rfl, rfl⟩)))) (hb hby d1_34) hr
  · show Q1_4 Z a1 h0 n0 _ T1.heap _
    rw [e1]
    exact ⟨rfl, N0, rfl⟩
theorem ef1_5 (m : MethodId) : entryFrame m #[(.int (4 : Int32))] 1 = mkF m 0 #[.val (.int (4 : Int32))] [] := by first | (simp [entryFrame, mkF, argsToLocals, Value.category]; done) | rfl
def Q1_5 (Z : State) (a1 : Addr) (h0 : Heap) (n0 : Nat) (v : Option Value) (h : Heap) (L : List Loc) : Prop := v = some (.ref a1) ∧ Fr n0 L ∧ h = h0
set_option maxRecDepth 65536 in
set_option maxHeartbeats 40000000 in
theorem rm1_5 (l : Launch) (Z : State) (a0 : Array Value) (hw : ∀ d ∈ tables_1, d.before a0 Z = true) (ws : List Jvm.Cond) (a1 : Addr) (h0 : Heap) (n0 : Nat) (Z0 : n0 ≤ h0.size) (S_ResultCode_SUCCESS_ENDING_SESSION : Sta Z h0 "com/example/delehat/delehat/protocols/epp/ResultCode" "SUCCESS_ENDING_SESSION" "Lcom/example/delehat/delehat/protocols/epp/ResultCode;" (.ref a1)) :
    MetFree l (⟨"com/example/delehat/delehat/protocols/epp/PayloadOfPinLaw", "pick", "(I)Lcom/example/delehat/delehat/protocols/epp/ResultCode;"⟩ : MethodName) (head1 (Jvm.Cond.code (⟨"com/example/delehat/delehat/protocols/epp/PayloadOfPinLaw", "pick", "(I)Lcom/example/delehat/delehat/protocols/epp/ResultCode;"⟩ : MethodName) method_2_code 1 (some (.object "com/example/delehat/delehat/protocols/epp/ResultCode")) :: ws) ({ frames := 0, cells := 0, slots := 0, locals := 0 } : Room)) (fun a U => a = #[(.int (4 : Int32))] ∧ Z.Warmed39 U.vm ∧ U.heap = h0) (fun _ _ _ _ _ => True) (fun _ U o U' => ∃ v L, o = .returned v ∧ Q1_5 Z a1 h0 n0 v U'.heap L ∧ FrameEnd U o U' L ({ frames := 0, cells := 0, slots := 0, locals := 0 } : Room).cells ({ frames := 0, cells := 0, slots := 0, locals := 0 } : Room).slots) := by
  refine MetFree.of_bodySF (plainFor_of_name pn_com_example_delehat_delehat_protocols_epp_PayloadOfPinLaw) hisR ?_
  intro p e s m args below meth c s₁ Bd hml0 hP hK
  obtain ⟨rfl, hZ, hh⟩ := hP
  have hx := Bd.exec
  have hby := Bd.bytes
  have hml : c.maxLocals = 1 := hml0
  have hown : s.vm.findClass "com/example/delehat/delehat/protocols/epp/PayloadOfPinLaw" = some m.cls := findClass_of_methodNamed Bd.named
  have hnm := (name_of_methodNamed Bd.named Bd.method).1
  have X0 : Stand p l e ({ frames := 0, cells := 0, slots := 0, locals := 0 } : Room) s m #[(.int (4 : Int32))] below meth c s₁ [] 0 0 := Stand.of_body Bd
  have e0 : s₁.heap = h0 := by rw [← hh, Bd.state]; rfl
  have N0 := Fr.nil n0
  have pre0 : ∀ t, Steps p.tables e below (s₁.setTop (mkF m 0 #[.val (.int (4 : Int32))] [])) t → Steps p.tables e below (s₁.setTop (entryFrame m #[(.int (4 : Int32))] 1)) t := fun t k => castTop (ef1_5 m) k
  obtain ⟨T1, X1, e1, st1⟩ := getS2 X0 hx hZ hown (host := "") (Or.inl (own_w91 hw)) Via.refl e0 S_ResultCode_SUCCESS_ENDING_SESSION (g := (mkF m 40 #[.val (.int (4 : Int32))] [])) rfl (hb hby d1_40)
  obtain ⟨fs, hr, hrun, hended, hW, hsame⟩ := X1.leave (v := some (.ref a1)) (fun h => by rw [Bd.returns] at h; cases h)
  refine ⟨_, _, pre0 _ ?_, hrun, hended, _, _, rfl, ?_, ⟨_, rfl⟩, hW, hsame.mono (by decide) (by decide)⟩
  · show Steps p.tables e below (s₁.setTop (mkF m 0 #[.val (.int (4 : Int32))] [])) _
    refine XS.iloadN X0.here hx rfl (hb hby d1_0) rfl ?_
    show Steps p.tables e below (s₁.setTop (mkF m 1 #[.val (.int (4 : Int32))] [(.int (4 : Int32))])) _
    refine XS.ifYes X0.here hx rfl (pc0 := 1) (pc' := 8) rfl (hb hby d1_1) rfl ((if0 _ _).trans (feq (by decide : ¬ ((4 : Int32) = (0 : Int32)))).2) (by decide) (by decide) ?_
    show Steps p.tables e below (s₁.setTop (mkF m 8 #[.val (.int (4 : Int32))] [])) _
    refine XS.iloadN X0.here hx rfl (hb hby d1_8) rfl ?_
    show Steps p.tables e below (s₁.setTop (mkF m 9 #[.val (.int (4 : Int32))] [(.int (4 : Int32))])) _
    refine XS.iconst X0.here hx rfl (hb hby d1_9) ?_
    show Steps p.tables e below (s₁.setTop (mkF m 10 #[.val (.int (4 : Int32))] [(.int (1 : Int32)), (.int (4 : Int32))])) _
    refine XS.icmpYes X0.here hx rfl (pc0 := 10) (pc' := 17) rfl (hb hby d1_10) rfl (feq (by decide : ¬ ((4 : Int32) = (1 : Int32)))).2 (by decide) (by decide) ?_
    show Steps p.tables e below (s₁.setTop (mkF m 17 #[.val (.int (4 : Int32))] [])) _
    refine XS.iloadN X0.here hx rfl (hb hby d1_17) rfl ?_
    show Steps p.tables e below (s₁.setTop (mkF m 18 #[.val (.int (4 : Int32))] [(.int (4 : Int32))])) _
    refine XS.iconst X0.here hx rfl (hb hby d1_18) ?_
    show Steps p.tables e below (s₁.setTop (mkF m 19 #[.val (.int (4 : Int32))] [(.int (2 : Int32)), (.int (4 : Int32))])) _
    refine XS.icmpYes X0.here hx rfl (pc0 := 19) (pc' := 26) rfl (hb hby d1_19) rfl (feq (by decide : ¬ ((4 : Int32) = (2 : Int32)))).2 (by decide) (by decide) ?_
    show Steps p.tables e below (s₁.setTop (mkF m 26 #[.val (.int (4 : Int32))] [])) _
    refine XS.iloadN X0.here hx rfl (hb hby d1_26) rfl ?_
    show Steps p.tables e below (s₁.setTop (mkF m 27 #[.val (.int (4 : Int32))] [(.int (4 : Int32))])) _
    refine XS.iconst X0.here hx rfl (hb hby d1_27) ?_
    show Steps p.tables e below (s₁.setTop (mkF m 28 #[.val (.int (4 : Int32))] [(.int (3 : Int32)), (.int (4 : Int32))])) _
    refine XS.icmpYes X0.here hx rfl (pc0 := 28) (pc' := 35) rfl (hb hby d1_28) rfl (feq (by decide : ¬ ((4 : Int32) = (3 : Int32)))).2 (by decide) (by decide) ?_
    show Steps p.tables e below (s₁.setTop (mkF m 35 #[.val (.int (4 : Int32))] [])) _
    refine XS.iloadN X0.here hx rfl (hb hby d1_35) rfl ?_
    show Steps p.tables e below (s₁.setTop (mkF m 36 #[.val (.int (4 : Int32))] [(.int (4 : Int32))])) _
    refine XS.iconst X0.here hx rfl (hb hby d1_36) ?_
    show Steps p.tables e below (s₁.setTop (mkF m 37 #[.val (.int (4 : Int32))] [(.int (4 : Int32)), (.int (4 : Int32))])) _
    refine XS.icmpNo X0.here hx rfl (hb hby d1_37) rfl (teq (by decide : (4 : Int32) = (4 : Int32))).2 ?_
    show Steps p.tables e below (s₁.setTop (mkF m 40 #[.val (.int (4 : Int32))] [])) _
    refine st1 _ ?_
    show Steps p.tables e below (T1.setTop (mkF m 43 #[.val (.int (4 : Int32))] [(.ref a1)])) _
    exact retOut X1 hx Bd.returns rfl (Or.inr (Or.inr (Or.inr (Or.inr ⟨rfl, rfl, rfl⟩)))) (hb hby d1_43) hr
  · show Q1_5 Z a1 h0 n0 _ T1.heap _
    rw [e1]
    exact ⟨rfl, N0, rfl⟩
theorem ef1_6 (m : MethodId) : entryFrame m #[(.int (5 : Int32))] 1 = mkF m 0 #[.val (.int (5 : Int32))] [] := by first | (simp [entryFrame, mkF, argsToLocals, Value.category]; done) | rfl
def Q1_6 (Z : State) (a1 : Addr) (h0 : Heap) (n0 : Nat) (v : Option Value) (h : Heap) (L : List Loc) : Prop := v = some (.ref a1) ∧ Fr n0 L ∧ h = h0
set_option maxRecDepth 65536 in
set_option maxHeartbeats 40000000 in
theorem rm1_6 (l : Launch) (Z : State) (a0 : Array Value) (hw : ∀ d ∈ tables_1, d.before a0 Z = true) (ws : List Jvm.Cond) (a1 : Addr) (h0 : Heap) (n0 : Nat) (Z0 : n0 ≤ h0.size) (S_ResultCode_COMMAND_SYNTAX_ERROR : Sta Z h0 "com/example/delehat/delehat/protocols/epp/ResultCode" "COMMAND_SYNTAX_ERROR" "Lcom/example/delehat/delehat/protocols/epp/ResultCode;" (.ref a1)) :
    MetFree l (⟨"com/example/delehat/delehat/protocols/epp/PayloadOfPinLaw", "pick", "(I)Lcom/example/delehat/delehat/protocols/epp/ResultCode;"⟩ : MethodName) (head1 (Jvm.Cond.code (⟨"com/example/delehat/delehat/protocols/epp/PayloadOfPinLaw", "pick", "(I)Lcom/example/delehat/delehat/protocols/epp/ResultCode;"⟩ : MethodName) method_2_code 1 (some (.object "com/example/delehat/delehat/protocols/epp/ResultCode")) :: ws) ({ frames := 0, cells := 0, slots := 0, locals := 0 } : Room)) (fun a U => a = #[(.int (5 : Int32))] ∧ Z.Warmed39 U.vm ∧ U.heap = h0) (fun _ _ _ _ _ => True) (fun _ U o U' => ∃ v L, o = .returned v ∧ Q1_6 Z a1 h0 n0 v U'.heap L ∧ FrameEnd U o U' L ({ frames := 0, cells := 0, slots := 0, locals := 0 } : Room).cells ({ frames := 0, cells := 0, slots := 0, locals := 0 } : Room).slots) := by
  refine MetFree.of_bodySF (plainFor_of_name pn_com_example_delehat_delehat_protocols_epp_PayloadOfPinLaw) hisR ?_
  intro p e s m args below meth c s₁ Bd hml0 hP hK
  obtain ⟨rfl, hZ, hh⟩ := hP
  have hx := Bd.exec
  have hby := Bd.bytes
  have hml : c.maxLocals = 1 := hml0
  have hown : s.vm.findClass "com/example/delehat/delehat/protocols/epp/PayloadOfPinLaw" = some m.cls := findClass_of_methodNamed Bd.named
  have hnm := (name_of_methodNamed Bd.named Bd.method).1
  have X0 : Stand p l e ({ frames := 0, cells := 0, slots := 0, locals := 0 } : Room) s m #[(.int (5 : Int32))] below meth c s₁ [] 0 0 := Stand.of_body Bd
  have e0 : s₁.heap = h0 := by rw [← hh, Bd.state]; rfl
  have N0 := Fr.nil n0
  have pre0 : ∀ t, Steps p.tables e below (s₁.setTop (mkF m 0 #[.val (.int (5 : Int32))] [])) t → Steps p.tables e below (s₁.setTop (entryFrame m #[(.int (5 : Int32))] 1)) t := fun t k => castTop (ef1_6 m) k
  obtain ⟨T1, X1, e1, st1⟩ := getS2 X0 hx hZ hown (host := "") (Or.inl (own_w99 hw)) Via.refl e0 S_ResultCode_COMMAND_SYNTAX_ERROR (g := (mkF m 49 #[.val (.int (5 : Int32))] [])) rfl (hb hby d1_49)
  obtain ⟨fs, hr, hrun, hended, hW, hsame⟩ := X1.leave (v := some (.ref a1)) (fun h => by rw [Bd.returns] at h; cases h)
  refine ⟨_, _, pre0 _ ?_, hrun, hended, _, _, rfl, ?_, ⟨_, rfl⟩, hW, hsame.mono (by decide) (by decide)⟩
  · show Steps p.tables e below (s₁.setTop (mkF m 0 #[.val (.int (5 : Int32))] [])) _
    refine XS.iloadN X0.here hx rfl (hb hby d1_0) rfl ?_
    show Steps p.tables e below (s₁.setTop (mkF m 1 #[.val (.int (5 : Int32))] [(.int (5 : Int32))])) _
    refine XS.ifYes X0.here hx rfl (pc0 := 1) (pc' := 8) rfl (hb hby d1_1) rfl ((if0 _ _).trans (feq (by decide : ¬ ((5 : Int32) = (0 : Int32)))).2) (by decide) (by decide) ?_
    show Steps p.tables e below (s₁.setTop (mkF m 8 #[.val (.int (5 : Int32))] [])) _
    refine XS.iloadN X0.here hx rfl (hb hby d1_8) rfl ?_
    show Steps p.tables e below (s₁.setTop (mkF m 9 #[.val (.int (5 : Int32))] [(.int (5 : Int32))])) _
    refine XS.iconst X0.here hx rfl (hb hby d1_9) ?_
    show Steps p.tables e below (s₁.setTop (mkF m 10 #[.val (.int (5 : Int32))] [(.int (1 : Int32)), (.int (5 : Int32))])) _
    refine XS.icmpYes X0.here hx rfl (pc0 := 10) (pc' := 17) rfl (hb hby d1_10) rfl (feq (by decide : ¬ ((5 : Int32) = (1 : Int32)))).2 (by decide) (by decide) ?_
    show Steps p.tables e below (s₁.setTop (mkF m 17 #[.val (.int (5 : Int32))] [])) _
    refine XS.iloadN X0.here hx rfl (hb hby d1_17) rfl ?_
    show Steps p.tables e below (s₁.setTop (mkF m 18 #[.val (.int (5 : Int32))] [(.int (5 : Int32))])) _
    refine XS.iconst X0.here hx rfl (hb hby d1_18) ?_
    show Steps p.tables e below (s₁.setTop (mkF m 19 #[.val (.int (5 : Int32))] [(.int (2 : Int32)), (.int (5 : Int32))])) _
    refine XS.icmpYes X0.here hx rfl (pc0 := 19) (pc' := 26) rfl (hb hby d1_19) rfl (feq (by decide : ¬ ((5 : Int32) = (2 : Int32)))).2 (by decide) (by decide) ?_
    show Steps p.tables e below (s₁.setTop (mkF m 26 #[.val (.int (5 : Int32))] [])) _
    refine XS.iloadN X0.here hx rfl (hb hby d1_26) rfl ?_
    show Steps p.tables e below (s₁.setTop (mkF m 27 #[.val (.int (5 : Int32))] [(.int (5 : Int32))])) _
    refine XS.iconst X0.here hx rfl (hb hby d1_27) ?_
    show Steps p.tables e below (s₁.setTop (mkF m 28 #[.val (.int (5 : Int32))] [(.int (3 : Int32)), (.int (5 : Int32))])) _
    refine XS.icmpYes X0.here hx rfl (pc0 := 28) (pc' := 35) rfl (hb hby d1_28) rfl (feq (by decide : ¬ ((5 : Int32) = (3 : Int32)))).2 (by decide) (by decide) ?_
    show Steps p.tables e below (s₁.setTop (mkF m 35 #[.val (.int (5 : Int32))] [])) _
    refine XS.iloadN X0.here hx rfl (hb hby d1_35) rfl ?_
    show Steps p.tables e below (s₁.setTop (mkF m 36 #[.val (.int (5 : Int32))] [(.int (5 : Int32))])) _
    refine XS.iconst X0.here hx rfl (hb hby d1_36) ?_
    show Steps p.tables e below (s₁.setTop (mkF m 37 #[.val (.int (5 : Int32))] [(.int (4 : Int32)), (.int (5 : Int32))])) _
    refine XS.icmpYes X0.here hx rfl (pc0 := 37) (pc' := 44) rfl (hb hby d1_37) rfl (feq (by decide : ¬ ((5 : Int32) = (4 : Int32)))).2 (by decide) (by decide) ?_
    show Steps p.tables e below (s₁.setTop (mkF m 44 #[.val (.int (5 : Int32))] [])) _
    refine XS.iloadN X0.here hx rfl (hb hby d1_44) rfl ?_
    show Steps p.tables e below (s₁.setTop (mkF m 45 #[.val (.int (5 : Int32))] [(.int (5 : Int32))])) _
    refine XS.iconst X0.here hx rfl (hb hby d1_45) ?_
    show Steps p.tables e below (s₁.setTop (mkF m 46 #[.val (.int (5 : Int32))] [(.int (5 : Int32)), (.int (5 : Int32))])) _
    refine XS.icmpNo X0.here hx rfl (hb hby d1_46) rfl (teq (by decide : (5 : Int32) = (5 : Int32))).2 ?_
    show Steps p.tables e below (s₁.setTop (mkF m 49 #[.val (.int (5 : Int32))] [])) _
    refine st1 _ ?_
    show Steps p.tables e below (T1.setTop (mkF m 52 #[.val (.int (5 : Int32))] [(.ref a1)])) _
    exact retOut X1 hx Bd.returns rfl (Or.inr (Or.inr (Or.inr (Or.inr ⟨rfl, rfl, rfl⟩)))) (hb hby d1_52) hr
  · show Q1_6 Z a1 h0 n0 _ T1.heap _
    rw [e1]
    exact ⟨rfl, N0, rfl⟩
theorem ef1_7 (m : MethodId) : entryFrame m #[(.int (6 : Int32))] 1 = mkF m 0 #[.val (.int (6 : Int32))] [] := by first | (simp [entryFrame, mkF, argsToLocals, Value.category]; done) | rfl
def Q1_7 (Z : State) (a1 : Addr) (h0 : Heap) (n0 : Nat) (v : Option Value) (h : Heap) (L : List Loc) : Prop := v = some (.ref a1) ∧ Fr n0 L ∧ h = h0
set_option maxRecDepth 65536 in
set_option maxHeartbeats 40000000 in
theorem rm1_7 (l : Launch) (Z : State) (a0 : Array Value) (hw : ∀ d ∈ tables_1, d.before a0 Z = true) (ws : List Jvm.Cond) (a1 : Addr) (h0 : Heap) (n0 : Nat) (Z0 : n0 ≤ h0.size) (S_ResultCode_COMMAND_USE_ERROR : Sta Z h0 "com/example/delehat/delehat/protocols/epp/ResultCode" "COMMAND_USE_ERROR" "Lcom/example/delehat/delehat/protocols/epp/ResultCode;" (.ref a1)) :
    MetFree l (⟨"com/example/delehat/delehat/protocols/epp/PayloadOfPinLaw", "pick", "(I)Lcom/example/delehat/delehat/protocols/epp/ResultCode;"⟩ : MethodName) (head1 (Jvm.Cond.code (⟨"com/example/delehat/delehat/protocols/epp/PayloadOfPinLaw", "pick", "(I)Lcom/example/delehat/delehat/protocols/epp/ResultCode;"⟩ : MethodName) method_2_code 1 (some (.object "com/example/delehat/delehat/protocols/epp/ResultCode")) :: ws) ({ frames := 0, cells := 0, slots := 0, locals := 0 } : Room)) (fun a U => a = #[(.int (6 : Int32))] ∧ Z.Warmed39 U.vm ∧ U.heap = h0) (fun _ _ _ _ _ => True) (fun _ U o U' => ∃ v L, o = .returned v ∧ Q1_7 Z a1 h0 n0 v U'.heap L ∧ FrameEnd U o U' L ({ frames := 0, cells := 0, slots := 0, locals := 0 } : Room).cells ({ frames := 0, cells := 0, slots := 0, locals := 0 } : Room).slots) := by
  refine MetFree.of_bodySF (plainFor_of_name pn_com_example_delehat_delehat_protocols_epp_PayloadOfPinLaw) hisR ?_
  intro p e s m args below meth c s₁ Bd hml0 hP hK
  obtain ⟨rfl, hZ, hh⟩ := hP
  have hx := Bd.exec
  have hby := Bd.bytes
  have hml : c.maxLocals = 1 := hml0
  have hown : s.vm.findClass "com/example/delehat/delehat/protocols/epp/PayloadOfPinLaw" = some m.cls := findClass_of_methodNamed Bd.named
  have hnm := (name_of_methodNamed Bd.named Bd.method).1
  have X0 : Stand p l e ({ frames := 0, cells := 0, slots := 0, locals := 0 } : Room) s m #[(.int (6 : Int32))] below meth c s₁ [] 0 0 := Stand.of_body Bd
  have e0 : s₁.heap = h0 := by rw [← hh, Bd.state]; rfl
  have N0 := Fr.nil n0
  have pre0 : ∀ t, Steps p.tables e below (s₁.setTop (mkF m 0 #[.val (.int (6 : Int32))] [])) t → Steps p.tables e below (s₁.setTop (entryFrame m #[(.int (6 : Int32))] 1)) t := fun t k => castTop (ef1_7 m) k
  obtain ⟨T1, X1, e1, st1⟩ := getS2 X0 hx hZ hown (host := "") (Or.inl (own_w83 hw)) Via.refl e0 S_ResultCode_COMMAND_USE_ERROR (g := (mkF m 59 #[.val (.int (6 : Int32))] [])) rfl (hb hby d1_59)
  obtain ⟨fs, hr, hrun, hended, hW, hsame⟩ := X1.leave (v := some (.ref a1)) (fun h => by rw [Bd.returns] at h; cases h)
  refine ⟨_, _, pre0 _ ?_, hrun, hended, _, _, rfl, ?_, ⟨_, rfl⟩, hW, hsame.mono (by decide) (by decide)⟩
  · show Steps p.tables e below (s₁.setTop (mkF m 0 #[.val (.int (6 : Int32))] [])) _
    refine XS.iloadN X0.here hx rfl (hb hby d1_0) rfl ?_
    show Steps p.tables e below (s₁.setTop (mkF m 1 #[.val (.int (6 : Int32))] [(.int (6 : Int32))])) _
    refine XS.ifYes X0.here hx rfl (pc0 := 1) (pc' := 8) rfl (hb hby d1_1) rfl ((if0 _ _).trans (feq (by decide : ¬ ((6 : Int32) = (0 : Int32)))).2) (by decide) (by decide) ?_
    show Steps p.tables e below (s₁.setTop (mkF m 8 #[.val (.int (6 : Int32))] [])) _
    refine XS.iloadN X0.here hx rfl (hb hby d1_8) rfl ?_
    show Steps p.tables e below (s₁.setTop (mkF m 9 #[.val (.int (6 : Int32))] [(.int (6 : Int32))])) _
    refine XS.iconst X0.here hx rfl (hb hby d1_9) ?_
    show Steps p.tables e below (s₁.setTop (mkF m 10 #[.val (.int (6 : Int32))] [(.int (1 : Int32)), (.int (6 : Int32))])) _
    refine XS.icmpYes X0.here hx rfl (pc0 := 10) (pc' := 17) rfl (hb hby d1_10) rfl (feq (by decide : ¬ ((6 : Int32) = (1 : Int32)))).2 (by decide) (by decide) ?_
    show Steps p.tables e below (s₁.setTop (mkF m 17 #[.val (.int (6 : Int32))] [])) _
    refine XS.iloadN X0.here hx rfl (hb hby d1_17) rfl ?_
    show Steps p.tables e below (s₁.setTop (mkF m 18 #[.val (.int (6 : Int32))] [(.int (6 : Int32))])) _
    refine XS.iconst X0.here hx rfl (hb hby d1_18) ?_
    show Steps p.tables e below (s₁.setTop (mkF m 19 #[.val (.int (6 : Int32))] [(.int (2 : Int32)), (.int (6 : Int32))])) _
    refine XS.icmpYes X0.here hx rfl (pc0 := 19) (pc' := 26) rfl (hb hby d1_19) rfl (feq (by decide : ¬ ((6 : Int32) = (2 : Int32)))).2 (by decide) (by decide) ?_
    show Steps p.tables e below (s₁.setTop (mkF m 26 #[.val (.int (6 : Int32))] [])) _
    refine XS.iloadN X0.here hx rfl (hb hby d1_26) rfl ?_
    show Steps p.tables e below (s₁.setTop (mkF m 27 #[.val (.int (6 : Int32))] [(.int (6 : Int32))])) _
    refine XS.iconst X0.here hx rfl (hb hby d1_27) ?_
    show Steps p.tables e below (s₁.setTop (mkF m 28 #[.val (.int (6 : Int32))] [(.int (3 : Int32)), (.int (6 : Int32))])) _
    refine XS.icmpYes X0.here hx rfl (pc0 := 28) (pc' := 35) rfl (hb hby d1_28) rfl (feq (by decide : ¬ ((6 : Int32) = (3 : Int32)))).2 (by decide) (by decide) ?_
    show Steps p.tables e below (s₁.setTop (mkF m 35 #[.val (.int (6 : Int32))] [])) _
    refine XS.iloadN X0.here hx rfl (hb hby d1_35) rfl ?_
    show Steps p.tables e below (s₁.setTop (mkF m 36 #[.val (.int (6 : Int32))] [(.int (6 : Int32))])) _
    refine XS.iconst X0.here hx rfl (hb hby d1_36) ?_
    show Steps p.tables e below (s₁.setTop (mkF m 37 #[.val (.int (6 : Int32))] [(.int (4 : Int32)), (.int (6 : Int32))])) _
    refine XS.icmpYes X0.here hx rfl (pc0 := 37) (pc' := 44) rfl (hb hby d1_37) rfl (feq (by decide : ¬ ((6 : Int32) = (4 : Int32)))).2 (by decide) (by decide) ?_
    show Steps p.tables e below (s₁.setTop (mkF m 44 #[.val (.int (6 : Int32))] [])) _
    refine XS.iloadN X0.here hx rfl (hb hby d1_44) rfl ?_
    show Steps p.tables e below (s₁.setTop (mkF m 45 #[.val (.int (6 : Int32))] [(.int (6 : Int32))])) _
    refine XS.iconst X0.here hx rfl (hb hby d1_45) ?_
    show Steps p.tables e below (s₁.setTop (mkF m 46 #[.val (.int (6 : Int32))] [(.int (5 : Int32)), (.int (6 : Int32))])) _
    refine XS.icmpYes X0.here hx rfl (pc0 := 46) (pc' := 53) rfl (hb hby d1_46) rfl (feq (by decide : ¬ ((6 : Int32) = (5 : Int32)))).2 (by decide) (by decide) ?_
    show Steps p.tables e below (s₁.setTop (mkF m 53 #[.val (.int (6 : Int32))] [])) _
    refine XS.iloadN X0.here hx rfl (hb hby d1_53) rfl ?_
    show Steps p.tables e below (s₁.setTop (mkF m 54 #[.val (.int (6 : Int32))] [(.int (6 : Int32))])) _
    refine XS.bipush X0.here hx rfl (hb hby d1_54) ?_
    show Steps p.tables e below (s₁.setTop (mkF m 56 #[.val (.int (6 : Int32))] [(.int (6 : Int32)), (.int (6 : Int32))])) _
    refine XS.icmpNo X0.here hx rfl (hb hby d1_56) rfl (teq (by decide : (6 : Int32) = (6 : Int32))).2 ?_
    show Steps p.tables e below (s₁.setTop (mkF m 59 #[.val (.int (6 : Int32))] [])) _
    refine st1 _ ?_
    show Steps p.tables e below (T1.setTop (mkF m 62 #[.val (.int (6 : Int32))] [(.ref a1)])) _
    exact retOut X1 hx Bd.returns rfl (Or.inr (Or.inr (Or.inr (Or.inr ⟨rfl, rfl, rfl⟩)))) (hb hby d1_62) hr
  · show Q1_7 Z a1 h0 n0 _ T1.heap _
    rw [e1]
    exact ⟨rfl, N0, rfl⟩
theorem ef1_8 (m : MethodId) : entryFrame m #[(.int (7 : Int32))] 1 = mkF m 0 #[.val (.int (7 : Int32))] [] := by first | (simp [entryFrame, mkF, argsToLocals, Value.category]; done) | rfl
def Q1_8 (Z : State) (a1 : Addr) (h0 : Heap) (n0 : Nat) (v : Option Value) (h : Heap) (L : List Loc) : Prop := v = some (.ref a1) ∧ Fr n0 L ∧ h = h0
set_option maxRecDepth 65536 in
set_option maxHeartbeats 40000000 in
theorem rm1_8 (l : Launch) (Z : State) (a0 : Array Value) (hw : ∀ d ∈ tables_1, d.before a0 Z = true) (ws : List Jvm.Cond) (a1 : Addr) (h0 : Heap) (n0 : Nat) (Z0 : n0 ≤ h0.size) (S_ResultCode_REQUIRED_PARAMETER_MISSING : Sta Z h0 "com/example/delehat/delehat/protocols/epp/ResultCode" "REQUIRED_PARAMETER_MISSING" "Lcom/example/delehat/delehat/protocols/epp/ResultCode;" (.ref a1)) :
    MetFree l (⟨"com/example/delehat/delehat/protocols/epp/PayloadOfPinLaw", "pick", "(I)Lcom/example/delehat/delehat/protocols/epp/ResultCode;"⟩ : MethodName) (head1 (Jvm.Cond.code (⟨"com/example/delehat/delehat/protocols/epp/PayloadOfPinLaw", "pick", "(I)Lcom/example/delehat/delehat/protocols/epp/ResultCode;"⟩ : MethodName) method_2_code 1 (some (.object "com/example/delehat/delehat/protocols/epp/ResultCode")) :: ws) ({ frames := 0, cells := 0, slots := 0, locals := 0 } : Room)) (fun a U => a = #[(.int (7 : Int32))] ∧ Z.Warmed39 U.vm ∧ U.heap = h0) (fun _ _ _ _ _ => True) (fun _ U o U' => ∃ v L, o = .returned v ∧ Q1_8 Z a1 h0 n0 v U'.heap L ∧ FrameEnd U o U' L ({ frames := 0, cells := 0, slots := 0, locals := 0 } : Room).cells ({ frames := 0, cells := 0, slots := 0, locals := 0 } : Room).slots) := by
  refine MetFree.of_bodySF (plainFor_of_name pn_com_example_delehat_delehat_protocols_epp_PayloadOfPinLaw) hisR ?_
  intro p e s m args below meth c s₁ Bd hml0 hP hK
  obtain ⟨rfl, hZ, hh⟩ := hP
  have hx := Bd.exec
  have hby := Bd.bytes
  have hml : c.maxLocals = 1 := hml0
  have hown : s.vm.findClass "com/example/delehat/delehat/protocols/epp/PayloadOfPinLaw" = some m.cls := findClass_of_methodNamed Bd.named
  have hnm := (name_of_methodNamed Bd.named Bd.method).1
  have X0 : Stand p l e ({ frames := 0, cells := 0, slots := 0, locals := 0 } : Room) s m #[(.int (7 : Int32))] below meth c s₁ [] 0 0 := Stand.of_body Bd
  have e0 : s₁.heap = h0 := by rw [← hh, Bd.state]; rfl
  have N0 := Fr.nil n0
  have pre0 : ∀ t, Steps p.tables e below (s₁.setTop (mkF m 0 #[.val (.int (7 : Int32))] [])) t → Steps p.tables e below (s₁.setTop (entryFrame m #[(.int (7 : Int32))] 1)) t := fun t k => castTop (ef1_8 m) k
  obtain ⟨T1, X1, e1, st1⟩ := getS2 X0 hx hZ hown (host := "") (Or.inl (own_w61 hw)) Via.refl e0 S_ResultCode_REQUIRED_PARAMETER_MISSING (g := (mkF m 69 #[.val (.int (7 : Int32))] [])) rfl (hb hby d1_69)
  obtain ⟨fs, hr, hrun, hended, hW, hsame⟩ := X1.leave (v := some (.ref a1)) (fun h => by rw [Bd.returns] at h; cases h)
  refine ⟨_, _, pre0 _ ?_, hrun, hended, _, _, rfl, ?_, ⟨_, rfl⟩, hW, hsame.mono (by decide) (by decide)⟩
  · show Steps p.tables e below (s₁.setTop (mkF m 0 #[.val (.int (7 : Int32))] [])) _
    refine XS.iloadN X0.here hx rfl (hb hby d1_0) rfl ?_
    show Steps p.tables e below (s₁.setTop (mkF m 1 #[.val (.int (7 : Int32))] [(.int (7 : Int32))])) _
    refine XS.ifYes X0.here hx rfl (pc0 := 1) (pc' := 8) rfl (hb hby d1_1) rfl ((if0 _ _).trans (feq (by decide : ¬ ((7 : Int32) = (0 : Int32)))).2) (by decide) (by decide) ?_
    show Steps p.tables e below (s₁.setTop (mkF m 8 #[.val (.int (7 : Int32))] [])) _
    refine XS.iloadN X0.here hx rfl (hb hby d1_8) rfl ?_
    show Steps p.tables e below (s₁.setTop (mkF m 9 #[.val (.int (7 : Int32))] [(.int (7 : Int32))])) _
    refine XS.iconst X0.here hx rfl (hb hby d1_9) ?_
    show Steps p.tables e below (s₁.setTop (mkF m 10 #[.val (.int (7 : Int32))] [(.int (1 : Int32)), (.int (7 : Int32))])) _
    refine XS.icmpYes X0.here hx rfl (pc0 := 10) (pc' := 17) rfl (hb hby d1_10) rfl (feq (by decide : ¬ ((7 : Int32) = (1 : Int32)))).2 (by decide) (by decide) ?_
    show Steps p.tables e below (s₁.setTop (mkF m 17 #[.val (.int (7 : Int32))] [])) _
    refine XS.iloadN X0.here hx rfl (hb hby d1_17) rfl ?_
    show Steps p.tables e below (s₁.setTop (mkF m 18 #[.val (.int (7 : Int32))] [(.int (7 : Int32))])) _
    refine XS.iconst X0.here hx rfl (hb hby d1_18) ?_
    show Steps p.tables e below (s₁.setTop (mkF m 19 #[.val (.int (7 : Int32))] [(.int (2 : Int32)), (.int (7 : Int32))])) _
    refine XS.icmpYes X0.here hx rfl (pc0 := 19) (pc' := 26) rfl (hb hby d1_19) rfl (feq (by decide : ¬ ((7 : Int32) = (2 : Int32)))).2 (by decide) (by decide) ?_
    show Steps p.tables e below (s₁.setTop (mkF m 26 #[.val (.int (7 : Int32))] [])) _
    refine XS.iloadN X0.here hx rfl (hb hby d1_26) rfl ?_
    show Steps p.tables e below (s₁.setTop (mkF m 27 #[.val (.int (7 : Int32))] [(.int (7 : Int32))])) _
    refine XS.iconst X0.here hx rfl (hb hby d1_27) ?_
    show Steps p.tables e below (s₁.setTop (mkF m 28 #[.val (.int (7 : Int32))] [(.int (3 : Int32)), (.int (7 : Int32))])) _
    refine XS.icmpYes X0.here hx rfl (pc0 := 28) (pc' := 35) rfl (hb hby d1_28) rfl (feq (by decide : ¬ ((7 : Int32) = (3 : Int32)))).2 (by decide) (by decide) ?_
    show Steps p.tables e below (s₁.setTop (mkF m 35 #[.val (.int (7 : Int32))] [])) _
    refine XS.iloadN X0.here hx rfl (hb hby d1_35) rfl ?_
    show Steps p.tables e below (s₁.setTop (mkF m 36 #[.val (.int (7 : Int32))] [(.int (7 : Int32))])) _
    refine XS.iconst X0.here hx rfl (hb hby d1_36) ?_
    show Steps p.tables e below (s₁.setTop (mkF m 37 #[.val (.int (7 : Int32))] [(.int (4 : Int32)), (.int (7 : Int32))])) _
    refine XS.icmpYes X0.here hx rfl (pc0 := 37) (pc' := 44) rfl (hb hby d1_37) rfl (feq (by decide : ¬ ((7 : Int32) = (4 : Int32)))).2 (by decide) (by decide) ?_
    show Steps p.tables e below (s₁.setTop (mkF m 44 #[.val (.int (7 : Int32))] [])) _
    refine XS.iloadN X0.here hx rfl (hb hby d1_44) rfl ?_
    show Steps p.tables e below (s₁.setTop (mkF m 45 #[.val (.int (7 : Int32))] [(.int (7 : Int32))])) _
    refine XS.iconst X0.here hx rfl (hb hby d1_45) ?_
    show Steps p.tables e below (s₁.setTop (mkF m 46 #[.val (.int (7 : Int32))] [(.int (5 : Int32)), (.int (7 : Int32))])) _
    refine XS.icmpYes X0.here hx rfl (pc0 := 46) (pc' := 53) rfl (hb hby d1_46) rfl (feq (by decide : ¬ ((7 : Int32) = (5 : Int32)))).2 (by decide) (by decide) ?_
    show Steps p.tables e below (s₁.setTop (mkF m 53 #[.val (.int (7 : Int32))] [])) _
    refine XS.iloadN X0.here hx rfl (hb hby d1_53) rfl ?_
    show Steps p.tables e below (s₁.setTop (mkF m 54 #[.val (.int (7 : Int32))] [(.int (7 : Int32))])) _
    refine XS.bipush X0.here hx rfl (hb hby d1_54) ?_
    show Steps p.tables e below (s₁.setTop (mkF m 56 #[.val (.int (7 : Int32))] [(.int (6 : Int32)), (.int (7 : Int32))])) _
    refine XS.icmpYes X0.here hx rfl (pc0 := 56) (pc' := 63) rfl (hb hby d1_56) rfl (feq (by decide : ¬ ((7 : Int32) = (6 : Int32)))).2 (by decide) (by decide) ?_
    show Steps p.tables e below (s₁.setTop (mkF m 63 #[.val (.int (7 : Int32))] [])) _
    refine XS.iloadN X0.here hx rfl (hb hby d1_63) rfl ?_
    show Steps p.tables e below (s₁.setTop (mkF m 64 #[.val (.int (7 : Int32))] [(.int (7 : Int32))])) _
    refine XS.bipush X0.here hx rfl (hb hby d1_64) ?_
    show Steps p.tables e below (s₁.setTop (mkF m 66 #[.val (.int (7 : Int32))] [(.int (7 : Int32)), (.int (7 : Int32))])) _
    refine XS.icmpNo X0.here hx rfl (hb hby d1_66) rfl (teq (by decide : (7 : Int32) = (7 : Int32))).2 ?_
    show Steps p.tables e below (s₁.setTop (mkF m 69 #[.val (.int (7 : Int32))] [])) _
    refine st1 _ ?_
    show Steps p.tables e below (T1.setTop (mkF m 72 #[.val (.int (7 : Int32))] [(.ref a1)])) _
    exact retOut X1 hx Bd.returns rfl (Or.inr (Or.inr (Or.inr (Or.inr ⟨rfl, rfl, rfl⟩)))) (hb hby d1_72) hr
  · show Q1_8 Z a1 h0 n0 _ T1.heap _
    rw [e1]
    exact ⟨rfl, N0, rfl⟩
theorem ef1_9 (m : MethodId) : entryFrame m #[(.int (8 : Int32))] 1 = mkF m 0 #[.val (.int (8 : Int32))] [] := by first | (simp [entryFrame, mkF, argsToLocals, Value.category]; done) | rfl
def Q1_9 (Z : State) (a1 : Addr) (h0 : Heap) (n0 : Nat) (v : Option Value) (h : Heap) (L : List Loc) : Prop := v = some (.ref a1) ∧ Fr n0 L ∧ h = h0
set_option maxRecDepth 65536 in
set_option maxHeartbeats 40000000 in
theorem rm1_9 (l : Launch) (Z : State) (a0 : Array Value) (hw : ∀ d ∈ tables_1, d.before a0 Z = true) (ws : List Jvm.Cond) (a1 : Addr) (h0 : Heap) (n0 : Nat) (Z0 : n0 ≤ h0.size) (S_ResultCode_PARAMETER_VALUE_RANGE_ERROR : Sta Z h0 "com/example/delehat/delehat/protocols/epp/ResultCode" "PARAMETER_VALUE_RANGE_ERROR" "Lcom/example/delehat/delehat/protocols/epp/ResultCode;" (.ref a1)) :
    MetFree l (⟨"com/example/delehat/delehat/protocols/epp/PayloadOfPinLaw", "pick", "(I)Lcom/example/delehat/delehat/protocols/epp/ResultCode;"⟩ : MethodName) (head1 (Jvm.Cond.code (⟨"com/example/delehat/delehat/protocols/epp/PayloadOfPinLaw", "pick", "(I)Lcom/example/delehat/delehat/protocols/epp/ResultCode;"⟩ : MethodName) method_2_code 1 (some (.object "com/example/delehat/delehat/protocols/epp/ResultCode")) :: ws) ({ frames := 0, cells := 0, slots := 0, locals := 0 } : Room)) (fun a U => a = #[(.int (8 : Int32))] ∧ Z.Warmed39 U.vm ∧ U.heap = h0) (fun _ _ _ _ _ => True) (fun _ U o U' => ∃ v L, o = .returned v ∧ Q1_9 Z a1 h0 n0 v U'.heap L ∧ FrameEnd U o U' L ({ frames := 0, cells := 0, slots := 0, locals := 0 } : Room).cells ({ frames := 0, cells := 0, slots := 0, locals := 0 } : Room).slots) := by
  refine MetFree.of_bodySF (plainFor_of_name pn_com_example_delehat_delehat_protocols_epp_PayloadOfPinLaw) hisR ?_
  intro p e s m args below meth c s₁ Bd hml0 hP hK
  obtain ⟨rfl, hZ, hh⟩ := hP
  have hx := Bd.exec
  have hby := Bd.bytes
  have hml : c.maxLocals = 1 := hml0
  have hown : s.vm.findClass "com/example/delehat/delehat/protocols/epp/PayloadOfPinLaw" = some m.cls := findClass_of_methodNamed Bd.named
  have hnm := (name_of_methodNamed Bd.named Bd.method).1
  have X0 : Stand p l e ({ frames := 0, cells := 0, slots := 0, locals := 0 } : Room) s m #[(.int (8 : Int32))] below meth c s₁ [] 0 0 := Stand.of_body Bd
  have e0 : s₁.heap = h0 := by rw [← hh, Bd.state]; rfl
  have N0 := Fr.nil n0
  have pre0 : ∀ t, Steps p.tables e below (s₁.setTop (mkF m 0 #[.val (.int (8 : Int32))] [])) t → Steps p.tables e below (s₁.setTop (entryFrame m #[(.int (8 : Int32))] 1)) t := fun t k => castTop (ef1_9 m) k
  obtain ⟨T1, X1, e1, st1⟩ := getS2 X0 hx hZ hown (host := "") (Or.inl (own_w69 hw)) Via.refl e0 S_ResultCode_PARAMETER_VALUE_RANGE_ERROR (g := (mkF m 79 #[.val (.int (8 : Int32))] [])) rfl (hb hby d1_79)
  obtain ⟨fs, hr, hrun, hended, hW, hsame⟩ := X1.leave (v := some (.ref a1)) (fun h => by rw [Bd.returns] at h; cases h)
  refine ⟨_, _, pre0 _ ?_, hrun, hended, _, _, rfl, ?_, ⟨_, rfl⟩, hW, hsame.mono (by decide) (by decide)⟩
  · show Steps p.tables e below (s₁.setTop (mkF m 0 #[.val (.int (8 : Int32))] [])) _
    refine XS.iloadN X0.here hx rfl (hb hby d1_0) rfl ?_
    show Steps p.tables e below (s₁.setTop (mkF m 1 #[.val (.int (8 : Int32))] [(.int (8 : Int32))])) _
    refine XS.ifYes X0.here hx rfl (pc0 := 1) (pc' := 8) rfl (hb hby d1_1) rfl ((if0 _ _).trans (feq (by decide : ¬ ((8 : Int32) = (0 : Int32)))).2) (by decide) (by decide) ?_
    show Steps p.tables e below (s₁.setTop (mkF m 8 #[.val (.int (8 : Int32))] [])) _
    refine XS.iloadN X0.here hx rfl (hb hby d1_8) rfl ?_
    show Steps p.tables e below (s₁.setTop (mkF m 9 #[.val (.int (8 : Int32))] [(.int (8 : Int32))])) _
    refine XS.iconst X0.here hx rfl (hb hby d1_9) ?_
    show Steps p.tables e below (s₁.setTop (mkF m 10 #[.val (.int (8 : Int32))] [(.int (1 : Int32)), (.int (8 : Int32))])) _
    refine XS.icmpYes X0.here hx rfl (pc0 := 10) (pc' := 17) rfl (hb hby d1_10) rfl (feq (by decide : ¬ ((8 : Int32) = (1 : Int32)))).2 (by decide) (by decide) ?_
    show Steps p.tables e below (s₁.setTop (mkF m 17 #[.val (.int (8 : Int32))] [])) _
    refine XS.iloadN X0.here hx rfl (hb hby d1_17) rfl ?_
    show Steps p.tables e below (s₁.setTop (mkF m 18 #[.val (.int (8 : Int32))] [(.int (8 : Int32))])) _
    refine XS.iconst X0.here hx rfl (hb hby d1_18) ?_
    show Steps p.tables e below (s₁.setTop (mkF m 19 #[.val (.int (8 : Int32))] [(.int (2 : Int32)), (.int (8 : Int32))])) _
    refine XS.icmpYes X0.here hx rfl (pc0 := 19) (pc' := 26) rfl (hb hby d1_19) rfl (feq (by decide : ¬ ((8 : Int32) = (2 : Int32)))).2 (by decide) (by decide) ?_
    show Steps p.tables e below (s₁.setTop (mkF m 26 #[.val (.int (8 : Int32))] [])) _
    refine XS.iloadN X0.here hx rfl (hb hby d1_26) rfl ?_
    show Steps p.tables e below (s₁.setTop (mkF m 27 #[.val (.int (8 : Int32))] [(.int (8 : Int32))])) _
    refine XS.iconst X0.here hx rfl (hb hby d1_27) ?_
    show Steps p.tables e below (s₁.setTop (mkF m 28 #[.val (.int (8 : Int32))] [(.int (3 : Int32)), (.int (8 : Int32))])) _
    refine XS.icmpYes X0.here hx rfl (pc0 := 28) (pc' := 35) rfl (hb hby d1_28) rfl (feq (by decide : ¬ ((8 : Int32) = (3 : Int32)))).2 (by decide) (by decide) ?_
    show Steps p.tables e below (s₁.setTop (mkF m 35 #[.val (.int (8 : Int32))] [])) _
    refine XS.iloadN X0.here hx rfl (hb hby d1_35) rfl ?_
    show Steps p.tables e below (s₁.setTop (mkF m 36 #[.val (.int (8 : Int32))] [(.int (8 : Int32))])) _
    refine XS.iconst X0.here hx rfl (hb hby d1_36) ?_
    show Steps p.tables e below (s₁.setTop (mkF m 37 #[.val (.int (8 : Int32))] [(.int (4 : Int32)), (.int (8 : Int32))])) _
    refine XS.icmpYes X0.here hx rfl (pc0 := 37) (pc' := 44) rfl (hb hby d1_37) rfl (feq (by decide : ¬ ((8 : Int32) = (4 : Int32)))).2 (by decide) (by decide) ?_
    show Steps p.tables e below (s₁.setTop (mkF m 44 #[.val (.int (8 : Int32))] [])) _
    refine XS.iloadN X0.here hx rfl (hb hby d1_44) rfl ?_
    show Steps p.tables e below (s₁.setTop (mkF m 45 #[.val (.int (8 : Int32))] [(.int (8 : Int32))])) _
    refine XS.iconst X0.here hx rfl (hb hby d1_45) ?_
    show Steps p.tables e below (s₁.setTop (mkF m 46 #[.val (.int (8 : Int32))] [(.int (5 : Int32)), (.int (8 : Int32))])) _
    refine XS.icmpYes X0.here hx rfl (pc0 := 46) (pc' := 53) rfl (hb hby d1_46) rfl (feq (by decide : ¬ ((8 : Int32) = (5 : Int32)))).2 (by decide) (by decide) ?_
    show Steps p.tables e below (s₁.setTop (mkF m 53 #[.val (.int (8 : Int32))] [])) _
    refine XS.iloadN X0.here hx rfl (hb hby d1_53) rfl ?_
    show Steps p.tables e below (s₁.setTop (mkF m 54 #[.val (.int (8 : Int32))] [(.int (8 : Int32))])) _
    refine XS.bipush X0.here hx rfl (hb hby d1_54) ?_
    show Steps p.tables e below (s₁.setTop (mkF m 56 #[.val (.int (8 : Int32))] [(.int (6 : Int32)), (.int (8 : Int32))])) _
    refine XS.icmpYes X0.here hx rfl (pc0 := 56) (pc' := 63) rfl (hb hby d1_56) rfl (feq (by decide : ¬ ((8 : Int32) = (6 : Int32)))).2 (by decide) (by decide) ?_
    show Steps p.tables e below (s₁.setTop (mkF m 63 #[.val (.int (8 : Int32))] [])) _
    refine XS.iloadN X0.here hx rfl (hb hby d1_63) rfl ?_
    show Steps p.tables e below (s₁.setTop (mkF m 64 #[.val (.int (8 : Int32))] [(.int (8 : Int32))])) _
    refine XS.bipush X0.here hx rfl (hb hby d1_64) ?_
    show Steps p.tables e below (s₁.setTop (mkF m 66 #[.val (.int (8 : Int32))] [(.int (7 : Int32)), (.int (8 : Int32))])) _
    refine XS.icmpYes X0.here hx rfl (pc0 := 66) (pc' := 73) rfl (hb hby d1_66) rfl (feq (by decide : ¬ ((8 : Int32) = (7 : Int32)))).2 (by decide) (by decide) ?_
    show Steps p.tables e below (s₁.setTop (mkF m 73 #[.val (.int (8 : Int32))] [])) _
    refine XS.iloadN X0.here hx rfl (hb hby d1_73) rfl ?_
    show Steps p.tables e below (s₁.setTop (mkF m 74 #[.val (.int (8 : Int32))] [(.int (8 : Int32))])) _
    refine XS.bipush X0.here hx rfl (hb hby d1_74) ?_
    show Steps p.tables e below (s₁.setTop (mkF m 76 #[.val (.int (8 : Int32))] [(.int (8 : Int32)), (.int (8 : Int32))])) _
    refine XS.icmpNo X0.here hx rfl (hb hby d1_76) rfl (teq (by decide : (8 : Int32) = (8 : Int32))).2 ?_
    show Steps p.tables e below (s₁.setTop (mkF m 79 #[.val (.int (8 : Int32))] [])) _
    refine st1 _ ?_
    show Steps p.tables e below (T1.setTop (mkF m 82 #[.val (.int (8 : Int32))] [(.ref a1)])) _
    exact retOut X1 hx Bd.returns rfl (Or.inr (Or.inr (Or.inr (Or.inr ⟨rfl, rfl, rfl⟩)))) (hb hby d1_82) hr
  · show Q1_9 Z a1 h0 n0 _ T1.heap _
    rw [e1]
    exact ⟨rfl, N0, rfl⟩
theorem ef1_10 (m : MethodId) : entryFrame m #[(.int (9 : Int32))] 1 = mkF m 0 #[.val (.int (9 : Int32))] [] := by first | (simp [entryFrame, mkF, argsToLocals, Value.category]; done) | rfl
def Q1_10 (Z : State) (a1 : Addr) (h0 : Heap) (n0 : Nat) (v : Option Value) (h : Heap) (L : List Loc) : Prop := v = some (.ref a1) ∧ Fr n0 L ∧ h = h0
set_option maxRecDepth 65536 in
set_option maxHeartbeats 40000000 in
theorem rm1_10 (l : Launch) (Z : State) (a0 : Array Value) (hw : ∀ d ∈ tables_1, d.before a0 Z = true) (ws : List Jvm.Cond) (a1 : Addr) (h0 : Heap) (n0 : Nat) (Z0 : n0 ≤ h0.size) (S_ResultCode_PARAMETER_VALUE_SYNTAX_ERROR : Sta Z h0 "com/example/delehat/delehat/protocols/epp/ResultCode" "PARAMETER_VALUE_SYNTAX_ERROR" "Lcom/example/delehat/delehat/protocols/epp/ResultCode;" (.ref a1)) :
    MetFree l (⟨"com/example/delehat/delehat/protocols/epp/PayloadOfPinLaw", "pick", "(I)Lcom/example/delehat/delehat/protocols/epp/ResultCode;"⟩ : MethodName) (head1 (Jvm.Cond.code (⟨"com/example/delehat/delehat/protocols/epp/PayloadOfPinLaw", "pick", "(I)Lcom/example/delehat/delehat/protocols/epp/ResultCode;"⟩ : MethodName) method_2_code 1 (some (.object "com/example/delehat/delehat/protocols/epp/ResultCode")) :: ws) ({ frames := 0, cells := 0, slots := 0, locals := 0 } : Room)) (fun a U => a = #[(.int (9 : Int32))] ∧ Z.Warmed39 U.vm ∧ U.heap = h0) (fun _ _ _ _ _ => True) (fun _ U o U' => ∃ v L, o = .returned v ∧ Q1_10 Z a1 h0 n0 v U'.heap L ∧ FrameEnd U o U' L ({ frames := 0, cells := 0, slots := 0, locals := 0 } : Room).cells ({ frames := 0, cells := 0, slots := 0, locals := 0 } : Room).slots) := by
  refine MetFree.of_bodySF (plainFor_of_name pn_com_example_delehat_delehat_protocols_epp_PayloadOfPinLaw) hisR ?_
  intro p e s m args below meth c s₁ Bd hml0 hP hK
  obtain ⟨rfl, hZ, hh⟩ := hP
  have hx := Bd.exec
  have hby := Bd.bytes
  have hml : c.maxLocals = 1 := hml0
  have hown : s.vm.findClass "com/example/delehat/delehat/protocols/epp/PayloadOfPinLaw" = some m.cls := findClass_of_methodNamed Bd.named
  have hnm := (name_of_methodNamed Bd.named Bd.method).1
  have X0 : Stand p l e ({ frames := 0, cells := 0, slots := 0, locals := 0 } : Room) s m #[(.int (9 : Int32))] below meth c s₁ [] 0 0 := Stand.of_body Bd
  have e0 : s₁.heap = h0 := by rw [← hh, Bd.state]; rfl
  have N0 := Fr.nil n0
  have pre0 : ∀ t, Steps p.tables e below (s₁.setTop (mkF m 0 #[.val (.int (9 : Int32))] [])) t → Steps p.tables e below (s₁.setTop (entryFrame m #[(.int (9 : Int32))] 1)) t := fun t k => castTop (ef1_10 m) k
  obtain ⟨T1, X1, e1, st1⟩ := getS2 X0 hx hZ hown (host := "") (Or.inl (own_w75 hw)) Via.refl e0 S_ResultCode_PARAMETER_VALUE_SYNTAX_ERROR (g := (mkF m 89 #[.val (.int (9 : Int32))] [])) rfl (hb hby d1_89)
  obtain ⟨fs, hr, hrun, hended, hW, hsame⟩ := X1.leave (v := some (.ref a1)) (fun h => by rw [Bd.returns] at h; cases h)
  refine ⟨_, _, pre0 _ ?_, hrun, hended, _, _, rfl, ?_, ⟨_, rfl⟩, hW, hsame.mono (by decide) (by decide)⟩
  · show Steps p.tables e below (s₁.setTop (mkF m 0 #[.val (.int (9 : Int32))] [])) _
    refine XS.iloadN X0.here hx rfl (hb hby d1_0) rfl ?_
    show Steps p.tables e below (s₁.setTop (mkF m 1 #[.val (.int (9 : Int32))] [(.int (9 : Int32))])) _
    refine XS.ifYes X0.here hx rfl (pc0 := 1) (pc' := 8) rfl (hb hby d1_1) rfl ((if0 _ _).trans (feq (by decide : ¬ ((9 : Int32) = (0 : Int32)))).2) (by decide) (by decide) ?_
    show Steps p.tables e below (s₁.setTop (mkF m 8 #[.val (.int (9 : Int32))] [])) _
    refine XS.iloadN X0.here hx rfl (hb hby d1_8) rfl ?_
    show Steps p.tables e below (s₁.setTop (mkF m 9 #[.val (.int (9 : Int32))] [(.int (9 : Int32))])) _
    refine XS.iconst X0.here hx rfl (hb hby d1_9) ?_
    show Steps p.tables e below (s₁.setTop (mkF m 10 #[.val (.int (9 : Int32))] [(.int (1 : Int32)), (.int (9 : Int32))])) _
    refine XS.icmpYes X0.here hx rfl (pc0 := 10) (pc' := 17) rfl (hb hby d1_10) rfl (feq (by decide : ¬ ((9 : Int32) = (1 : Int32)))).2 (by decide) (by decide) ?_
    show Steps p.tables e below (s₁.setTop (mkF m 17 #[.val (.int (9 : Int32))] [])) _
    refine XS.iloadN X0.here hx rfl (hb hby d1_17) rfl ?_
    show Steps p.tables e below (s₁.setTop (mkF m 18 #[.val (.int (9 : Int32))] [(.int (9 : Int32))])) _
    refine XS.iconst X0.here hx rfl (hb hby d1_18) ?_
    show Steps p.tables e below (s₁.setTop (mkF m 19 #[.val (.int (9 : Int32))] [(.int (2 : Int32)), (.int (9 : Int32))])) _
    refine XS.icmpYes X0.here hx rfl (pc0 := 19) (pc' := 26) rfl (hb hby d1_19) rfl (feq (by decide : ¬ ((9 : Int32) = (2 : Int32)))).2 (by decide) (by decide) ?_
    show Steps p.tables e below (s₁.setTop (mkF m 26 #[.val (.int (9 : Int32))] [])) _
    refine XS.iloadN X0.here hx rfl (hb hby d1_26) rfl ?_
    show Steps p.tables e below (s₁.setTop (mkF m 27 #[.val (.int (9 : Int32))] [(.int (9 : Int32))])) _
    refine XS.iconst X0.here hx rfl (hb hby d1_27) ?_
    show Steps p.tables e below (s₁.setTop (mkF m 28 #[.val (.int (9 : Int32))] [(.int (3 : Int32)), (.int (9 : Int32))])) _
    refine XS.icmpYes X0.here hx rfl (pc0 := 28) (pc' := 35) rfl (hb hby d1_28) rfl (feq (by decide : ¬ ((9 : Int32) = (3 : Int32)))).2 (by decide) (by decide) ?_
    show Steps p.tables e below (s₁.setTop (mkF m 35 #[.val (.int (9 : Int32))] [])) _
    refine XS.iloadN X0.here hx rfl (hb hby d1_35) rfl ?_
    show Steps p.tables e below (s₁.setTop (mkF m 36 #[.val (.int (9 : Int32))] [(.int (9 : Int32))])) _
    refine XS.iconst X0.here hx rfl (hb hby d1_36) ?_
    show Steps p.tables e below (s₁.setTop (mkF m 37 #[.val (.int (9 : Int32))] [(.int (4 : Int32)), (.int (9 : Int32))])) _
    refine XS.icmpYes X0.here hx rfl (pc0 := 37) (pc' := 44) rfl (hb hby d1_37) rfl (feq (by decide : ¬ ((9 : Int32) = (4 : Int32)))).2 (by decide) (by decide) ?_
    show Steps p.tables e below (s₁.setTop (mkF m 44 #[.val (.int (9 : Int32))] [])) _
    refine XS.iloadN X0.here hx rfl (hb hby d1_44) rfl ?_
    show Steps p.tables e below (s₁.setTop (mkF m 45 #[.val (.int (9 : Int32))] [(.int (9 : Int32))])) _
    refine XS.iconst X0.here hx rfl (hb hby d1_45) ?_
    show Steps p.tables e below (s₁.setTop (mkF m 46 #[.val (.int (9 : Int32))] [(.int (5 : Int32)), (.int (9 : Int32))])) _
    refine XS.icmpYes X0.here hx rfl (pc0 := 46) (pc' := 53) rfl (hb hby d1_46) rfl (feq (by decide : ¬ ((9 : Int32) = (5 : Int32)))).2 (by decide) (by decide) ?_
    show Steps p.tables e below (s₁.setTop (mkF m 53 #[.val (.int (9 : Int32))] [])) _
    refine XS.iloadN X0.here hx rfl (hb hby d1_53) rfl ?_
    show Steps p.tables e below (s₁.setTop (mkF m 54 #[.val (.int (9 : Int32))] [(.int (9 : Int32))])) _
    refine XS.bipush X0.here hx rfl (hb hby d1_54) ?_
    show Steps p.tables e below (s₁.setTop (mkF m 56 #[.val (.int (9 : Int32))] [(.int (6 : Int32)), (.int (9 : Int32))])) _
    refine XS.icmpYes X0.here hx rfl (pc0 := 56) (pc' := 63) rfl (hb hby d1_56) rfl (feq (by decide : ¬ ((9 : Int32) = (6 : Int32)))).2 (by decide) (by decide) ?_
    show Steps p.tables e below (s₁.setTop (mkF m 63 #[.val (.int (9 : Int32))] [])) _
    refine XS.iloadN X0.here hx rfl (hb hby d1_63) rfl ?_
    show Steps p.tables e below (s₁.setTop (mkF m 64 #[.val (.int (9 : Int32))] [(.int (9 : Int32))])) _
    refine XS.bipush X0.here hx rfl (hb hby d1_64) ?_
    show Steps p.tables e below (s₁.setTop (mkF m 66 #[.val (.int (9 : Int32))] [(.int (7 : Int32)), (.int (9 : Int32))])) _
    refine XS.icmpYes X0.here hx rfl (pc0 := 66) (pc' := 73) rfl (hb hby d1_66) rfl (feq (by decide : ¬ ((9 : Int32) = (7 : Int32)))).2 (by decide) (by decide) ?_
    show Steps p.tables e below (s₁.setTop (mkF m 73 #[.val (.int (9 : Int32))] [])) _
    refine XS.iloadN X0.here hx rfl (hb hby d1_73) rfl ?_
    show Steps p.tables e below (s₁.setTop (mkF m 74 #[.val (.int (9 : Int32))] [(.int (9 : Int32))])) _
    refine XS.bipush X0.here hx rfl (hb hby d1_74) ?_
    show Steps p.tables e below (s₁.setTop (mkF m 76 #[.val (.int (9 : Int32))] [(.int (8 : Int32)), (.int (9 : Int32))])) _
    refine XS.icmpYes X0.here hx rfl (pc0 := 76) (pc' := 83) rfl (hb hby d1_76) rfl (feq (by decide : ¬ ((9 : Int32) = (8 : Int32)))).2 (by decide) (by decide) ?_
    show Steps p.tables e below (s₁.setTop (mkF m 83 #[.val (.int (9 : Int32))] [])) _
    refine XS.iloadN X0.here hx rfl (hb hby d1_83) rfl ?_
    show Steps p.tables e below (s₁.setTop (mkF m 84 #[.val (.int (9 : Int32))] [(.int (9 : Int32))])) _
    refine XS.bipush X0.here hx rfl (hb hby d1_84) ?_
    show Steps p.tables e below (s₁.setTop (mkF m 86 #[.val (.int (9 : Int32))] [(.int (9 : Int32)), (.int (9 : Int32))])) _
    refine XS.icmpNo X0.here hx rfl (hb hby d1_86) rfl (teq (by decide : (9 : Int32) = (9 : Int32))).2 ?_
    show Steps p.tables e below (s₁.setTop (mkF m 89 #[.val (.int (9 : Int32))] [])) _
    refine st1 _ ?_
    show Steps p.tables e below (T1.setTop (mkF m 92 #[.val (.int (9 : Int32))] [(.ref a1)])) _
    exact retOut X1 hx Bd.returns rfl (Or.inr (Or.inr (Or.inr (Or.inr ⟨rfl, rfl, rfl⟩)))) (hb hby d1_92) hr
  · show Q1_10 Z a1 h0 n0 _ T1.heap _
    rw [e1]
    exact ⟨rfl, N0, rfl⟩
theorem ef1_11 (m : MethodId) : entryFrame m #[(.int (10 : Int32))] 1 = mkF m 0 #[.val (.int (10 : Int32))] [] := by first | (simp [entryFrame, mkF, argsToLocals, Value.category]; done) | rfl
def Q1_11 (Z : State) (a1 : Addr) (h0 : Heap) (n0 : Nat) (v : Option Value) (h : Heap) (L : List Loc) : Prop := v = some (.ref a1) ∧ Fr n0 L ∧ h = h0
set_option maxRecDepth 65536 in
set_option maxHeartbeats 40000000 in
theorem rm1_11 (l : Launch) (Z : State) (a0 : Array Value) (hw : ∀ d ∈ tables_1, d.before a0 Z = true) (ws : List Jvm.Cond) (a1 : Addr) (h0 : Heap) (n0 : Nat) (Z0 : n0 ≤ h0.size) (S_ResultCode_UNIMPLEMENTED_PROTOCOL_VERSION : Sta Z h0 "com/example/delehat/delehat/protocols/epp/ResultCode" "UNIMPLEMENTED_PROTOCOL_VERSION" "Lcom/example/delehat/delehat/protocols/epp/ResultCode;" (.ref a1)) :
    MetFree l (⟨"com/example/delehat/delehat/protocols/epp/PayloadOfPinLaw", "pick", "(I)Lcom/example/delehat/delehat/protocols/epp/ResultCode;"⟩ : MethodName) (head1 (Jvm.Cond.code (⟨"com/example/delehat/delehat/protocols/epp/PayloadOfPinLaw", "pick", "(I)Lcom/example/delehat/delehat/protocols/epp/ResultCode;"⟩ : MethodName) method_2_code 1 (some (.object "com/example/delehat/delehat/protocols/epp/ResultCode")) :: ws) ({ frames := 0, cells := 0, slots := 0, locals := 0 } : Room)) (fun a U => a = #[(.int (10 : Int32))] ∧ Z.Warmed39 U.vm ∧ U.heap = h0) (fun _ _ _ _ _ => True) (fun _ U o U' => ∃ v L, o = .returned v ∧ Q1_11 Z a1 h0 n0 v U'.heap L ∧ FrameEnd U o U' L ({ frames := 0, cells := 0, slots := 0, locals := 0 } : Room).cells ({ frames := 0, cells := 0, slots := 0, locals := 0 } : Room).slots) := by
  refine MetFree.of_bodySF (plainFor_of_name pn_com_example_delehat_delehat_protocols_epp_PayloadOfPinLaw) hisR ?_
  intro p e s m args below meth c s₁ Bd hml0 hP hK
  obtain ⟨rfl, hZ, hh⟩ := hP
  have hx := Bd.exec
  have hby := Bd.bytes
  have hml : c.maxLocals = 1 := hml0
  have hown : s.vm.findClass "com/example/delehat/delehat/protocols/epp/PayloadOfPinLaw" = some m.cls := findClass_of_methodNamed Bd.named
  have hnm := (name_of_methodNamed Bd.named Bd.method).1
  have X0 : Stand p l e ({ frames := 0, cells := 0, slots := 0, locals := 0 } : Room) s m #[(.int (10 : Int32))] below meth c s₁ [] 0 0 := Stand.of_body Bd
  have e0 : s₁.heap = h0 := by rw [← hh, Bd.state]; rfl
  have N0 := Fr.nil n0
  have pre0 : ∀ t, Steps p.tables e below (s₁.setTop (mkF m 0 #[.val (.int (10 : Int32))] [])) t → Steps p.tables e below (s₁.setTop (entryFrame m #[(.int (10 : Int32))] 1)) t := fun t k => castTop (ef1_11 m) k
  obtain ⟨T1, X1, e1, st1⟩ := getS2 X0 hx hZ hown (host := "") (Or.inl (own_w73 hw)) Via.refl e0 S_ResultCode_UNIMPLEMENTED_PROTOCOL_VERSION (g := (mkF m 99 #[.val (.int (10 : Int32))] [])) rfl (hb hby d1_99)
  obtain ⟨fs, hr, hrun, hended, hW, hsame⟩ := X1.leave (v := some (.ref a1)) (fun h => by rw [Bd.returns] at h; cases h)
  refine ⟨_, _, pre0 _ ?_, hrun, hended, _, _, rfl, ?_, ⟨_, rfl⟩, hW, hsame.mono (by decide) (by decide)⟩
  · show Steps p.tables e below (s₁.setTop (mkF m 0 #[.val (.int (10 : Int32))] [])) _
    refine XS.iloadN X0.here hx rfl (hb hby d1_0) rfl ?_
    show Steps p.tables e below (s₁.setTop (mkF m 1 #[.val (.int (10 : Int32))] [(.int (10 : Int32))])) _
    refine XS.ifYes X0.here hx rfl (pc0 := 1) (pc' := 8) rfl (hb hby d1_1) rfl ((if0 _ _).trans (feq (by decide : ¬ ((10 : Int32) = (0 : Int32)))).2) (by decide) (by decide) ?_
    show Steps p.tables e below (s₁.setTop (mkF m 8 #[.val (.int (10 : Int32))] [])) _
    refine XS.iloadN X0.here hx rfl (hb hby d1_8) rfl ?_
    show Steps p.tables e below (s₁.setTop (mkF m 9 #[.val (.int (10 : Int32))] [(.int (10 : Int32))])) _
    refine XS.iconst X0.here hx rfl (hb hby d1_9) ?_
    show Steps p.tables e below (s₁.setTop (mkF m 10 #[.val (.int (10 : Int32))] [(.int (1 : Int32)), (.int (10 : Int32))])) _
    refine XS.icmpYes X0.here hx rfl (pc0 := 10) (pc' := 17) rfl (hb hby d1_10) rfl (feq (by decide : ¬ ((10 : Int32) = (1 : Int32)))).2 (by decide) (by decide) ?_
    show Steps p.tables e below (s₁.setTop (mkF m 17 #[.val (.int (10 : Int32))] [])) _
    refine XS.iloadN X0.here hx rfl (hb hby d1_17) rfl ?_
    show Steps p.tables e below (s₁.setTop (mkF m 18 #[.val (.int (10 : Int32))] [(.int (10 : Int32))])) _
    refine XS.iconst X0.here hx rfl (hb hby d1_18) ?_
    show Steps p.tables e below (s₁.setTop (mkF m 19 #[.val (.int (10 : Int32))] [(.int (2 : Int32)), (.int (10 : Int32))])) _
    refine XS.icmpYes X0.here hx rfl (pc0 := 19) (pc' := 26) rfl (hb hby d1_19) rfl (feq (by decide : ¬ ((10 : Int32) = (2 : Int32)))).2 (by decide) (by decide) ?_
    show Steps p.tables e below (s₁.setTop (mkF m 26 #[.val (.int (10 : Int32))] [])) _
    refine XS.iloadN X0.here hx rfl (hb hby d1_26) rfl ?_
    show Steps p.tables e below (s₁.setTop (mkF m 27 #[.val (.int (10 : Int32))] [(.int (10 : Int32))])) _
    refine XS.iconst X0.here hx rfl (hb hby d1_27) ?_
    show Steps p.tables e below (s₁.setTop (mkF m 28 #[.val (.int (10 : Int32))] [(.int (3 : Int32)), (.int (10 : Int32))])) _
    refine XS.icmpYes X0.here hx rfl (pc0 := 28) (pc' := 35) rfl (hb hby d1_28) rfl (feq (by decide : ¬ ((10 : Int32) = (3 : Int32)))).2 (by decide) (by decide) ?_
    show Steps p.tables e below (s₁.setTop (mkF m 35 #[.val (.int (10 : Int32))] [])) _
    refine XS.iloadN X0.here hx rfl (hb hby d1_35) rfl ?_
    show Steps p.tables e below (s₁.setTop (mkF m 36 #[.val (.int (10 : Int32))] [(.int (10 : Int32))])) _
    refine XS.iconst X0.here hx rfl (hb hby d1_36) ?_
    show Steps p.tables e below (s₁.setTop (mkF m 37 #[.val (.int (10 : Int32))] [(.int (4 : Int32)), (.int (10 : Int32))])) _
    refine XS.icmpYes X0.here hx rfl (pc0 := 37) (pc' := 44) rfl (hb hby d1_37) rfl (feq (by decide : ¬ ((10 : Int32) = (4 : Int32)))).2 (by decide) (by decide) ?_
    show Steps p.tables e below (s₁.setTop (mkF m 44 #[.val (.int (10 : Int32))] [])) _
    refine XS.iloadN X0.here hx rfl (hb hby d1_44) rfl ?_
    show Steps p.tables e below (s₁.setTop (mkF m 45 #[.val (.int (10 : Int32))] [(.int (10 : Int32))])) _
    refine XS.iconst X0.here hx rfl (hb hby d1_45) ?_
    show Steps p.tables e below (s₁.setTop (mkF m 46 #[.val (.int (10 : Int32))] [(.int (5 : Int32)), (.int (10 : Int32))])) _
    refine XS.icmpYes X0.here hx rfl (pc0 := 46) (pc' := 53) rfl (hb hby d1_46) rfl (feq (by decide : ¬ ((10 : Int32) = (5 : Int32)))).2 (by decide) (by decide) ?_
    show Steps p.tables e below (s₁.setTop (mkF m 53 #[.val (.int (10 : Int32))] [])) _
    refine XS.iloadN X0.here hx rfl (hb hby d1_53) rfl ?_
    show Steps p.tables e below (s₁.setTop (mkF m 54 #[.val (.int (10 : Int32))] [(.int (10 : Int32))])) _
    refine XS.bipush X0.here hx rfl (hb hby d1_54) ?_
    show Steps p.tables e below (s₁.setTop (mkF m 56 #[.val (.int (10 : Int32))] [(.int (6 : Int32)), (.int (10 : Int32))])) _
    refine XS.icmpYes X0.here hx rfl (pc0 := 56) (pc' := 63) rfl (hb hby d1_56) rfl (feq (by decide : ¬ ((10 : Int32) = (6 : Int32)))).2 (by decide) (by decide) ?_
    show Steps p.tables e below (s₁.setTop (mkF m 63 #[.val (.int (10 : Int32))] [])) _
    refine XS.iloadN X0.here hx rfl (hb hby d1_63) rfl ?_
    show Steps p.tables e below (s₁.setTop (mkF m 64 #[.val (.int (10 : Int32))] [(.int (10 : Int32))])) _
    refine XS.bipush X0.here hx rfl (hb hby d1_64) ?_
    show Steps p.tables e below (s₁.setTop (mkF m 66 #[.val (.int (10 : Int32))] [(.int (7 : Int32)), (.int (10 : Int32))])) _
    refine XS.icmpYes X0.here hx rfl (pc0 := 66) (pc' := 73) rfl (hb hby d1_66) rfl (feq (by decide : ¬ ((10 : Int32) = (7 : Int32)))).2 (by decide) (by decide) ?_
    show Steps p.tables e below (s₁.setTop (mkF m 73 #[.val (.int (10 : Int32))] [])) _
    refine XS.iloadN X0.here hx rfl (hb hby d1_73) rfl ?_
    show Steps p.tables e below (s₁.setTop (mkF m 74 #[.val (.int (10 : Int32))] [(.int (10 : Int32))])) _
    refine XS.bipush X0.here hx rfl (hb hby d1_74) ?_
    show Steps p.tables e below (s₁.setTop (mkF m 76 #[.val (.int (10 : Int32))] [(.int (8 : Int32)), (.int (10 : Int32))])) _
    refine XS.icmpYes X0.here hx rfl (pc0 := 76) (pc' := 83) rfl (hb hby d1_76) rfl (feq (by decide : ¬ ((10 : Int32) = (8 : Int32)))).2 (by decide) (by decide) ?_
    show Steps p.tables e below (s₁.setTop (mkF m 83 #[.val (.int (10 : Int32))] [])) _
    refine XS.iloadN X0.here hx rfl (hb hby d1_83) rfl ?_
    show Steps p.tables e below (s₁.setTop (mkF m 84 #[.val (.int (10 : Int32))] [(.int (10 : Int32))])) _
    refine XS.bipush X0.here hx rfl (hb hby d1_84) ?_
    show Steps p.tables e below (s₁.setTop (mkF m 86 #[.val (.int (10 : Int32))] [(.int (9 : Int32)), (.int (10 : Int32))])) _
    refine XS.icmpYes X0.here hx rfl (pc0 := 86) (pc' := 93) rfl (hb hby d1_86) rfl (feq (by decide : ¬ ((10 : Int32) = (9 : Int32)))).2 (by decide) (by decide) ?_
    show Steps p.tables e below (s₁.setTop (mkF m 93 #[.val (.int (10 : Int32))] [])) _
    refine XS.iloadN X0.here hx rfl (hb hby d1_93) rfl ?_
    show Steps p.tables e below (s₁.setTop (mkF m 94 #[.val (.int (10 : Int32))] [(.int (10 : Int32))])) _
    refine XS.bipush X0.here hx rfl (hb hby d1_94) ?_
    show Steps p.tables e below (s₁.setTop (mkF m 96 #[.val (.int (10 : Int32))] [(.int (10 : Int32)), (.int (10 : Int32))])) _
    refine XS.icmpNo X0.here hx rfl (hb hby d1_96) rfl (teq (by decide : (10 : Int32) = (10 : Int32))).2 ?_
    show Steps p.tables e below (s₁.setTop (mkF m 99 #[.val (.int (10 : Int32))] [])) _
    refine st1 _ ?_
    show Steps p.tables e below (T1.setTop (mkF m 102 #[.val (.int (10 : Int32))] [(.ref a1)])) _
    exact retOut X1 hx Bd.returns rfl (Or.inr (Or.inr (Or.inr (Or.inr ⟨rfl, rfl, rfl⟩)))) (hb hby d1_102) hr
  · show Q1_11 Z a1 h0 n0 _ T1.heap _
    rw [e1]
    exact ⟨rfl, N0, rfl⟩
theorem ef1_12 (m : MethodId) : entryFrame m #[(.int (11 : Int32))] 1 = mkF m 0 #[.val (.int (11 : Int32))] [] := by first | (simp [entryFrame, mkF, argsToLocals, Value.category]; done) | rfl
def Q1_12 (Z : State) (a1 : Addr) (h0 : Heap) (n0 : Nat) (v : Option Value) (h : Heap) (L : List Loc) : Prop := v = some (.ref a1) ∧ Fr n0 L ∧ h = h0
set_option maxRecDepth 65536 in
set_option maxHeartbeats 40000000 in
theorem rm1_12 (l : Launch) (Z : State) (a0 : Array Value) (hw : ∀ d ∈ tables_1, d.before a0 Z = true) (ws : List Jvm.Cond) (a1 : Addr) (h0 : Heap) (n0 : Nat) (Z0 : n0 ≤ h0.size) (S_ResultCode_UNIMPLEMENTED_COMMAND : Sta Z h0 "com/example/delehat/delehat/protocols/epp/ResultCode" "UNIMPLEMENTED_COMMAND" "Lcom/example/delehat/delehat/protocols/epp/ResultCode;" (.ref a1)) :
    MetFree l (⟨"com/example/delehat/delehat/protocols/epp/PayloadOfPinLaw", "pick", "(I)Lcom/example/delehat/delehat/protocols/epp/ResultCode;"⟩ : MethodName) (head1 (Jvm.Cond.code (⟨"com/example/delehat/delehat/protocols/epp/PayloadOfPinLaw", "pick", "(I)Lcom/example/delehat/delehat/protocols/epp/ResultCode;"⟩ : MethodName) method_2_code 1 (some (.object "com/example/delehat/delehat/protocols/epp/ResultCode")) :: ws) ({ frames := 0, cells := 0, slots := 0, locals := 0 } : Room)) (fun a U => a = #[(.int (11 : Int32))] ∧ Z.Warmed39 U.vm ∧ U.heap = h0) (fun _ _ _ _ _ => True) (fun _ U o U' => ∃ v L, o = .returned v ∧ Q1_12 Z a1 h0 n0 v U'.heap L ∧ FrameEnd U o U' L ({ frames := 0, cells := 0, slots := 0, locals := 0 } : Room).cells ({ frames := 0, cells := 0, slots := 0, locals := 0 } : Room).slots) := by
  refine MetFree.of_bodySF (plainFor_of_name pn_com_example_delehat_delehat_protocols_epp_PayloadOfPinLaw) hisR ?_
  intro p e s m args below meth c s₁ Bd hml0 hP hK
  obtain ⟨rfl, hZ, hh⟩ := hP
  have hx := Bd.exec
  have hby := Bd.bytes
  have hml : c.maxLocals = 1 := hml0
  have hown : s.vm.findClass "com/example/delehat/delehat/protocols/epp/PayloadOfPinLaw" = some m.cls := findClass_of_methodNamed Bd.named
  have hnm := (name_of_methodNamed Bd.named Bd.method).1
  have X0 : Stand p l e ({ frames := 0, cells := 0, slots := 0, locals := 0 } : Room) s m #[(.int (11 : Int32))] below meth c s₁ [] 0 0 := Stand.of_body Bd
  have e0 : s₁.heap = h0 := by rw [← hh, Bd.state]; rfl
  have N0 := Fr.nil n0
  have pre0 : ∀ t, Steps p.tables e below (s₁.setTop (mkF m 0 #[.val (.int (11 : Int32))] [])) t → Steps p.tables e below (s₁.setTop (entryFrame m #[(.int (11 : Int32))] 1)) t := fun t k => castTop (ef1_12 m) k
  obtain ⟨T1, X1, e1, st1⟩ := getS2 X0 hx hZ hown (host := "") (Or.inl (own_w65 hw)) Via.refl e0 S_ResultCode_UNIMPLEMENTED_COMMAND (g := (mkF m 109 #[.val (.int (11 : Int32))] [])) rfl (hb hby d1_109)
  obtain ⟨fs, hr, hrun, hended, hW, hsame⟩ := X1.leave (v := some (.ref a1)) (fun h => by rw [Bd.returns] at h; cases h)
  refine ⟨_, _, pre0 _ ?_, hrun, hended, _, _, rfl, ?_, ⟨_, rfl⟩, hW, hsame.mono (by decide) (by decide)⟩
  · show Steps p.tables e below (s₁.setTop (mkF m 0 #[.val (.int (11 : Int32))] [])) _
    refine XS.iloadN X0.here hx rfl (hb hby d1_0) rfl ?_
    show Steps p.tables e below (s₁.setTop (mkF m 1 #[.val (.int (11 : Int32))] [(.int (11 : Int32))])) _
    refine XS.ifYes X0.here hx rfl (pc0 := 1) (pc' := 8) rfl (hb hby d1_1) rfl ((if0 _ _).trans (feq (by decide : ¬ ((11 : Int32) = (0 : Int32)))).2) (by decide) (by decide) ?_
    show Steps p.tables e below (s₁.setTop (mkF m 8 #[.val (.int (11 : Int32))] [])) _
    refine XS.iloadN X0.here hx rfl (hb hby d1_8) rfl ?_
    show Steps p.tables e below (s₁.setTop (mkF m 9 #[.val (.int (11 : Int32))] [(.int (11 : Int32))])) _
    refine XS.iconst X0.here hx rfl (hb hby d1_9) ?_
    show Steps p.tables e below (s₁.setTop (mkF m 10 #[.val (.int (11 : Int32))] [(.int (1 : Int32)), (.int (11 : Int32))])) _
    refine XS.icmpYes X0.here hx rfl (pc0 := 10) (pc' := 17) rfl (hb hby d1_10) rfl (feq (by decide : ¬ ((11 : Int32) = (1 : Int32)))).2 (by decide) (by decide) ?_
    show Steps p.tables e below (s₁.setTop (mkF m 17 #[.val (.int (11 : Int32))] [])) _
    refine XS.iloadN X0.here hx rfl (hb hby d1_17) rfl ?_
    show Steps p.tables e below (s₁.setTop (mkF m 18 #[.val (.int (11 : Int32))] [(.int (11 : Int32))])) _
    refine XS.iconst X0.here hx rfl (hb hby d1_18) ?_
    show Steps p.tables e below (s₁.setTop (mkF m 19 #[.val (.int (11 : Int32))] [(.int (2 : Int32)), (.int (11 : Int32))])) _
    refine XS.icmpYes X0.here hx rfl (pc0 := 19) (pc' := 26) rfl (hb hby d1_19) rfl (feq (by decide : ¬ ((11 : Int32) = (2 : Int32)))).2 (by decide) (by decide) ?_
    show Steps p.tables e below (s₁.setTop (mkF m 26 #[.val (.int (11 : Int32))] [])) _
    refine XS.iloadN X0.here hx rfl (hb hby d1_26) rfl ?_
    show Steps p.tables e below (s₁.setTop (mkF m 27 #[.val (.int (11 : Int32))] [(.int (11 : Int32))])) _
    refine XS.iconst X0.here hx rfl (hb hby d1_27) ?_
    show Steps p.tables e below (s₁.setTop (mkF m 28 #[.val (.int (11 : Int32))] [(.int (3 : Int32)), (.int (11 : Int32))])) _
    refine XS.icmpYes X0.here hx rfl (pc0 := 28) (pc' := 35) rfl (hb hby d1_28) rfl (feq (by decide : ¬ ((11 : Int32) = (3 : Int32)))).2 (by decide) (by decide) ?_
    show Steps p.tables e below (s₁.setTop (mkF m 35 #[.val (.int (11 : Int32))] [])) _
    refine XS.iloadN X0.here hx rfl (hb hby d1_35) rfl ?_
    show Steps p.tables e below (s₁.setTop (mkF m 36 #[.val (.int (11 : Int32))] [(.int (11 : Int32))])) _
    refine XS.iconst X0.here hx rfl (hb hby d1_36) ?_
    show Steps p.tables e below (s₁.setTop (mkF m 37 #[.val (.int (11 : Int32))] [(.int (4 : Int32)), (.int (11 : Int32))])) _
    refine XS.icmpYes X0.here hx rfl (pc0 := 37) (pc' := 44) rfl (hb hby d1_37) rfl (feq (by decide : ¬ ((11 : Int32) = (4 : Int32)))).2 (by decide) (by decide) ?_
    show Steps p.tables e below (s₁.setTop (mkF m 44 #[.val (.int (11 : Int32))] [])) _
    refine XS.iloadN X0.here hx rfl (hb hby d1_44) rfl ?_
    show Steps p.tables e below (s₁.setTop (mkF m 45 #[.val (.int (11 : Int32))] [(.int (11 : Int32))])) _
    refine XS.iconst X0.here hx rfl (hb hby d1_45) ?_
    show Steps p.tables e below (s₁.setTop (mkF m 46 #[.val (.int (11 : Int32))] [(.int (5 : Int32)), (.int (11 : Int32))])) _
    refine XS.icmpYes X0.here hx rfl (pc0 := 46) (pc' := 53) rfl (hb hby d1_46) rfl (feq (by decide : ¬ ((11 : Int32) = (5 : Int32)))).2 (by decide) (by decide) ?_
    show Steps p.tables e below (s₁.setTop (mkF m 53 #[.val (.int (11 : Int32))] [])) _
    refine XS.iloadN X0.here hx rfl (hb hby d1_53) rfl ?_
    show Steps p.tables e below (s₁.setTop (mkF m 54 #[.val (.int (11 : Int32))] [(.int (11 : Int32))])) _
    refine XS.bipush X0.here hx rfl (hb hby d1_54) ?_
    show Steps p.tables e below (s₁.setTop (mkF m 56 #[.val (.int (11 : Int32))] [(.int (6 : Int32)), (.int (11 : Int32))])) _
    refine XS.icmpYes X0.here hx rfl (pc0 := 56) (pc' := 63) rfl (hb hby d1_56) rfl (feq (by decide : ¬ ((11 : Int32) = (6 : Int32)))).2 (by decide) (by decide) ?_
    show Steps p.tables e below (s₁.setTop (mkF m 63 #[.val (.int (11 : Int32))] [])) _
    refine XS.iloadN X0.here hx rfl (hb hby d1_63) rfl ?_
    show Steps p.tables e below (s₁.setTop (mkF m 64 #[.val (.int (11 : Int32))] [(.int (11 : Int32))])) _
    refine XS.bipush X0.here hx rfl (hb hby d1_64) ?_
    show Steps p.tables e below (s₁.setTop (mkF m 66 #[.val (.int (11 : Int32))] [(.int (7 : Int32)), (.int (11 : Int32))])) _
    refine XS.icmpYes X0.here hx rfl (pc0 := 66) (pc' := 73) rfl (hb hby d1_66) rfl (feq (by decide : ¬ ((11 : Int32) = (7 : Int32)))).2 (by decide) (by decide) ?_
    show Steps p.tables e below (s₁.setTop (mkF m 73 #[.val (.int (11 : Int32))] [])) _
    refine XS.iloadN X0.here hx rfl (hb hby d1_73) rfl ?_
    show Steps p.tables e below (s₁.setTop (mkF m 74 #[.val (.int (11 : Int32))] [(.int (11 : Int32))])) _
    refine XS.bipush X0.here hx rfl (hb hby d1_74) ?_
    show Steps p.tables e below (s₁.setTop (mkF m 76 #[.val (.int (11 : Int32))] [(.int (8 : Int32)), (.int (11 : Int32))])) _
    refine XS.icmpYes X0.here hx rfl (pc0 := 76) (pc' := 83) rfl (hb hby d1_76) rfl (feq (by decide : ¬ ((11 : Int32) = (8 : Int32)))).2 (by decide) (by decide) ?_
    show Steps p.tables e below (s₁.setTop (mkF m 83 #[.val (.int (11 : Int32))] [])) _
    refine XS.iloadN X0.here hx rfl (hb hby d1_83) rfl ?_
    show Steps p.tables e below (s₁.setTop (mkF m 84 #[.val (.int (11 : Int32))] [(.int (11 : Int32))])) _
    refine XS.bipush X0.here hx rfl (hb hby d1_84) ?_
    show Steps p.tables e below (s₁.setTop (mkF m 86 #[.val (.int (11 : Int32))] [(.int (9 : Int32)), (.int (11 : Int32))])) _
    refine XS.icmpYes X0.here hx rfl (pc0 := 86) (pc' := 93) rfl (hb hby d1_86) rfl (feq (by decide : ¬ ((11 : Int32) = (9 : Int32)))).2 (by decide) (by decide) ?_
    show Steps p.tables e below (s₁.setTop (mkF m 93 #[.val (.int (11 : Int32))] [])) _
    refine XS.iloadN X0.here hx rfl (hb hby d1_93) rfl ?_
    show Steps p.tables e below (s₁.setTop (mkF m 94 #[.val (.int (11 : Int32))] [(.int (11 : Int32))])) _
    refine XS.bipush X0.here hx rfl (hb hby d1_94) ?_
    show Steps p.tables e below (s₁.setTop (mkF m 96 #[.val (.int (11 : Int32))] [(.int (10 : Int32)), (.int (11 : Int32))])) _
    refine XS.icmpYes X0.here hx rfl (pc0 := 96) (pc' := 103) rfl (hb hby d1_96) rfl (feq (by decide : ¬ ((11 : Int32) = (10 : Int32)))).2 (by decide) (by decide) ?_
    show Steps p.tables e below (s₁.setTop (mkF m 103 #[.val (.int (11 : Int32))] [])) _
    refine XS.iloadN X0.here hx rfl (hb hby d1_103) rfl ?_
    show Steps p.tables e below (s₁.setTop (mkF m 104 #[.val (.int (11 : Int32))] [(.int (11 : Int32))])) _
    refine XS.bipush X0.here hx rfl (hb hby d1_104) ?_
    show Steps p.tables e below (s₁.setTop (mkF m 106 #[.val (.int (11 : Int32))] [(.int (11 : Int32)), (.int (11 : Int32))])) _
    refine XS.icmpNo X0.here hx rfl (hb hby d1_106) rfl (teq (by decide : (11 : Int32) = (11 : Int32))).2 ?_
    show Steps p.tables e below (s₁.setTop (mkF m 109 #[.val (.int (11 : Int32))] [])) _
    refine st1 _ ?_
    show Steps p.tables e below (T1.setTop (mkF m 112 #[.val (.int (11 : Int32))] [(.ref a1)])) _
    exact retOut X1 hx Bd.returns rfl (Or.inr (Or.inr (Or.inr (Or.inr ⟨rfl, rfl, rfl⟩)))) (hb hby d1_112) hr
  · show Q1_12 Z a1 h0 n0 _ T1.heap _
    rw [e1]
    exact ⟨rfl, N0, rfl⟩
theorem ef1_13 (m : MethodId) : entryFrame m #[(.int (12 : Int32))] 1 = mkF m 0 #[.val (.int (12 : Int32))] [] := by first | (simp [entryFrame, mkF, argsToLocals, Value.category]; done) | rfl
def Q1_13 (Z : State) (a1 : Addr) (h0 : Heap) (n0 : Nat) (v : Option Value) (h : Heap) (L : List Loc) : Prop := v = some (.ref a1) ∧ Fr n0 L ∧ h = h0
set_option maxRecDepth 65536 in
set_option maxHeartbeats 40000000 in
theorem rm1_13 (l : Launch) (Z : State) (a0 : Array Value) (hw : ∀ d ∈ tables_1, d.before a0 Z = true) (ws : List Jvm.Cond) (a1 : Addr) (h0 : Heap) (n0 : Nat) (Z0 : n0 ≤ h0.size) (S_ResultCode_UNIMPLEMENTED_OPTION : Sta Z h0 "com/example/delehat/delehat/protocols/epp/ResultCode" "UNIMPLEMENTED_OPTION" "Lcom/example/delehat/delehat/protocols/epp/ResultCode;" (.ref a1)) :
    MetFree l (⟨"com/example/delehat/delehat/protocols/epp/PayloadOfPinLaw", "pick", "(I)Lcom/example/delehat/delehat/protocols/epp/ResultCode;"⟩ : MethodName) (head1 (Jvm.Cond.code (⟨"com/example/delehat/delehat/protocols/epp/PayloadOfPinLaw", "pick", "(I)Lcom/example/delehat/delehat/protocols/epp/ResultCode;"⟩ : MethodName) method_2_code 1 (some (.object "com/example/delehat/delehat/protocols/epp/ResultCode")) :: ws) ({ frames := 0, cells := 0, slots := 0, locals := 0 } : Room)) (fun a U => a = #[(.int (12 : Int32))] ∧ Z.Warmed39 U.vm ∧ U.heap = h0) (fun _ _ _ _ _ => True) (fun _ U o U' => ∃ v L, o = .returned v ∧ Q1_13 Z a1 h0 n0 v U'.heap L ∧ FrameEnd U o U' L ({ frames := 0, cells := 0, slots := 0, locals := 0 } : Room).cells ({ frames := 0, cells := 0, slots := 0, locals := 0 } : Room).slots) := by
  refine MetFree.of_bodySF (plainFor_of_name pn_com_example_delehat_delehat_protocols_epp_PayloadOfPinLaw) hisR ?_
  intro p e s m args below meth c s₁ Bd hml0 hP hK
  obtain ⟨rfl, hZ, hh⟩ := hP
  have hx := Bd.exec
  have hby := Bd.bytes
  have hml : c.maxLocals = 1 := hml0
  have hown : s.vm.findClass "com/example/delehat/delehat/protocols/epp/PayloadOfPinLaw" = some m.cls := findClass_of_methodNamed Bd.named
  have hnm := (name_of_methodNamed Bd.named Bd.method).1
  have X0 : Stand p l e ({ frames := 0, cells := 0, slots := 0, locals := 0 } : Room) s m #[(.int (12 : Int32))] below meth c s₁ [] 0 0 := Stand.of_body Bd
  have e0 : s₁.heap = h0 := by rw [← hh, Bd.state]; rfl
  have N0 := Fr.nil n0
  have pre0 : ∀ t, Steps p.tables e below (s₁.setTop (mkF m 0 #[.val (.int (12 : Int32))] [])) t → Steps p.tables e below (s₁.setTop (entryFrame m #[(.int (12 : Int32))] 1)) t := fun t k => castTop (ef1_13 m) k
  obtain ⟨T1, X1, e1, st1⟩ := getS2 X0 hx hZ hown (host := "") (Or.inl (own_w101 hw)) Via.refl e0 S_ResultCode_UNIMPLEMENTED_OPTION (g := (mkF m 119 #[.val (.int (12 : Int32))] [])) rfl (hb hby d1_119)
  obtain ⟨fs, hr, hrun, hended, hW, hsame⟩ := X1.leave (v := some (.ref a1)) (fun h => by rw [Bd.returns] at h; cases h)
  refine ⟨_, _, pre0 _ ?_, hrun, hended, _, _, rfl, ?_, ⟨_, rfl⟩, hW, hsame.mono (by decide) (by decide)⟩
  · show Steps p.tables e below (s₁.setTop (mkF m 0 #[.val (.int (12 : Int32))] [])) _
    refine XS.iloadN X0.here hx rfl (hb hby d1_0) rfl ?_
    show Steps p.tables e below (s₁.setTop (mkF m 1 #[.val (.int (12 : Int32))] [(.int (12 : Int32))])) _
    refine XS.ifYes X0.here hx rfl (pc0 := 1) (pc' := 8) rfl (hb hby d1_1) rfl ((if0 _ _).trans (feq (by decide : ¬ ((12 : Int32) = (0 : Int32)))).2) (by decide) (by decide) ?_
    show Steps p.tables e below (s₁.setTop (mkF m 8 #[.val (.int (12 : Int32))] [])) _
    refine XS.iloadN X0.here hx rfl (hb hby d1_8) rfl ?_
    show Steps p.tables e below (s₁.setTop (mkF m 9 #[.val (.int (12 : Int32))] [(.int (12 : Int32))])) _
    refine XS.iconst X0.here hx rfl (hb hby d1_9) ?_
    show Steps p.tables e below (s₁.setTop (mkF m 10 #[.val (.int (12 : Int32))] [(.int (1 : Int32)), (.int (12 : Int32))])) _
    refine XS.icmpYes X0.here hx rfl (pc0 := 10) (pc' := 17) rfl (hb hby d1_10) rfl (feq (by decide : ¬ ((12 : Int32) = (1 : Int32)))).2 (by decide) (by decide) ?_
    show Steps p.tables e below (s₁.setTop (mkF m 17 #[.val (.int (12 : Int32))] [])) _
    refine XS.iloadN X0.here hx rfl (hb hby d1_17) rfl ?_
    show Steps p.tables e below (s₁.setTop (mkF m 18 #[.val (.int (12 : Int32))] [(.int (12 : Int32))])) _
    refine XS.iconst X0.here hx rfl (hb hby d1_18) ?_
    show Steps p.tables e below (s₁.setTop (mkF m 19 #[.val (.int (12 : Int32))] [(.int (2 : Int32)), (.int (12 : Int32))])) _
    refine XS.icmpYes X0.here hx rfl (pc0 := 19) (pc' := 26) rfl (hb hby d1_19) rfl (feq (by decide : ¬ ((12 : Int32) = (2 : Int32)))).2 (by decide) (by decide) ?_
    show Steps p.tables e below (s₁.setTop (mkF m 26 #[.val (.int (12 : Int32))] [])) _
    refine XS.iloadN X0.here hx rfl (hb hby d1_26) rfl ?_
    show Steps p.tables e below (s₁.setTop (mkF m 27 #[.val (.int (12 : Int32))] [(.int (12 : Int32))])) _
    refine XS.iconst X0.here hx rfl (hb hby d1_27) ?_
    show Steps p.tables e below (s₁.setTop (mkF m 28 #[.val (.int (12 : Int32))] [(.int (3 : Int32)), (.int (12 : Int32))])) _
    refine XS.icmpYes X0.here hx rfl (pc0 := 28) (pc' := 35) rfl (hb hby d1_28) rfl (feq (by decide : ¬ ((12 : Int32) = (3 : Int32)))).2 (by decide) (by decide) ?_
    show Steps p.tables e below (s₁.setTop (mkF m 35 #[.val (.int (12 : Int32))] [])) _
    refine XS.iloadN X0.here hx rfl (hb hby d1_35) rfl ?_
    show Steps p.tables e below (s₁.setTop (mkF m 36 #[.val (.int (12 : Int32))] [(.int (12 : Int32))])) _
    refine XS.iconst X0.here hx rfl (hb hby d1_36) ?_
    show Steps p.tables e below (s₁.setTop (mkF m 37 #[.val (.int (12 : Int32))] [(.int (4 : Int32)), (.int (12 : Int32))])) _
    refine XS.icmpYes X0.here hx rfl (pc0 := 37) (pc' := 44) rfl (hb hby d1_37) rfl (feq (by decide : ¬ ((12 : Int32) = (4 : Int32)))).2 (by decide) (by decide) ?_
    show Steps p.tables e below (s₁.setTop (mkF m 44 #[.val (.int (12 : Int32))] [])) _
    refine XS.iloadN X0.here hx rfl (hb hby d1_44) rfl ?_
    show Steps p.tables e below (s₁.setTop (mkF m 45 #[.val (.int (12 : Int32))] [(.int (12 : Int32))])) _
    refine XS.iconst X0.here hx rfl (hb hby d1_45) ?_
    show Steps p.tables e below (s₁.setTop (mkF m 46 #[.val (.int (12 : Int32))] [(.int (5 : Int32)), (.int (12 : Int32))])) _
    refine XS.icmpYes X0.here hx rfl (pc0 := 46) (pc' := 53) rfl (hb hby d1_46) rfl (feq (by decide : ¬ ((12 : Int32) = (5 : Int32)))).2 (by decide) (by decide) ?_
    show Steps p.tables e below (s₁.setTop (mkF m 53 #[.val (.int (12 : Int32))] [])) _
    refine XS.iloadN X0.here hx rfl (hb hby d1_53) rfl ?_
    show Steps p.tables e below (s₁.setTop (mkF m 54 #[.val (.int (12 : Int32))] [(.int (12 : Int32))])) _
    refine XS.bipush X0.here hx rfl (hb hby d1_54) ?_
    show Steps p.tables e below (s₁.setTop (mkF m 56 #[.val (.int (12 : Int32))] [(.int (6 : Int32)), (.int (12 : Int32))])) _
    refine XS.icmpYes X0.here hx rfl (pc0 := 56) (pc' := 63) rfl (hb hby d1_56) rfl (feq (by decide : ¬ ((12 : Int32) = (6 : Int32)))).2 (by decide) (by decide) ?_
    show Steps p.tables e below (s₁.setTop (mkF m 63 #[.val (.int (12 : Int32))] [])) _
    refine XS.iloadN X0.here hx rfl (hb hby d1_63) rfl ?_
    show Steps p.tables e below (s₁.setTop (mkF m 64 #[.val (.int (12 : Int32))] [(.int (12 : Int32))])) _
    refine XS.bipush X0.here hx rfl (hb hby d1_64) ?_
    show Steps p.tables e below (s₁.setTop (mkF m 66 #[.val (.int (12 : Int32))] [(.int (7 : Int32)), (.int (12 : Int32))])) _
    refine XS.icmpYes X0.here hx rfl (pc0 := 66) (pc' := 73) rfl (hb hby d1_66) rfl (feq (by decide : ¬ ((12 : Int32) = (7 : Int32)))).2 (by decide) (by decide) ?_
    show Steps p.tables e below (s₁.setTop (mkF m 73 #[.val (.int (12 : Int32))] [])) _
    refine XS.iloadN X0.here hx rfl (hb hby d1_73) rfl ?_
    show Steps p.tables e below (s₁.setTop (mkF m 74 #[.val (.int (12 : Int32))] [(.int (12 : Int32))])) _
    refine XS.bipush X0.here hx rfl (hb hby d1_74) ?_
    show Steps p.tables e below (s₁.setTop (mkF m 76 #[.val (.int (12 : Int32))] [(.int (8 : Int32)), (.int (12 : Int32))])) _
    refine XS.icmpYes X0.here hx rfl (pc0 := 76) (pc' := 83) rfl (hb hby d1_76) rfl (feq (by decide : ¬ ((12 : Int32) = (8 : Int32)))).2 (by decide) (by decide) ?_
    show Steps p.tables e below (s₁.setTop (mkF m 83 #[.val (.int (12 : Int32))] [])) _
    refine XS.iloadN X0.here hx rfl (hb hby d1_83) rfl ?_
    show Steps p.tables e below (s₁.setTop (mkF m 84 #[.val (.int (12 : Int32))] [(.int (12 : Int32))])) _
    refine XS.bipush X0.here hx rfl (hb hby d1_84) ?_
    show Steps p.tables e below (s₁.setTop (mkF m 86 #[.val (.int (12 : Int32))] [(.int (9 : Int32)), (.int (12 : Int32))])) _
    refine XS.icmpYes X0.here hx rfl (pc0 := 86) (pc' := 93) rfl (hb hby d1_86) rfl (feq (by decide : ¬ ((12 : Int32) = (9 : Int32)))).2 (by decide) (by decide) ?_
    show Steps p.tables e below (s₁.setTop (mkF m 93 #[.val (.int (12 : Int32))] [])) _
    refine XS.iloadN X0.here hx rfl (hb hby d1_93) rfl ?_
    show Steps p.tables e below (s₁.setTop (mkF m 94 #[.val (.int (12 : Int32))] [(.int (12 : Int32))])) _
    refine XS.bipush X0.here hx rfl (hb hby d1_94) ?_
    show Steps p.tables e below (s₁.setTop (mkF m 96 #[.val (.int (12 : Int32))] [(.int (10 : Int32)), (.int (12 : Int32))])) _
    refine XS.icmpYes X0.here hx rfl (pc0 := 96) (pc' := 103) rfl (hb hby d1_96) rfl (feq (by decide : ¬ ((12 : Int32) = (10 : Int32)))).2 (by decide) (by decide) ?_
    show Steps p.tables e below (s₁.setTop (mkF m 103 #[.val (.int (12 : Int32))] [])) _
    refine XS.iloadN X0.here hx rfl (hb hby d1_103) rfl ?_
    show Steps p.tables e below (s₁.setTop (mkF m 104 #[.val (.int (12 : Int32))] [(.int (12 : Int32))])) _
    refine XS.bipush X0.here hx rfl (hb hby d1_104) ?_
    show Steps p.tables e below (s₁.setTop (mkF m 106 #[.val (.int (12 : Int32))] [(.int (11 : Int32)), (.int (12 : Int32))])) _
    refine XS.icmpYes X0.here hx rfl (pc0 := 106) (pc' := 113) rfl (hb hby d1_106) rfl (feq (by decide : ¬ ((12 : Int32) = (11 : Int32)))).2 (by decide) (by decide) ?_
    show Steps p.tables e below (s₁.setTop (mkF m 113 #[.val (.int (12 : Int32))] [])) _
    refine XS.iloadN X0.here hx rfl (hb hby d1_113) rfl ?_
    show Steps p.tables e below (s₁.setTop (mkF m 114 #[.val (.int (12 : Int32))] [(.int (12 : Int32))])) _
    refine XS.bipush X0.here hx rfl (hb hby d1_114) ?_
    show Steps p.tables e below (s₁.setTop (mkF m 116 #[.val (.int (12 : Int32))] [(.int (12 : Int32)), (.int (12 : Int32))])) _
    refine XS.icmpNo X0.here hx rfl (hb hby d1_116) rfl (teq (by decide : (12 : Int32) = (12 : Int32))).2 ?_
    show Steps p.tables e below (s₁.setTop (mkF m 119 #[.val (.int (12 : Int32))] [])) _
    refine st1 _ ?_
    show Steps p.tables e below (T1.setTop (mkF m 122 #[.val (.int (12 : Int32))] [(.ref a1)])) _
    exact retOut X1 hx Bd.returns rfl (Or.inr (Or.inr (Or.inr (Or.inr ⟨rfl, rfl, rfl⟩)))) (hb hby d1_122) hr
  · show Q1_13 Z a1 h0 n0 _ T1.heap _
    rw [e1]
    exact ⟨rfl, N0, rfl⟩
theorem ef1_14 (m : MethodId) : entryFrame m #[(.int (13 : Int32))] 1 = mkF m 0 #[.val (.int (13 : Int32))] [] := by first | (simp [entryFrame, mkF, argsToLocals, Value.category]; done) | rfl
def Q1_14 (Z : State) (a1 : Addr) (h0 : Heap) (n0 : Nat) (v : Option Value) (h : Heap) (L : List Loc) : Prop := v = some (.ref a1) ∧ Fr n0 L ∧ h = h0
set_option maxRecDepth 65536 in
set_option maxHeartbeats 40000000 in
theorem rm1_14 (l : Launch) (Z : State) (a0 : Array Value) (hw : ∀ d ∈ tables_1, d.before a0 Z = true) (ws : List Jvm.Cond) (a1 : Addr) (h0 : Heap) (n0 : Nat) (Z0 : n0 ≤ h0.size) (S_ResultCode_UNIMPLEMENTED_EXTENSION : Sta Z h0 "com/example/delehat/delehat/protocols/epp/ResultCode" "UNIMPLEMENTED_EXTENSION" "Lcom/example/delehat/delehat/protocols/epp/ResultCode;" (.ref a1)) :
    MetFree l (⟨"com/example/delehat/delehat/protocols/epp/PayloadOfPinLaw", "pick", "(I)Lcom/example/delehat/delehat/protocols/epp/ResultCode;"⟩ : MethodName) (head1 (Jvm.Cond.code (⟨"com/example/delehat/delehat/protocols/epp/PayloadOfPinLaw", "pick", "(I)Lcom/example/delehat/delehat/protocols/epp/ResultCode;"⟩ : MethodName) method_2_code 1 (some (.object "com/example/delehat/delehat/protocols/epp/ResultCode")) :: ws) ({ frames := 0, cells := 0, slots := 0, locals := 0 } : Room)) (fun a U => a = #[(.int (13 : Int32))] ∧ Z.Warmed39 U.vm ∧ U.heap = h0) (fun _ _ _ _ _ => True) (fun _ U o U' => ∃ v L, o = .returned v ∧ Q1_14 Z a1 h0 n0 v U'.heap L ∧ FrameEnd U o U' L ({ frames := 0, cells := 0, slots := 0, locals := 0 } : Room).cells ({ frames := 0, cells := 0, slots := 0, locals := 0 } : Room).slots) := by
  refine MetFree.of_bodySF (plainFor_of_name pn_com_example_delehat_delehat_protocols_epp_PayloadOfPinLaw) hisR ?_
  intro p e s m args below meth c s₁ Bd hml0 hP hK
  obtain ⟨rfl, hZ, hh⟩ := hP
  have hx := Bd.exec
  have hby := Bd.bytes
  have hml : c.maxLocals = 1 := hml0
  have hown : s.vm.findClass "com/example/delehat/delehat/protocols/epp/PayloadOfPinLaw" = some m.cls := findClass_of_methodNamed Bd.named
  have hnm := (name_of_methodNamed Bd.named Bd.method).1
  have X0 : Stand p l e ({ frames := 0, cells := 0, slots := 0, locals := 0 } : Room) s m #[(.int (13 : Int32))] below meth c s₁ [] 0 0 := Stand.of_body Bd
  have e0 : s₁.heap = h0 := by rw [← hh, Bd.state]; rfl
  have N0 := Fr.nil n0
  have pre0 : ∀ t, Steps p.tables e below (s₁.setTop (mkF m 0 #[.val (.int (13 : Int32))] [])) t → Steps p.tables e below (s₁.setTop (entryFrame m #[(.int (13 : Int32))] 1)) t := fun t k => castTop (ef1_14 m) k
  obtain ⟨T1, X1, e1, st1⟩ := getS2 X0 hx hZ hown (host := "") (Or.inl (own_w89 hw)) Via.refl e0 S_ResultCode_UNIMPLEMENTED_EXTENSION (g := (mkF m 129 #[.val (.int (13 : Int32))] [])) rfl (hb hby d1_129)
  obtain ⟨fs, hr, hrun, hended, hW, hsame⟩ := X1.leave (v := some (.ref a1)) (fun h => by rw [Bd.returns] at h; cases h)
  refine ⟨_, _, pre0 _ ?_, hrun, hended, _, _, rfl, ?_, ⟨_, rfl⟩, hW, hsame.mono (by decide) (by decide)⟩
  · show Steps p.tables e below (s₁.setTop (mkF m 0 #[.val (.int (13 : Int32))] [])) _
    refine XS.iloadN X0.here hx rfl (hb hby d1_0) rfl ?_
    show Steps p.tables e below (s₁.setTop (mkF m 1 #[.val (.int (13 : Int32))] [(.int (13 : Int32))])) _
    refine XS.ifYes X0.here hx rfl (pc0 := 1) (pc' := 8) rfl (hb hby d1_1) rfl ((if0 _ _).trans (feq (by decide : ¬ ((13 : Int32) = (0 : Int32)))).2) (by decide) (by decide) ?_
    show Steps p.tables e below (s₁.setTop (mkF m 8 #[.val (.int (13 : Int32))] [])) _
    refine XS.iloadN X0.here hx rfl (hb hby d1_8) rfl ?_
    show Steps p.tables e below (s₁.setTop (mkF m 9 #[.val (.int (13 : Int32))] [(.int (13 : Int32))])) _
    refine XS.iconst X0.here hx rfl (hb hby d1_9) ?_
    show Steps p.tables e below (s₁.setTop (mkF m 10 #[.val (.int (13 : Int32))] [(.int (1 : Int32)), (.int (13 : Int32))])) _
    refine XS.icmpYes X0.here hx rfl (pc0 := 10) (pc' := 17) rfl (hb hby d1_10) rfl (feq (by decide : ¬ ((13 : Int32) = (1 : Int32)))).2 (by decide) (by decide) ?_
    show Steps p.tables e below (s₁.setTop (mkF m 17 #[.val (.int (13 : Int32))] [])) _
    refine XS.iloadN X0.here hx rfl (hb hby d1_17) rfl ?_
    show Steps p.tables e below (s₁.setTop (mkF m 18 #[.val (.int (13 : Int32))] [(.int (13 : Int32))])) _
    refine XS.iconst X0.here hx rfl (hb hby d1_18) ?_
    show Steps p.tables e below (s₁.setTop (mkF m 19 #[.val (.int (13 : Int32))] [(.int (2 : Int32)), (.int (13 : Int32))])) _
    refine XS.icmpYes X0.here hx rfl (pc0 := 19) (pc' := 26) rfl (hb hby d1_19) rfl (feq (by decide : ¬ ((13 : Int32) = (2 : Int32)))).2 (by decide) (by decide) ?_
    show Steps p.tables e below (s₁.setTop (mkF m 26 #[.val (.int (13 : Int32))] [])) _
    refine XS.iloadN X0.here hx rfl (hb hby d1_26) rfl ?_
    show Steps p.tables e below (s₁.setTop (mkF m 27 #[.val (.int (13 : Int32))] [(.int (13 : Int32))])) _
    refine XS.iconst X0.here hx rfl (hb hby d1_27) ?_
    show Steps p.tables e below (s₁.setTop (mkF m 28 #[.val (.int (13 : Int32))] [(.int (3 : Int32)), (.int (13 : Int32))])) _
    refine XS.icmpYes X0.here hx rfl (pc0 := 28) (pc' := 35) rfl (hb hby d1_28) rfl (feq (by decide : ¬ ((13 : Int32) = (3 : Int32)))).2 (by decide) (by decide) ?_
    show Steps p.tables e below (s₁.setTop (mkF m 35 #[.val (.int (13 : Int32))] [])) _
    refine XS.iloadN X0.here hx rfl (hb hby d1_35) rfl ?_
    show Steps p.tables e below (s₁.setTop (mkF m 36 #[.val (.int (13 : Int32))] [(.int (13 : Int32))])) _
    refine XS.iconst X0.here hx rfl (hb hby d1_36) ?_
    show Steps p.tables e below (s₁.setTop (mkF m 37 #[.val (.int (13 : Int32))] [(.int (4 : Int32)), (.int (13 : Int32))])) _
    refine XS.icmpYes X0.here hx rfl (pc0 := 37) (pc' := 44) rfl (hb hby d1_37) rfl (feq (by decide : ¬ ((13 : Int32) = (4 : Int32)))).2 (by decide) (by decide) ?_
    show Steps p.tables e below (s₁.setTop (mkF m 44 #[.val (.int (13 : Int32))] [])) _
    refine XS.iloadN X0.here hx rfl (hb hby d1_44) rfl ?_
    show Steps p.tables e below (s₁.setTop (mkF m 45 #[.val (.int (13 : Int32))] [(.int (13 : Int32))])) _
    refine XS.iconst X0.here hx rfl (hb hby d1_45) ?_
    show Steps p.tables e below (s₁.setTop (mkF m 46 #[.val (.int (13 : Int32))] [(.int (5 : Int32)), (.int (13 : Int32))])) _
    refine XS.icmpYes X0.here hx rfl (pc0 := 46) (pc' := 53) rfl (hb hby d1_46) rfl (feq (by decide : ¬ ((13 : Int32) = (5 : Int32)))).2 (by decide) (by decide) ?_
    show Steps p.tables e below (s₁.setTop (mkF m 53 #[.val (.int (13 : Int32))] [])) _
    refine XS.iloadN X0.here hx rfl (hb hby d1_53) rfl ?_
    show Steps p.tables e below (s₁.setTop (mkF m 54 #[.val (.int (13 : Int32))] [(.int (13 : Int32))])) _
    refine XS.bipush X0.here hx rfl (hb hby d1_54) ?_
    show Steps p.tables e below (s₁.setTop (mkF m 56 #[.val (.int (13 : Int32))] [(.int (6 : Int32)), (.int (13 : Int32))])) _
    refine XS.icmpYes X0.here hx rfl (pc0 := 56) (pc' := 63) rfl (hb hby d1_56) rfl (feq (by decide : ¬ ((13 : Int32) = (6 : Int32)))).2 (by decide) (by decide) ?_
    show Steps p.tables e below (s₁.setTop (mkF m 63 #[.val (.int (13 : Int32))] [])) _
    refine XS.iloadN X0.here hx rfl (hb hby d1_63) rfl ?_
    show Steps p.tables e below (s₁.setTop (mkF m 64 #[.val (.int (13 : Int32))] [(.int (13 : Int32))])) _
    refine XS.bipush X0.here hx rfl (hb hby d1_64) ?_
    show Steps p.tables e below (s₁.setTop (mkF m 66 #[.val (.int (13 : Int32))] [(.int (7 : Int32)), (.int (13 : Int32))])) _
    refine XS.icmpYes X0.here hx rfl (pc0 := 66) (pc' := 73) rfl (hb hby d1_66) rfl (feq (by decide : ¬ ((13 : Int32) = (7 : Int32)))).2 (by decide) (by decide) ?_
    show Steps p.tables e below (s₁.setTop (mkF m 73 #[.val (.int (13 : Int32))] [])) _
    refine XS.iloadN X0.here hx rfl (hb hby d1_73) rfl ?_
    show Steps p.tables e below (s₁.setTop (mkF m 74 #[.val (.int (13 : Int32))] [(.int (13 : Int32))])) _
    refine XS.bipush X0.here hx rfl (hb hby d1_74) ?_
    show Steps p.tables e below (s₁.setTop (mkF m 76 #[.val (.int (13 : Int32))] [(.int (8 : Int32)), (.int (13 : Int32))])) _
    refine XS.icmpYes X0.here hx rfl (pc0 := 76) (pc' := 83) rfl (hb hby d1_76) rfl (feq (by decide : ¬ ((13 : Int32) = (8 : Int32)))).2 (by decide) (by decide) ?_
    show Steps p.tables e below (s₁.setTop (mkF m 83 #[.val (.int (13 : Int32))] [])) _
    refine XS.iloadN X0.here hx rfl (hb hby d1_83) rfl ?_
    show Steps p.tables e below (s₁.setTop (mkF m 84 #[.val (.int (13 : Int32))] [(.int (13 : Int32))])) _
    refine XS.bipush X0.here hx rfl (hb hby d1_84) ?_
    show Steps p.tables e below (s₁.setTop (mkF m 86 #[.val (.int (13 : Int32))] [(.int (9 : Int32)), (.int (13 : Int32))])) _
    refine XS.icmpYes X0.here hx rfl (pc0 := 86) (pc' := 93) rfl (hb hby d1_86) rfl (feq (by decide : ¬ ((13 : Int32) = (9 : Int32)))).2 (by decide) (by decide) ?_
    show Steps p.tables e below (s₁.setTop (mkF m 93 #[.val (.int (13 : Int32))] [])) _
    refine XS.iloadN X0.here hx rfl (hb hby d1_93) rfl ?_
    show Steps p.tables e below (s₁.setTop (mkF m 94 #[.val (.int (13 : Int32))] [(.int (13 : Int32))])) _
    refine XS.bipush X0.here hx rfl (hb hby d1_94) ?_
    show Steps p.tables e below (s₁.setTop (mkF m 96 #[.val (.int (13 : Int32))] [(.int (10 : Int32)), (.int (13 : Int32))])) _
    refine XS.icmpYes X0.here hx rfl (pc0 := 96) (pc' := 103) rfl (hb hby d1_96) rfl (feq (by decide : ¬ ((13 : Int32) = (10 : Int32)))).2 (by decide) (by decide) ?_
    show Steps p.tables e below (s₁.setTop (mkF m 103 #[.val (.int (13 : Int32))] [])) _
    refine XS.iloadN X0.here hx rfl (hb hby d1_103) rfl ?_
    show Steps p.tables e below (s₁.setTop (mkF m 104 #[.val (.int (13 : Int32))] [(.int (13 : Int32))])) _
    refine XS.bipush X0.here hx rfl (hb hby d1_104) ?_
    show Steps p.tables e below (s₁.setTop (mkF m 106 #[.val (.int (13 : Int32))] [(.int (11 : Int32)), (.int (13 : Int32))])) _
    refine XS.icmpYes X0.here hx rfl (pc0 := 106) (pc' := 113) rfl (hb hby d1_106) rfl (feq (by decide : ¬ ((13 : Int32) = (11 : Int32)))).2 (by decide) (by decide) ?_
    show Steps p.tables e below (s₁.setTop (mkF m 113 #[.val (.int (13 : Int32))] [])) _
    refine XS.iloadN X0.here hx rfl (hb hby d1_113) rfl ?_
    show Steps p.tables e below (s₁.setTop (mkF m 114 #[.val (.int (13 : Int32))] [(.int (13 : Int32))])) _
    refine XS.bipush X0.here hx rfl (hb hby d1_114) ?_
    show Steps p.tables e below (s₁.setTop (mkF m 116 #[.val (.int (13 : Int32))] [(.int (12 : Int32)), (.int (13 : Int32))])) _
    refine XS.icmpYes X0.here hx rfl (pc0 := 116) (pc' := 123) rfl (hb hby d1_116) rfl (feq (by decide : ¬ ((13 : Int32) = (12 : Int32)))).2 (by decide) (by decide) ?_
    show Steps p.tables e below (s₁.setTop (mkF m 123 #[.val (.int (13 : Int32))] [])) _
    refine XS.iloadN X0.here hx rfl (hb hby d1_123) rfl ?_
    show Steps p.tables e below (s₁.setTop (mkF m 124 #[.val (.int (13 : Int32))] [(.int (13 : Int32))])) _
    refine XS.bipush X0.here hx rfl (hb hby d1_124) ?_
    show Steps p.tables e below (s₁.setTop (mkF m 126 #[.val (.int (13 : Int32))] [(.int (13 : Int32)), (.int (13 : Int32))])) _
    refine XS.icmpNo X0.here hx rfl (hb hby d1_126) rfl (teq (by decide : (13 : Int32) = (13 : Int32))).2 ?_
    show Steps p.tables e below (s₁.setTop (mkF m 129 #[.val (.int (13 : Int32))] [])) _
    refine st1 _ ?_
    show Steps p.tables e below (T1.setTop (mkF m 132 #[.val (.int (13 : Int32))] [(.ref a1)])) _
    exact retOut X1 hx Bd.returns rfl (Or.inr (Or.inr (Or.inr (Or.inr ⟨rfl, rfl, rfl⟩)))) (hb hby d1_132) hr
  · show Q1_14 Z a1 h0 n0 _ T1.heap _
    rw [e1]
    exact ⟨rfl, N0, rfl⟩
theorem ef1_15 (m : MethodId) : entryFrame m #[(.int (14 : Int32))] 1 = mkF m 0 #[.val (.int (14 : Int32))] [] := by first | (simp [entryFrame, mkF, argsToLocals, Value.category]; done) | rfl
def Q1_15 (Z : State) (a1 : Addr) (h0 : Heap) (n0 : Nat) (v : Option Value) (h : Heap) (L : List Loc) : Prop := v = some (.ref a1) ∧ Fr n0 L ∧ h = h0
set_option maxRecDepth 65536 in
set_option maxHeartbeats 40000000 in
theorem rm1_15 (l : Launch) (Z : State) (a0 : Array Value) (hw : ∀ d ∈ tables_1, d.before a0 Z = true) (ws : List Jvm.Cond) (a1 : Addr) (h0 : Heap) (n0 : Nat) (Z0 : n0 ≤ h0.size) (S_ResultCode_OBJECT_NOT_ELIGIBLE_FOR_TRANSFER : Sta Z h0 "com/example/delehat/delehat/protocols/epp/ResultCode" "OBJECT_NOT_ELIGIBLE_FOR_TRANSFER" "Lcom/example/delehat/delehat/protocols/epp/ResultCode;" (.ref a1)) :
    MetFree l (⟨"com/example/delehat/delehat/protocols/epp/PayloadOfPinLaw", "pick", "(I)Lcom/example/delehat/delehat/protocols/epp/ResultCode;"⟩ : MethodName) (head1 (Jvm.Cond.code (⟨"com/example/delehat/delehat/protocols/epp/PayloadOfPinLaw", "pick", "(I)Lcom/example/delehat/delehat/protocols/epp/ResultCode;"⟩ : MethodName) method_2_code 1 (some (.object "com/example/delehat/delehat/protocols/epp/ResultCode")) :: ws) ({ frames := 0, cells := 0, slots := 0, locals := 0 } : Room)) (fun a U => a = #[(.int (14 : Int32))] ∧ Z.Warmed39 U.vm ∧ U.heap = h0) (fun _ _ _ _ _ => True) (fun _ U o U' => ∃ v L, o = .returned v ∧ Q1_15 Z a1 h0 n0 v U'.heap L ∧ FrameEnd U o U' L ({ frames := 0, cells := 0, slots := 0, locals := 0 } : Room).cells ({ frames := 0, cells := 0, slots := 0, locals := 0 } : Room).slots) := by
  refine MetFree.of_bodySF (plainFor_of_name pn_com_example_delehat_delehat_protocols_epp_PayloadOfPinLaw) hisR ?_
  intro p e s m args below meth c s₁ Bd hml0 hP hK
  obtain ⟨rfl, hZ, hh⟩ := hP
  have hx := Bd.exec
  have hby := Bd.bytes
  have hml : c.maxLocals = 1 := hml0
  have hown : s.vm.findClass "com/example/delehat/delehat/protocols/epp/PayloadOfPinLaw" = some m.cls := findClass_of_methodNamed Bd.named
  have hnm := (name_of_methodNamed Bd.named Bd.method).1
  have X0 : Stand p l e ({ frames := 0, cells := 0, slots := 0, locals := 0 } : Room) s m #[(.int (14 : Int32))] below meth c s₁ [] 0 0 := Stand.of_body Bd
  have e0 : s₁.heap = h0 := by rw [← hh, Bd.state]; rfl
  have N0 := Fr.nil n0
  have pre0 : ∀ t, Steps p.tables e below (s₁.setTop (mkF m 0 #[.val (.int (14 : Int32))] [])) t → Steps p.tables e below (s₁.setTop (entryFrame m #[(.int (14 : Int32))] 1)) t := fun t k => castTop (ef1_15 m) k
  obtain ⟨T1, X1, e1, st1⟩ := getS2 X0 hx hZ hown (host := "") (Or.inl (own_w97 hw)) Via.refl e0 S_ResultCode_OBJECT_NOT_ELIGIBLE_FOR_TRANSFER (g := (mkF m 139 #[.val (.int (14 : Int32))] [])) rfl (hb hby d1_139)
  obtain ⟨fs, hr, hrun, hended, hW, hsame⟩ := X1.leave (v := some (.ref a1)) (fun h => by rw [Bd.returns] at h; cases h)
  refine ⟨_, _, pre0 _ ?_, hrun, hended, _, _, rfl, ?_, ⟨_, rfl⟩, hW, hsame.mono (by decide) (by decide)⟩
  · show Steps p.tables e below (s₁.setTop (mkF m 0 #[.val (.int (14 : Int32))] [])) _
    refine XS.iloadN X0.here hx rfl (hb hby d1_0) rfl ?_
    show Steps p.tables e below (s₁.setTop (mkF m 1 #[.val (.int (14 : Int32))] [(.int (14 : Int32))])) _
    refine XS.ifYes X0.here hx rfl (pc0 := 1) (pc' := 8) rfl (hb hby d1_1) rfl ((if0 _ _).trans (feq (by decide : ¬ ((14 : Int32) = (0 : Int32)))).2) (by decide) (by decide) ?_
    show Steps p.tables e below (s₁.setTop (mkF m 8 #[.val (.int (14 : Int32))] [])) _
    refine XS.iloadN X0.here hx rfl (hb hby d1_8) rfl ?_
    show Steps p.tables e below (s₁.setTop (mkF m 9 #[.val (.int (14 : Int32))] [(.int (14 : Int32))])) _
    refine XS.iconst X0.here hx rfl (hb hby d1_9) ?_
    show Steps p.tables e below (s₁.setTop (mkF m 10 #[.val (.int (14 : Int32))] [(.int (1 : Int32)), (.int (14 : Int32))])) _
    refine XS.icmpYes X0.here hx rfl (pc0 := 10) (pc' := 17) rfl (hb hby d1_10) rfl (feq (by decide : ¬ ((14 : Int32) = (1 : Int32)))).2 (by decide) (by decide) ?_
    show Steps p.tables e below (s₁.setTop (mkF m 17 #[.val (.int (14 : Int32))] [])) _
    refine XS.iloadN X0.here hx rfl (hb hby d1_17) rfl ?_
    show Steps p.tables e below (s₁.setTop (mkF m 18 #[.val (.int (14 : Int32))] [(.int (14 : Int32))])) _
    refine XS.iconst X0.here hx rfl (hb hby d1_18) ?_
    show Steps p.tables e below (s₁.setTop (mkF m 19 #[.val (.int (14 : Int32))] [(.int (2 : Int32)), (.int (14 : Int32))])) _
    refine XS.icmpYes X0.here hx rfl (pc0 := 19) (pc' := 26) rfl (hb hby d1_19) rfl (feq (by decide : ¬ ((14 : Int32) = (2 : Int32)))).2 (by decide) (by decide) ?_
    show Steps p.tables e below (s₁.setTop (mkF m 26 #[.val (.int (14 : Int32))] [])) _
    refine XS.iloadN X0.here hx rfl (hb hby d1_26) rfl ?_
    show Steps p.tables e below (s₁.setTop (mkF m 27 #[.val (.int (14 : Int32))] [(.int (14 : Int32))])) _
    refine XS.iconst X0.here hx rfl (hb hby d1_27) ?_
    show Steps p.tables e below (s₁.setTop (mkF m 28 #[.val (.int (14 : Int32))] [(.int (3 : Int32)), (.int (14 : Int32))])) _
    refine XS.icmpYes X0.here hx rfl (pc0 := 28) (pc' := 35) rfl (hb hby d1_28) rfl (feq (by decide : ¬ ((14 : Int32) = (3 : Int32)))).2 (by decide) (by decide) ?_
    show Steps p.tables e below (s₁.setTop (mkF m 35 #[.val (.int (14 : Int32))] [])) _
    refine XS.iloadN X0.here hx rfl (hb hby d1_35) rfl ?_
    show Steps p.tables e below (s₁.setTop (mkF m 36 #[.val (.int (14 : Int32))] [(.int (14 : Int32))])) _
    refine XS.iconst X0.here hx rfl (hb hby d1_36) ?_
    show Steps p.tables e below (s₁.setTop (mkF m 37 #[.val (.int (14 : Int32))] [(.int (4 : Int32)), (.int (14 : Int32))])) _
    refine XS.icmpYes X0.here hx rfl (pc0 := 37) (pc' := 44) rfl (hb hby d1_37) rfl (feq (by decide : ¬ ((14 : Int32) = (4 : Int32)))).2 (by decide) (by decide) ?_
    show Steps p.tables e below (s₁.setTop (mkF m 44 #[.val (.int (14 : Int32))] [])) _
    refine XS.iloadN X0.here hx rfl (hb hby d1_44) rfl ?_
    show Steps p.tables e below (s₁.setTop (mkF m 45 #[.val (.int (14 : Int32))] [(.int (14 : Int32))])) _
    refine XS.iconst X0.here hx rfl (hb hby d1_45) ?_
    show Steps p.tables e below (s₁.setTop (mkF m 46 #[.val (.int (14 : Int32))] [(.int (5 : Int32)), (.int (14 : Int32))])) _
    refine XS.icmpYes X0.here hx rfl (pc0 := 46) (pc' := 53) rfl (hb hby d1_46) rfl (feq (by decide : ¬ ((14 : Int32) = (5 : Int32)))).2 (by decide) (by decide) ?_
    show Steps p.tables e below (s₁.setTop (mkF m 53 #[.val (.int (14 : Int32))] [])) _
    refine XS.iloadN X0.here hx rfl (hb hby d1_53) rfl ?_
    show Steps p.tables e below (s₁.setTop (mkF m 54 #[.val (.int (14 : Int32))] [(.int (14 : Int32))])) _
    refine XS.bipush X0.here hx rfl (hb hby d1_54) ?_
    show Steps p.tables e below (s₁.setTop (mkF m 56 #[.val (.int (14 : Int32))] [(.int (6 : Int32)), (.int (14 : Int32))])) _
    refine XS.icmpYes X0.here hx rfl (pc0 := 56) (pc' := 63) rfl (hb hby d1_56) rfl (feq (by decide : ¬ ((14 : Int32) = (6 : Int32)))).2 (by decide) (by decide) ?_
    show Steps p.tables e below (s₁.setTop (mkF m 63 #[.val (.int (14 : Int32))] [])) _
    refine XS.iloadN X0.here hx rfl (hb hby d1_63) rfl ?_
    show Steps p.tables e below (s₁.setTop (mkF m 64 #[.val (.int (14 : Int32))] [(.int (14 : Int32))])) _
    refine XS.bipush X0.here hx rfl (hb hby d1_64) ?_
    show Steps p.tables e below (s₁.setTop (mkF m 66 #[.val (.int (14 : Int32))] [(.int (7 : Int32)), (.int (14 : Int32))])) _
    refine XS.icmpYes X0.here hx rfl (pc0 := 66) (pc' := 73) rfl (hb hby d1_66) rfl (feq (by decide : ¬ ((14 : Int32) = (7 : Int32)))).2 (by decide) (by decide) ?_
    show Steps p.tables e below (s₁.setTop (mkF m 73 #[.val (.int (14 : Int32))] [])) _
    refine XS.iloadN X0.here hx rfl (hb hby d1_73) rfl ?_
    show Steps p.tables e below (s₁.setTop (mkF m 74 #[.val (.int (14 : Int32))] [(.int (14 : Int32))])) _
    refine XS.bipush X0.here hx rfl (hb hby d1_74) ?_
    show Steps p.tables e below (s₁.setTop (mkF m 76 #[.val (.int (14 : Int32))] [(.int (8 : Int32)), (.int (14 : Int32))])) _
    refine XS.icmpYes X0.here hx rfl (pc0 := 76) (pc' := 83) rfl (hb hby d1_76) rfl (feq (by decide : ¬ ((14 : Int32) = (8 : Int32)))).2 (by decide) (by decide) ?_
    show Steps p.tables e below (s₁.setTop (mkF m 83 #[.val (.int (14 : Int32))] [])) _
    refine XS.iloadN X0.here hx rfl (hb hby d1_83) rfl ?_
    show Steps p.tables e below (s₁.setTop (mkF m 84 #[.val (.int (14 : Int32))] [(.int (14 : Int32))])) _
    refine XS.bipush X0.here hx rfl (hb hby d1_84) ?_
    show Steps p.tables e below (s₁.setTop (mkF m 86 #[.val (.int (14 : Int32))] [(.int (9 : Int32)), (.int (14 : Int32))])) _
    refine XS.icmpYes X0.here hx rfl (pc0 := 86) (pc' := 93) rfl (hb hby d1_86) rfl (feq (by decide : ¬ ((14 : Int32) = (9 : Int32)))).2 (by decide) (by decide) ?_
    show Steps p.tables e below (s₁.setTop (mkF m 93 #[.val (.int (14 : Int32))] [])) _
    refine XS.iloadN X0.here hx rfl (hb hby d1_93) rfl ?_
    show Steps p.tables e below (s₁.setTop (mkF m 94 #[.val (.int (14 : Int32))] [(.int (14 : Int32))])) _
    refine XS.bipush X0.here hx rfl (hb hby d1_94) ?_
    show Steps p.tables e below (s₁.setTop (mkF m 96 #[.val (.int (14 : Int32))] [(.int (10 : Int32)), (.int (14 : Int32))])) _
    refine XS.icmpYes X0.here hx rfl (pc0 := 96) (pc' := 103) rfl (hb hby d1_96) rfl (feq (by decide : ¬ ((14 : Int32) = (10 : Int32)))).2 (by decide) (by decide) ?_
    show Steps p.tables e below (s₁.setTop (mkF m 103 #[.val (.int (14 : Int32))] [])) _
    refine XS.iloadN X0.here hx rfl (hb hby d1_103) rfl ?_
    show Steps p.tables e below (s₁.setTop (mkF m 104 #[.val (.int (14 : Int32))] [(.int (14 : Int32))])) _
    refine XS.bipush X0.here hx rfl (hb hby d1_104) ?_
    show Steps p.tables e below (s₁.setTop (mkF m 106 #[.val (.int (14 : Int32))] [(.int (11 : Int32)), (.int (14 : Int32))])) _
    refine XS.icmpYes X0.here hx rfl (pc0 := 106) (pc' := 113) rfl (hb hby d1_106) rfl (feq (by decide : ¬ ((14 : Int32) = (11 : Int32)))).2 (by decide) (by decide) ?_
    show Steps p.tables e below (s₁.setTop (mkF m 113 #[.val (.int (14 : Int32))] [])) _
    refine XS.iloadN X0.here hx rfl (hb hby d1_113) rfl ?_
    show Steps p.tables e below (s₁.setTop (mkF m 114 #[.val (.int (14 : Int32))] [(.int (14 : Int32))])) _
    refine XS.bipush X0.here hx rfl (hb hby d1_114) ?_
    show Steps p.tables e below (s₁.setTop (mkF m 116 #[.val (.int (14 : Int32))] [(.int (12 : Int32)), (.int (14 : Int32))])) _
    refine XS.icmpYes X0.here hx rfl (pc0 := 116) (pc' := 123) rfl (hb hby d1_116) rfl (feq (by decide : ¬ ((14 : Int32) = (12 : Int32)))).2 (by decide) (by decide) ?_
    show Steps p.tables e below (s₁.setTop (mkF m 123 #[.val (.int (14 : Int32))] [])) _
    refine XS.iloadN X0.here hx rfl (hb hby d1_123) rfl ?_
    show Steps p.tables e below (s₁.setTop (mkF m 124 #[.val (.int (14 : Int32))] [(.int (14 : Int32))])) _
    refine XS.bipush X0.here hx rfl (hb hby d1_124) ?_
    show Steps p.tables e below (s₁.setTop (mkF m 126 #[.val (.int (14 : Int32))] [(.int (13 : Int32)), (.int (14 : Int32))])) _
    refine XS.icmpYes X0.here hx rfl (pc0 := 126) (pc' := 133) rfl (hb hby d1_126) rfl (feq (by decide : ¬ ((14 : Int32) = (13 : Int32)))).2 (by decide) (by decide) ?_
    show Steps p.tables e below (s₁.setTop (mkF m 133 #[.val (.int (14 : Int32))] [])) _
    refine XS.iloadN X0.here hx rfl (hb hby d1_133) rfl ?_
    show Steps p.tables e below (s₁.setTop (mkF m 134 #[.val (.int (14 : Int32))] [(.int (14 : Int32))])) _
    refine XS.bipush X0.here hx rfl (hb hby d1_134) ?_
    show Steps p.tables e below (s₁.setTop (mkF m 136 #[.val (.int (14 : Int32))] [(.int (14 : Int32)), (.int (14 : Int32))])) _
    refine XS.icmpNo X0.here hx rfl (hb hby d1_136) rfl (teq (by decide : (14 : Int32) = (14 : Int32))).2 ?_
    show Steps p.tables e below (s₁.setTop (mkF m 139 #[.val (.int (14 : Int32))] [])) _
    refine st1 _ ?_
    show Steps p.tables e below (T1.setTop (mkF m 142 #[.val (.int (14 : Int32))] [(.ref a1)])) _
    exact retOut X1 hx Bd.returns rfl (Or.inr (Or.inr (Or.inr (Or.inr ⟨rfl, rfl, rfl⟩)))) (hb hby d1_142) hr
  · show Q1_15 Z a1 h0 n0 _ T1.heap _
    rw [e1]
    exact ⟨rfl, N0, rfl⟩
theorem ef1_16 (m : MethodId) : entryFrame m #[(.int (15 : Int32))] 1 = mkF m 0 #[.val (.int (15 : Int32))] [] := by first | (simp [entryFrame, mkF, argsToLocals, Value.category]; done) | rfl
def Q1_16 (Z : State) (a1 : Addr) (h0 : Heap) (n0 : Nat) (v : Option Value) (h : Heap) (L : List Loc) : Prop := v = some (.ref a1) ∧ Fr n0 L ∧ h = h0
set_option maxRecDepth 65536 in
set_option maxHeartbeats 40000000 in
theorem rm1_16 (l : Launch) (Z : State) (a0 : Array Value) (hw : ∀ d ∈ tables_1, d.before a0 Z = true) (ws : List Jvm.Cond) (a1 : Addr) (h0 : Heap) (n0 : Nat) (Z0 : n0 ≤ h0.size) (S_ResultCode_AUTHENTICATION_ERROR : Sta Z h0 "com/example/delehat/delehat/protocols/epp/ResultCode" "AUTHENTICATION_ERROR" "Lcom/example/delehat/delehat/protocols/epp/ResultCode;" (.ref a1)) :
    MetFree l (⟨"com/example/delehat/delehat/protocols/epp/PayloadOfPinLaw", "pick", "(I)Lcom/example/delehat/delehat/protocols/epp/ResultCode;"⟩ : MethodName) (head1 (Jvm.Cond.code (⟨"com/example/delehat/delehat/protocols/epp/PayloadOfPinLaw", "pick", "(I)Lcom/example/delehat/delehat/protocols/epp/ResultCode;"⟩ : MethodName) method_2_code 1 (some (.object "com/example/delehat/delehat/protocols/epp/ResultCode")) :: ws) ({ frames := 0, cells := 0, slots := 0, locals := 0 } : Room)) (fun a U => a = #[(.int (15 : Int32))] ∧ Z.Warmed39 U.vm ∧ U.heap = h0) (fun _ _ _ _ _ => True) (fun _ U o U' => ∃ v L, o = .returned v ∧ Q1_16 Z a1 h0 n0 v U'.heap L ∧ FrameEnd U o U' L ({ frames := 0, cells := 0, slots := 0, locals := 0 } : Room).cells ({ frames := 0, cells := 0, slots := 0, locals := 0 } : Room).slots) := by
  refine MetFree.of_bodySF (plainFor_of_name pn_com_example_delehat_delehat_protocols_epp_PayloadOfPinLaw) hisR ?_
  intro p e s m args below meth c s₁ Bd hml0 hP hK
  obtain ⟨rfl, hZ, hh⟩ := hP
  have hx := Bd.exec
  have hby := Bd.bytes
  have hml : c.maxLocals = 1 := hml0
  have hown : s.vm.findClass "com/example/delehat/delehat/protocols/epp/PayloadOfPinLaw" = some m.cls := findClass_of_methodNamed Bd.named
  have hnm := (name_of_methodNamed Bd.named Bd.method).1
  have X0 : Stand p l e ({ frames := 0, cells := 0, slots := 0, locals := 0 } : Room) s m #[(.int (15 : Int32))] below meth c s₁ [] 0 0 := Stand.of_body Bd
  have e0 : s₁.heap = h0 := by rw [← hh, Bd.state]; rfl
  have N0 := Fr.nil n0
  have pre0 : ∀ t, Steps p.tables e below (s₁.setTop (mkF m 0 #[.val (.int (15 : Int32))] [])) t → Steps p.tables e below (s₁.setTop (entryFrame m #[(.int (15 : Int32))] 1)) t := fun t k => castTop (ef1_16 m) k
  obtain ⟨T1, X1, e1, st1⟩ := getS2 X0 hx hZ hown (host := "") (Or.inl (own_w81 hw)) Via.refl e0 S_ResultCode_AUTHENTICATION_ERROR (g := (mkF m 149 #[.val (.int (15 : Int32))] [])) rfl (hb hby d1_149)
  obtain ⟨fs, hr, hrun, hended, hW, hsame⟩ := X1.leave (v := some (.ref a1)) (fun h => by rw [Bd.returns] at h; cases h)
  refine ⟨_, _, pre0 _ ?_, hrun, hended, _, _, rfl, ?_, ⟨_, rfl⟩, hW, hsame.mono (by decide) (by decide)⟩
  · show Steps p.tables e below (s₁.setTop (mkF m 0 #[.val (.int (15 : Int32))] [])) _
    refine XS.iloadN X0.here hx rfl (hb hby d1_0) rfl ?_
    show Steps p.tables e below (s₁.setTop (mkF m 1 #[.val (.int (15 : Int32))] [(.int (15 : Int32))])) _
    refine XS.ifYes X0.here hx rfl (pc0 := 1) (pc' := 8) rfl (hb hby d1_1) rfl ((if0 _ _).trans (feq (by decide : ¬ ((15 : Int32) = (0 : Int32)))).2) (by decide) (by decide) ?_
    show Steps p.tables e below (s₁.setTop (mkF m 8 #[.val (.int (15 : Int32))] [])) _
    refine XS.iloadN X0.here hx rfl (hb hby d1_8) rfl ?_
    show Steps p.tables e below (s₁.setTop (mkF m 9 #[.val (.int (15 : Int32))] [(.int (15 : Int32))])) _
    refine XS.iconst X0.here hx rfl (hb hby d1_9) ?_
    show Steps p.tables e below (s₁.setTop (mkF m 10 #[.val (.int (15 : Int32))] [(.int (1 : Int32)), (.int (15 : Int32))])) _
    refine XS.icmpYes X0.here hx rfl (pc0 := 10) (pc' := 17) rfl (hb hby d1_10) rfl (feq (by decide : ¬ ((15 : Int32) = (1 : Int32)))).2 (by decide) (by decide) ?_
    show Steps p.tables e below (s₁.setTop (mkF m 17 #[.val (.int (15 : Int32))] [])) _
    refine XS.iloadN X0.here hx rfl (hb hby d1_17) rfl ?_
    show Steps p.tables e below (s₁.setTop (mkF m 18 #[.val (.int (15 : Int32))] [(.int (15 : Int32))])) _
    refine XS.iconst X0.here hx rfl (hb hby d1_18) ?_
    show Steps p.tables e below (s₁.setTop (mkF m 19 #[.val (.int (15 : Int32))] [(.int (2 : Int32)), (.int (15 : Int32))])) _
    refine XS.icmpYes X0.here hx rfl (pc0 := 19) (pc' := 26) rfl (hb hby d1_19) rfl (feq (by decide : ¬ ((15 : Int32) = (2 : Int32)))).2 (by decide) (by decide) ?_
    show Steps p.tables e below (s₁.setTop (mkF m 26 #[.val (.int (15 : Int32))] [])) _
    refine XS.iloadN X0.here hx rfl (hb hby d1_26) rfl ?_
    show Steps p.tables e below (s₁.setTop (mkF m 27 #[.val (.int (15 : Int32))] [(.int (15 : Int32))])) _
    refine XS.iconst X0.here hx rfl (hb hby d1_27) ?_
    show Steps p.tables e below (s₁.setTop (mkF m 28 #[.val (.int (15 : Int32))] [(.int (3 : Int32)), (.int (15 : Int32))])) _
    refine XS.icmpYes X0.here hx rfl (pc0 := 28) (pc' := 35) rfl (hb hby d1_28) rfl (feq (by decide : ¬ ((15 : Int32) = (3 : Int32)))).2 (by decide) (by decide) ?_
    show Steps p.tables e below (s₁.setTop (mkF m 35 #[.val (.int (15 : Int32))] [])) _
    refine XS.iloadN X0.here hx rfl (hb hby d1_35) rfl ?_
    show Steps p.tables e below (s₁.setTop (mkF m 36 #[.val (.int (15 : Int32))] [(.int (15 : Int32))])) _
    refine XS.iconst X0.here hx rfl (hb hby d1_36) ?_
    show Steps p.tables e below (s₁.setTop (mkF m 37 #[.val (.int (15 : Int32))] [(.int (4 : Int32)), (.int (15 : Int32))])) _
    refine XS.icmpYes X0.here hx rfl (pc0 := 37) (pc' := 44) rfl (hb hby d1_37) rfl (feq (by decide : ¬ ((15 : Int32) = (4 : Int32)))).2 (by decide) (by decide) ?_
    show Steps p.tables e below (s₁.setTop (mkF m 44 #[.val (.int (15 : Int32))] [])) _
    refine XS.iloadN X0.here hx rfl (hb hby d1_44) rfl ?_
    show Steps p.tables e below (s₁.setTop (mkF m 45 #[.val (.int (15 : Int32))] [(.int (15 : Int32))])) _
    refine XS.iconst X0.here hx rfl (hb hby d1_45) ?_
    show Steps p.tables e below (s₁.setTop (mkF m 46 #[.val (.int (15 : Int32))] [(.int (5 : Int32)), (.int (15 : Int32))])) _
    refine XS.icmpYes X0.here hx rfl (pc0 := 46) (pc' := 53) rfl (hb hby d1_46) rfl (feq (by decide : ¬ ((15 : Int32) = (5 : Int32)))).2 (by decide) (by decide) ?_
    show Steps p.tables e below (s₁.setTop (mkF m 53 #[.val (.int (15 : Int32))] [])) _
    refine XS.iloadN X0.here hx rfl (hb hby d1_53) rfl ?_
    show Steps p.tables e below (s₁.setTop (mkF m 54 #[.val (.int (15 : Int32))] [(.int (15 : Int32))])) _
    refine XS.bipush X0.here hx rfl (hb hby d1_54) ?_
    show Steps p.tables e below (s₁.setTop (mkF m 56 #[.val (.int (15 : Int32))] [(.int (6 : Int32)), (.int (15 : Int32))])) _
    refine XS.icmpYes X0.here hx rfl (pc0 := 56) (pc' := 63) rfl (hb hby d1_56) rfl (feq (by decide : ¬ ((15 : Int32) = (6 : Int32)))).2 (by decide) (by decide) ?_
    show Steps p.tables e below (s₁.setTop (mkF m 63 #[.val (.int (15 : Int32))] [])) _
    refine XS.iloadN X0.here hx rfl (hb hby d1_63) rfl ?_
    show Steps p.tables e below (s₁.setTop (mkF m 64 #[.val (.int (15 : Int32))] [(.int (15 : Int32))])) _
    refine XS.bipush X0.here hx rfl (hb hby d1_64) ?_
    show Steps p.tables e below (s₁.setTop (mkF m 66 #[.val (.int (15 : Int32))] [(.int (7 : Int32)), (.int (15 : Int32))])) _
    refine XS.icmpYes X0.here hx rfl (pc0 := 66) (pc' := 73) rfl (hb hby d1_66) rfl (feq (by decide : ¬ ((15 : Int32) = (7 : Int32)))).2 (by decide) (by decide) ?_
    show Steps p.tables e below (s₁.setTop (mkF m 73 #[.val (.int (15 : Int32))] [])) _
    refine XS.iloadN X0.here hx rfl (hb hby d1_73) rfl ?_
    show Steps p.tables e below (s₁.setTop (mkF m 74 #[.val (.int (15 : Int32))] [(.int (15 : Int32))])) _
    refine XS.bipush X0.here hx rfl (hb hby d1_74) ?_
    show Steps p.tables e below (s₁.setTop (mkF m 76 #[.val (.int (15 : Int32))] [(.int (8 : Int32)), (.int (15 : Int32))])) _
    refine XS.icmpYes X0.here hx rfl (pc0 := 76) (pc' := 83) rfl (hb hby d1_76) rfl (feq (by decide : ¬ ((15 : Int32) = (8 : Int32)))).2 (by decide) (by decide) ?_
    show Steps p.tables e below (s₁.setTop (mkF m 83 #[.val (.int (15 : Int32))] [])) _
    refine XS.iloadN X0.here hx rfl (hb hby d1_83) rfl ?_
    show Steps p.tables e below (s₁.setTop (mkF m 84 #[.val (.int (15 : Int32))] [(.int (15 : Int32))])) _
    refine XS.bipush X0.here hx rfl (hb hby d1_84) ?_
    show Steps p.tables e below (s₁.setTop (mkF m 86 #[.val (.int (15 : Int32))] [(.int (9 : Int32)), (.int (15 : Int32))])) _
    refine XS.icmpYes X0.here hx rfl (pc0 := 86) (pc' := 93) rfl (hb hby d1_86) rfl (feq (by decide : ¬ ((15 : Int32) = (9 : Int32)))).2 (by decide) (by decide) ?_
    show Steps p.tables e below (s₁.setTop (mkF m 93 #[.val (.int (15 : Int32))] [])) _
    refine XS.iloadN X0.here hx rfl (hb hby d1_93) rfl ?_
    show Steps p.tables e below (s₁.setTop (mkF m 94 #[.val (.int (15 : Int32))] [(.int (15 : Int32))])) _
    refine XS.bipush X0.here hx rfl (hb hby d1_94) ?_
    show Steps p.tables e below (s₁.setTop (mkF m 96 #[.val (.int (15 : Int32))] [(.int (10 : Int32)), (.int (15 : Int32))])) _
    refine XS.icmpYes X0.here hx rfl (pc0 := 96) (pc' := 103) rfl (hb hby d1_96) rfl (feq (by decide : ¬ ((15 : Int32) = (10 : Int32)))).2 (by decide) (by decide) ?_
    show Steps p.tables e below (s₁.setTop (mkF m 103 #[.val (.int (15 : Int32))] [])) _
    refine XS.iloadN X0.here hx rfl (hb hby d1_103) rfl ?_
    show Steps p.tables e below (s₁.setTop (mkF m 104 #[.val (.int (15 : Int32))] [(.int (15 : Int32))])) _
    refine XS.bipush X0.here hx rfl (hb hby d1_104) ?_
    show Steps p.tables e below (s₁.setTop (mkF m 106 #[.val (.int (15 : Int32))] [(.int (11 : Int32)), (.int (15 : Int32))])) _
    refine XS.icmpYes X0.here hx rfl (pc0 := 106) (pc' := 113) rfl (hb hby d1_106) rfl (feq (by decide : ¬ ((15 : Int32) = (11 : Int32)))).2 (by decide) (by decide) ?_
    show Steps p.tables e below (s₁.setTop (mkF m 113 #[.val (.int (15 : Int32))] [])) _
    refine XS.iloadN X0.here hx rfl (hb hby d1_113) rfl ?_
    show Steps p.tables e below (s₁.setTop (mkF m 114 #[.val (.int (15 : Int32))] [(.int (15 : Int32))])) _
    refine XS.bipush X0.here hx rfl (hb hby d1_114) ?_
    show Steps p.tables e below (s₁.setTop (mkF m 116 #[.val (.int (15 : Int32))] [(.int (12 : Int32)), (.int (15 : Int32))])) _
    refine XS.icmpYes X0.here hx rfl (pc0 := 116) (pc' := 123) rfl (hb hby d1_116) rfl (feq (by decide : ¬ ((15 : Int32) = (12 : Int32)))).2 (by decide) (by decide) ?_
    show Steps p.tables e below (s₁.setTop (mkF m 123 #[.val (.int (15 : Int32))] [])) _
    refine XS.iloadN X0.here hx rfl (hb hby d1_123) rfl ?_
    show Steps p.tables e below (s₁.setTop (mkF m 124 #[.val (.int (15 : Int32))] [(.int (15 : Int32))])) _
    refine XS.bipush X0.here hx rfl (hb hby d1_124) ?_
    show Steps p.tables e below (s₁.setTop (mkF m 126 #[.val (.int (15 : Int32))] [(.int (13 : Int32)), (.int (15 : Int32))])) _
    refine XS.icmpYes X0.here hx rfl (pc0 := 126) (pc' := 133) rfl (hb hby d1_126) rfl (feq (by decide : ¬ ((15 : Int32) = (13 : Int32)))).2 (by decide) (by decide) ?_
    show Steps p.tables e below (s₁.setTop (mkF m 133 #[.val (.int (15 : Int32))] [])) _
    refine XS.iloadN X0.here hx rfl (hb hby d1_133) rfl ?_
    show Steps p.tables e below (s₁.setTop (mkF m 134 #[.val (.int (15 : Int32))] [(.int (15 : Int32))])) _
    refine XS.bipush X0.here hx rfl (hb hby d1_134) ?_
    show Steps p.tables e below (s₁.setTop (mkF m 136 #[.val (.int (15 : Int32))] [(.int (14 : Int32)), (.int (15 : Int32))])) _
    refine XS.icmpYes X0.here hx rfl (pc0 := 136) (pc' := 143) rfl (hb hby d1_136) rfl (feq (by decide : ¬ ((15 : Int32) = (14 : Int32)))).2 (by decide) (by decide) ?_
    show Steps p.tables e below (s₁.setTop (mkF m 143 #[.val (.int (15 : Int32))] [])) _
    refine XS.iloadN X0.here hx rfl (hb hby d1_143) rfl ?_
    show Steps p.tables e below (s₁.setTop (mkF m 144 #[.val (.int (15 : Int32))] [(.int (15 : Int32))])) _
    refine XS.bipush X0.here hx rfl (hb hby d1_144) ?_
    show Steps p.tables e below (s₁.setTop (mkF m 146 #[.val (.int (15 : Int32))] [(.int (15 : Int32)), (.int (15 : Int32))])) _
    refine XS.icmpNo X0.here hx rfl (hb hby d1_146) rfl (teq (by decide : (15 : Int32) = (15 : Int32))).2 ?_
    show Steps p.tables e below (s₁.setTop (mkF m 149 #[.val (.int (15 : Int32))] [])) _
    refine st1 _ ?_
    show Steps p.tables e below (T1.setTop (mkF m 152 #[.val (.int (15 : Int32))] [(.ref a1)])) _
    exact retOut X1 hx Bd.returns rfl (Or.inr (Or.inr (Or.inr (Or.inr ⟨rfl, rfl, rfl⟩)))) (hb hby d1_152) hr
  · show Q1_16 Z a1 h0 n0 _ T1.heap _
    rw [e1]
    exact ⟨rfl, N0, rfl⟩
theorem ef1_17 (m : MethodId) : entryFrame m #[(.int (16 : Int32))] 1 = mkF m 0 #[.val (.int (16 : Int32))] [] := by first | (simp [entryFrame, mkF, argsToLocals, Value.category]; done) | rfl
def Q1_17 (Z : State) (a1 : Addr) (h0 : Heap) (n0 : Nat) (v : Option Value) (h : Heap) (L : List Loc) : Prop := v = some (.ref a1) ∧ Fr n0 L ∧ h = h0
set_option maxRecDepth 65536 in
set_option maxHeartbeats 40000000 in
theorem rm1_17 (l : Launch) (Z : State) (a0 : Array Value) (hw : ∀ d ∈ tables_1, d.before a0 Z = true) (ws : List Jvm.Cond) (a1 : Addr) (h0 : Heap) (n0 : Nat) (Z0 : n0 ≤ h0.size) (S_ResultCode_AUTHORIZATION_ERROR : Sta Z h0 "com/example/delehat/delehat/protocols/epp/ResultCode" "AUTHORIZATION_ERROR" "Lcom/example/delehat/delehat/protocols/epp/ResultCode;" (.ref a1)) :
    MetFree l (⟨"com/example/delehat/delehat/protocols/epp/PayloadOfPinLaw", "pick", "(I)Lcom/example/delehat/delehat/protocols/epp/ResultCode;"⟩ : MethodName) (head1 (Jvm.Cond.code (⟨"com/example/delehat/delehat/protocols/epp/PayloadOfPinLaw", "pick", "(I)Lcom/example/delehat/delehat/protocols/epp/ResultCode;"⟩ : MethodName) method_2_code 1 (some (.object "com/example/delehat/delehat/protocols/epp/ResultCode")) :: ws) ({ frames := 0, cells := 0, slots := 0, locals := 0 } : Room)) (fun a U => a = #[(.int (16 : Int32))] ∧ Z.Warmed39 U.vm ∧ U.heap = h0) (fun _ _ _ _ _ => True) (fun _ U o U' => ∃ v L, o = .returned v ∧ Q1_17 Z a1 h0 n0 v U'.heap L ∧ FrameEnd U o U' L ({ frames := 0, cells := 0, slots := 0, locals := 0 } : Room).cells ({ frames := 0, cells := 0, slots := 0, locals := 0 } : Room).slots) := by
  refine MetFree.of_bodySF (plainFor_of_name pn_com_example_delehat_delehat_protocols_epp_PayloadOfPinLaw) hisR ?_
  intro p e s m args below meth c s₁ Bd hml0 hP hK
  obtain ⟨rfl, hZ, hh⟩ := hP
  have hx := Bd.exec
  have hby := Bd.bytes
  have hml : c.maxLocals = 1 := hml0
  have hown : s.vm.findClass "com/example/delehat/delehat/protocols/epp/PayloadOfPinLaw" = some m.cls := findClass_of_methodNamed Bd.named
  have hnm := (name_of_methodNamed Bd.named Bd.method).1
  have X0 : Stand p l e ({ frames := 0, cells := 0, slots := 0, locals := 0 } : Room) s m #[(.int (16 : Int32))] below meth c s₁ [] 0 0 := Stand.of_body Bd
  have e0 : s₁.heap = h0 := by rw [← hh, Bd.state]; rfl
  have N0 := Fr.nil n0
  have pre0 : ∀ t, Steps p.tables e below (s₁.setTop (mkF m 0 #[.val (.int (16 : Int32))] [])) t → Steps p.tables e below (s₁.setTop (entryFrame m #[(.int (16 : Int32))] 1)) t := fun t k => castTop (ef1_17 m) k
  obtain ⟨T1, X1, e1, st1⟩ := getS2 X0 hx hZ hown (host := "") (Or.inl (own_w79 hw)) Via.refl e0 S_ResultCode_AUTHORIZATION_ERROR (g := (mkF m 159 #[.val (.int (16 : Int32))] [])) rfl (hb hby d1_159)
  obtain ⟨fs, hr, hrun, hended, hW, hsame⟩ := X1.leave (v := some (.ref a1)) (fun h => by rw [Bd.returns] at h; cases h)
  refine ⟨_, _, pre0 _ ?_, hrun, hended, _, _, rfl, ?_, ⟨_, rfl⟩, hW, hsame.mono (by decide) (by decide)⟩
  · show Steps p.tables e below (s₁.setTop (mkF m 0 #[.val (.int (16 : Int32))] [])) _
    refine XS.iloadN X0.here hx rfl (hb hby d1_0) rfl ?_
    show Steps p.tables e below (s₁.setTop (mkF m 1 #[.val (.int (16 : Int32))] [(.int (16 : Int32))])) _
    refine XS.ifYes X0.here hx rfl (pc0 := 1) (pc' := 8) rfl (hb hby d1_1) rfl ((if0 _ _).trans (feq (by decide : ¬ ((16 : Int32) = (0 : Int32)))).2) (by decide) (by decide) ?_
    show Steps p.tables e below (s₁.setTop (mkF m 8 #[.val (.int (16 : Int32))] [])) _
    refine XS.iloadN X0.here hx rfl (hb hby d1_8) rfl ?_
    show Steps p.tables e below (s₁.setTop (mkF m 9 #[.val (.int (16 : Int32))] [(.int (16 : Int32))])) _
    refine XS.iconst X0.here hx rfl (hb hby d1_9) ?_
    show Steps p.tables e below (s₁.setTop (mkF m 10 #[.val (.int (16 : Int32))] [(.int (1 : Int32)), (.int (16 : Int32))])) _
    refine XS.icmpYes X0.here hx rfl (pc0 := 10) (pc' := 17) rfl (hb hby d1_10) rfl (feq (by decide : ¬ ((16 : Int32) = (1 : Int32)))).2 (by decide) (by decide) ?_
    show Steps p.tables e below (s₁.setTop (mkF m 17 #[.val (.int (16 : Int32))] [])) _
    refine XS.iloadN X0.here hx rfl (hb hby d1_17) rfl ?_
    show Steps p.tables e below (s₁.setTop (mkF m 18 #[.val (.int (16 : Int32))] [(.int (16 : Int32))])) _
    refine XS.iconst X0.here hx rfl (hb hby d1_18) ?_
    show Steps p.tables e below (s₁.setTop (mkF m 19 #[.val (.int (16 : Int32))] [(.int (2 : Int32)), (.int (16 : Int32))])) _
    refine XS.icmpYes X0.here hx rfl (pc0 := 19) (pc' := 26) rfl (hb hby d1_19) rfl (feq (by decide : ¬ ((16 : Int32) = (2 : Int32)))).2 (by decide) (by decide) ?_
    show Steps p.tables e below (s₁.setTop (mkF m 26 #[.val (.int (16 : Int32))] [])) _
    refine XS.iloadN X0.here hx rfl (hb hby d1_26) rfl ?_
    show Steps p.tables e below (s₁.setTop (mkF m 27 #[.val (.int (16 : Int32))] [(.int (16 : Int32))])) _
    refine XS.iconst X0.here hx rfl (hb hby d1_27) ?_
    show Steps p.tables e below (s₁.setTop (mkF m 28 #[.val (.int (16 : Int32))] [(.int (3 : Int32)), (.int (16 : Int32))])) _
    refine XS.icmpYes X0.here hx rfl (pc0 := 28) (pc' := 35) rfl (hb hby d1_28) rfl (feq (by decide : ¬ ((16 : Int32) = (3 : Int32)))).2 (by decide) (by decide) ?_
    show Steps p.tables e below (s₁.setTop (mkF m 35 #[.val (.int (16 : Int32))] [])) _
    refine XS.iloadN X0.here hx rfl (hb hby d1_35) rfl ?_
    show Steps p.tables e below (s₁.setTop (mkF m 36 #[.val (.int (16 : Int32))] [(.int (16 : Int32))])) _
    refine XS.iconst X0.here hx rfl (hb hby d1_36) ?_
    show Steps p.tables e below (s₁.setTop (mkF m 37 #[.val (.int (16 : Int32))] [(.int (4 : Int32)), (.int (16 : Int32))])) _
    refine XS.icmpYes X0.here hx rfl (pc0 := 37) (pc' := 44) rfl (hb hby d1_37) rfl (feq (by decide : ¬ ((16 : Int32) = (4 : Int32)))).2 (by decide) (by decide) ?_
    show Steps p.tables e below (s₁.setTop (mkF m 44 #[.val (.int (16 : Int32))] [])) _
    refine XS.iloadN X0.here hx rfl (hb hby d1_44) rfl ?_
    show Steps p.tables e below (s₁.setTop (mkF m 45 #[.val (.int (16 : Int32))] [(.int (16 : Int32))])) _
    refine XS.iconst X0.here hx rfl (hb hby d1_45) ?_
    show Steps p.tables e below (s₁.setTop (mkF m 46 #[.val (.int (16 : Int32))] [(.int (5 : Int32)), (.int (16 : Int32))])) _
    refine XS.icmpYes X0.here hx rfl (pc0 := 46) (pc' := 53) rfl (hb hby d1_46) rfl (feq (by decide : ¬ ((16 : Int32) = (5 : Int32)))).2 (by decide) (by decide) ?_
    show Steps p.tables e below (s₁.setTop (mkF m 53 #[.val (.int (16 : Int32))] [])) _
    refine XS.iloadN X0.here hx rfl (hb hby d1_53) rfl ?_
    show Steps p.tables e below (s₁.setTop (mkF m 54 #[.val (.int (16 : Int32))] [(.int (16 : Int32))])) _
    refine XS.bipush X0.here hx rfl (hb hby d1_54) ?_
    show Steps p.tables e below (s₁.setTop (mkF m 56 #[.val (.int (16 : Int32))] [(.int (6 : Int32)), (.int (16 : Int32))])) _
    refine XS.icmpYes X0.here hx rfl (pc0 := 56) (pc' := 63) rfl (hb hby d1_56) rfl (feq (by decide : ¬ ((16 : Int32) = (6 : Int32)))).2 (by decide) (by decide) ?_
    show Steps p.tables e below (s₁.setTop (mkF m 63 #[.val (.int (16 : Int32))] [])) _
    refine XS.iloadN X0.here hx rfl (hb hby d1_63) rfl ?_
    show Steps p.tables e below (s₁.setTop (mkF m 64 #[.val (.int (16 : Int32))] [(.int (16 : Int32))])) _
    refine XS.bipush X0.here hx rfl (hb hby d1_64) ?_
    show Steps p.tables e below (s₁.setTop (mkF m 66 #[.val (.int (16 : Int32))] [(.int (7 : Int32)), (.int (16 : Int32))])) _
    refine XS.icmpYes X0.here hx rfl (pc0 := 66) (pc' := 73) rfl (hb hby d1_66) rfl (feq (by decide : ¬ ((16 : Int32) = (7 : Int32)))).2 (by decide) (by decide) ?_
    show Steps p.tables e below (s₁.setTop (mkF m 73 #[.val (.int (16 : Int32))] [])) _
    refine XS.iloadN X0.here hx rfl (hb hby d1_73) rfl ?_
    show Steps p.tables e below (s₁.setTop (mkF m 74 #[.val (.int (16 : Int32))] [(.int (16 : Int32))])) _
    refine XS.bipush X0.here hx rfl (hb hby d1_74) ?_
    show Steps p.tables e below (s₁.setTop (mkF m 76 #[.val (.int (16 : Int32))] [(.int (8 : Int32)), (.int (16 : Int32))])) _
    refine XS.icmpYes X0.here hx rfl (pc0 := 76) (pc' := 83) rfl (hb hby d1_76) rfl (feq (by decide : ¬ ((16 : Int32) = (8 : Int32)))).2 (by decide) (by decide) ?_
    show Steps p.tables e below (s₁.setTop (mkF m 83 #[.val (.int (16 : Int32))] [])) _
    refine XS.iloadN X0.here hx rfl (hb hby d1_83) rfl ?_
    show Steps p.tables e below (s₁.setTop (mkF m 84 #[.val (.int (16 : Int32))] [(.int (16 : Int32))])) _
    refine XS.bipush X0.here hx rfl (hb hby d1_84) ?_
    show Steps p.tables e below (s₁.setTop (mkF m 86 #[.val (.int (16 : Int32))] [(.int (9 : Int32)), (.int (16 : Int32))])) _
    refine XS.icmpYes X0.here hx rfl (pc0 := 86) (pc' := 93) rfl (hb hby d1_86) rfl (feq (by decide : ¬ ((16 : Int32) = (9 : Int32)))).2 (by decide) (by decide) ?_
    show Steps p.tables e below (s₁.setTop (mkF m 93 #[.val (.int (16 : Int32))] [])) _
    refine XS.iloadN X0.here hx rfl (hb hby d1_93) rfl ?_
    show Steps p.tables e below (s₁.setTop (mkF m 94 #[.val (.int (16 : Int32))] [(.int (16 : Int32))])) _
    refine XS.bipush X0.here hx rfl (hb hby d1_94) ?_
    show Steps p.tables e below (s₁.setTop (mkF m 96 #[.val (.int (16 : Int32))] [(.int (10 : Int32)), (.int (16 : Int32))])) _
    refine XS.icmpYes X0.here hx rfl (pc0 := 96) (pc' := 103) rfl (hb hby d1_96) rfl (feq (by decide : ¬ ((16 : Int32) = (10 : Int32)))).2 (by decide) (by decide) ?_
    show Steps p.tables e below (s₁.setTop (mkF m 103 #[.val (.int (16 : Int32))] [])) _
    refine XS.iloadN X0.here hx rfl (hb hby d1_103) rfl ?_
    show Steps p.tables e below (s₁.setTop (mkF m 104 #[.val (.int (16 : Int32))] [(.int (16 : Int32))])) _
    refine XS.bipush X0.here hx rfl (hb hby d1_104) ?_
    show Steps p.tables e below (s₁.setTop (mkF m 106 #[.val (.int (16 : Int32))] [(.int (11 : Int32)), (.int (16 : Int32))])) _
    refine XS.icmpYes X0.here hx rfl (pc0 := 106) (pc' := 113) rfl (hb hby d1_106) rfl (feq (by decide : ¬ ((16 : Int32) = (11 : Int32)))).2 (by decide) (by decide) ?_
    show Steps p.tables e below (s₁.setTop (mkF m 113 #[.val (.int (16 : Int32))] [])) _
    refine XS.iloadN X0.here hx rfl (hb hby d1_113) rfl ?_
    show Steps p.tables e below (s₁.setTop (mkF m 114 #[.val (.int (16 : Int32))] [(.int (16 : Int32))])) _
    refine XS.bipush X0.here hx rfl (hb hby d1_114) ?_
    show Steps p.tables e below (s₁.setTop (mkF m 116 #[.val (.int (16 : Int32))] [(.int (12 : Int32)), (.int (16 : Int32))])) _
    refine XS.icmpYes X0.here hx rfl (pc0 := 116) (pc' := 123) rfl (hb hby d1_116) rfl (feq (by decide : ¬ ((16 : Int32) = (12 : Int32)))).2 (by decide) (by decide) ?_
    show Steps p.tables e below (s₁.setTop (mkF m 123 #[.val (.int (16 : Int32))] [])) _
    refine XS.iloadN X0.here hx rfl (hb hby d1_123) rfl ?_
    show Steps p.tables e below (s₁.setTop (mkF m 124 #[.val (.int (16 : Int32))] [(.int (16 : Int32))])) _
    refine XS.bipush X0.here hx rfl (hb hby d1_124) ?_
    show Steps p.tables e below (s₁.setTop (mkF m 126 #[.val (.int (16 : Int32))] [(.int (13 : Int32)), (.int (16 : Int32))])) _
    refine XS.icmpYes X0.here hx rfl (pc0 := 126) (pc' := 133) rfl (hb hby d1_126) rfl (feq (by decide : ¬ ((16 : Int32) = (13 : Int32)))).2 (by decide) (by decide) ?_
    show Steps p.tables e below (s₁.setTop (mkF m 133 #[.val (.int (16 : Int32))] [])) _
    refine XS.iloadN X0.here hx rfl (hb hby d1_133) rfl ?_
    show Steps p.tables e below (s₁.setTop (mkF m 134 #[.val (.int (16 : Int32))] [(.int (16 : Int32))])) _
    refine XS.bipush X0.here hx rfl (hb hby d1_134) ?_
    show Steps p.tables e below (s₁.setTop (mkF m 136 #[.val (.int (16 : Int32))] [(.int (14 : Int32)), (.int (16 : Int32))])) _
    refine XS.icmpYes X0.here hx rfl (pc0 := 136) (pc' := 143) rfl (hb hby d1_136) rfl (feq (by decide : ¬ ((16 : Int32) = (14 : Int32)))).2 (by decide) (by decide) ?_
    show Steps p.tables e below (s₁.setTop (mkF m 143 #[.val (.int (16 : Int32))] [])) _
    refine XS.iloadN X0.here hx rfl (hb hby d1_143) rfl ?_
    show Steps p.tables e below (s₁.setTop (mkF m 144 #[.val (.int (16 : Int32))] [(.int (16 : Int32))])) _
    refine XS.bipush X0.here hx rfl (hb hby d1_144) ?_
    show Steps p.tables e below (s₁.setTop (mkF m 146 #[.val (.int (16 : Int32))] [(.int (15 : Int32)), (.int (16 : Int32))])) _
    refine XS.icmpYes X0.here hx rfl (pc0 := 146) (pc' := 153) rfl (hb hby d1_146) rfl (feq (by decide : ¬ ((16 : Int32) = (15 : Int32)))).2 (by decide) (by decide) ?_
    show Steps p.tables e below (s₁.setTop (mkF m 153 #[.val (.int (16 : Int32))] [])) _
    refine XS.iloadN X0.here hx rfl (hb hby d1_153) rfl ?_
    show Steps p.tables e below (s₁.setTop (mkF m 154 #[.val (.int (16 : Int32))] [(.int (16 : Int32))])) _
    refine XS.bipush X0.here hx rfl (hb hby d1_154) ?_
    show Steps p.tables e below (s₁.setTop (mkF m 156 #[.val (.int (16 : Int32))] [(.int (16 : Int32)), (.int (16 : Int32))])) _
    refine XS.icmpNo X0.here hx rfl (hb hby d1_156) rfl (teq (by decide : (16 : Int32) = (16 : Int32))).2 ?_
    show Steps p.tables e below (s₁.setTop (mkF m 159 #[.val (.int (16 : Int32))] [])) _
    refine st1 _ ?_
    show Steps p.tables e below (T1.setTop (mkF m 162 #[.val (.int (16 : Int32))] [(.ref a1)])) _
    exact retOut X1 hx Bd.returns rfl (Or.inr (Or.inr (Or.inr (Or.inr ⟨rfl, rfl, rfl⟩)))) (hb hby d1_162) hr
  · show Q1_17 Z a1 h0 n0 _ T1.heap _
    rw [e1]
    exact ⟨rfl, N0, rfl⟩
theorem ef1_18 (m : MethodId) : entryFrame m #[(.int (17 : Int32))] 1 = mkF m 0 #[.val (.int (17 : Int32))] [] := by first | (simp [entryFrame, mkF, argsToLocals, Value.category]; done) | rfl
def Q1_18 (Z : State) (a1 : Addr) (h0 : Heap) (n0 : Nat) (v : Option Value) (h : Heap) (L : List Loc) : Prop := v = some (.ref a1) ∧ Fr n0 L ∧ h = h0
set_option maxRecDepth 65536 in
set_option maxHeartbeats 40000000 in
theorem rm1_18 (l : Launch) (Z : State) (a0 : Array Value) (hw : ∀ d ∈ tables_1, d.before a0 Z = true) (ws : List Jvm.Cond) (a1 : Addr) (h0 : Heap) (n0 : Nat) (Z0 : n0 ≤ h0.size) (S_ResultCode_INVALID_AUTHORIZATION_INFORMATION : Sta Z h0 "com/example/delehat/delehat/protocols/epp/ResultCode" "INVALID_AUTHORIZATION_INFORMATION" "Lcom/example/delehat/delehat/protocols/epp/ResultCode;" (.ref a1)) :
    MetFree l (⟨"com/example/delehat/delehat/protocols/epp/PayloadOfPinLaw", "pick", "(I)Lcom/example/delehat/delehat/protocols/epp/ResultCode;"⟩ : MethodName) (head1 (Jvm.Cond.code (⟨"com/example/delehat/delehat/protocols/epp/PayloadOfPinLaw", "pick", "(I)Lcom/example/delehat/delehat/protocols/epp/ResultCode;"⟩ : MethodName) method_2_code 1 (some (.object "com/example/delehat/delehat/protocols/epp/ResultCode")) :: ws) ({ frames := 0, cells := 0, slots := 0, locals := 0 } : Room)) (fun a U => a = #[(.int (17 : Int32))] ∧ Z.Warmed39 U.vm ∧ U.heap = h0) (fun _ _ _ _ _ => True) (fun _ U o U' => ∃ v L, o = .returned v ∧ Q1_18 Z a1 h0 n0 v U'.heap L ∧ FrameEnd U o U' L ({ frames := 0, cells := 0, slots := 0, locals := 0 } : Room).cells ({ frames := 0, cells := 0, slots := 0, locals := 0 } : Room).slots) := by
  refine MetFree.of_bodySF (plainFor_of_name pn_com_example_delehat_delehat_protocols_epp_PayloadOfPinLaw) hisR ?_
  intro p e s m args below meth c s₁ Bd hml0 hP hK
  obtain ⟨rfl, hZ, hh⟩ := hP
  have hx := Bd.exec
  have hby := Bd.bytes
  have hml : c.maxLocals = 1 := hml0
  have hown : s.vm.findClass "com/example/delehat/delehat/protocols/epp/PayloadOfPinLaw" = some m.cls := findClass_of_methodNamed Bd.named
  have hnm := (name_of_methodNamed Bd.named Bd.method).1
  have X0 : Stand p l e ({ frames := 0, cells := 0, slots := 0, locals := 0 } : Room) s m #[(.int (17 : Int32))] below meth c s₁ [] 0 0 := Stand.of_body Bd
  have e0 : s₁.heap = h0 := by rw [← hh, Bd.state]; rfl
  have N0 := Fr.nil n0
  have pre0 : ∀ t, Steps p.tables e below (s₁.setTop (mkF m 0 #[.val (.int (17 : Int32))] [])) t → Steps p.tables e below (s₁.setTop (entryFrame m #[(.int (17 : Int32))] 1)) t := fun t k => castTop (ef1_18 m) k
  obtain ⟨T1, X1, e1, st1⟩ := getS2 X0 hx hZ hown (host := "") (Or.inl (own_w95 hw)) Via.refl e0 S_ResultCode_INVALID_AUTHORIZATION_INFORMATION (g := (mkF m 169 #[.val (.int (17 : Int32))] [])) rfl (hb hby d1_169)
  obtain ⟨fs, hr, hrun, hended, hW, hsame⟩ := X1.leave (v := some (.ref a1)) (fun h => by rw [Bd.returns] at h; cases h)
  refine ⟨_, _, pre0 _ ?_, hrun, hended, _, _, rfl, ?_, ⟨_, rfl⟩, hW, hsame.mono (by decide) (by decide)⟩
  · show Steps p.tables e below (s₁.setTop (mkF m 0 #[.val (.int (17 : Int32))] [])) _
    refine XS.iloadN X0.here hx rfl (hb hby d1_0) rfl ?_
    show Steps p.tables e below (s₁.setTop (mkF m 1 #[.val (.int (17 : Int32))] [(.int (17 : Int32))])) _
    refine XS.ifYes X0.here hx rfl (pc0 := 1) (pc' := 8) rfl (hb hby d1_1) rfl ((if0 _ _).trans (feq (by decide : ¬ ((17 : Int32) = (0 : Int32)))).2) (by decide) (by decide) ?_
    show Steps p.tables e below (s₁.setTop (mkF m 8 #[.val (.int (17 : Int32))] [])) _
    refine XS.iloadN X0.here hx rfl (hb hby d1_8) rfl ?_
    show Steps p.tables e below (s₁.setTop (mkF m 9 #[.val (.int (17 : Int32))] [(.int (17 : Int32))])) _
    refine XS.iconst X0.here hx rfl (hb hby d1_9) ?_
    show Steps p.tables e below (s₁.setTop (mkF m 10 #[.val (.int (17 : Int32))] [(.int (1 : Int32)), (.int (17 : Int32))])) _
    refine XS.icmpYes X0.here hx rfl (pc0 := 10) (pc' := 17) rfl (hb hby d1_10) rfl (feq (by decide : ¬ ((17 : Int32) = (1 : Int32)))).2 (by decide) (by decide) ?_
    show Steps p.tables e below (s₁.setTop (mkF m 17 #[.val (.int (17 : Int32))] [])) _
    refine XS.iloadN X0.here hx rfl (hb hby d1_17) rfl ?_
    show Steps p.tables e below (s₁.setTop (mkF m 18 #[.val (.int (17 : Int32))] [(.int (17 : Int32))])) _
    refine XS.iconst X0.here hx rfl (hb hby d1_18) ?_
    show Steps p.tables e below (s₁.setTop (mkF m 19 #[.val (.int (17 : Int32))] [(.int (2 : Int32)), (.int (17 : Int32))])) _
    refine XS.icmpYes X0.here hx rfl (pc0 := 19) (pc' := 26) rfl (hb hby d1_19) rfl (feq (by decide : ¬ ((17 : Int32) = (2 : Int32)))).2 (by decide) (by decide) ?_
    show Steps p.tables e below (s₁.setTop (mkF m 26 #[.val (.int (17 : Int32))] [])) _
    refine XS.iloadN X0.here hx rfl (hb hby d1_26) rfl ?_
    show Steps p.tables e below (s₁.setTop (mkF m 27 #[.val (.int (17 : Int32))] [(.int (17 : Int32))])) _
    refine XS.iconst X0.here hx rfl (hb hby d1_27) ?_
    show Steps p.tables e below (s₁.setTop (mkF m 28 #[.val (.int (17 : Int32))] [(.int (3 : Int32)), (.int (17 : Int32))])) _
    refine XS.icmpYes X0.here hx rfl (pc0 := 28) (pc' := 35) rfl (hb hby d1_28) rfl (feq (by decide : ¬ ((17 : Int32) = (3 : Int32)))).2 (by decide) (by decide) ?_
    show Steps p.tables e below (s₁.setTop (mkF m 35 #[.val (.int (17 : Int32))] [])) _
    refine XS.iloadN X0.here hx rfl (hb hby d1_35) rfl ?_
    show Steps p.tables e below (s₁.setTop (mkF m 36 #[.val (.int (17 : Int32))] [(.int (17 : Int32))])) _
    refine XS.iconst X0.here hx rfl (hb hby d1_36) ?_
    show Steps p.tables e below (s₁.setTop (mkF m 37 #[.val (.int (17 : Int32))] [(.int (4 : Int32)), (.int (17 : Int32))])) _
    refine XS.icmpYes X0.here hx rfl (pc0 := 37) (pc' := 44) rfl (hb hby d1_37) rfl (feq (by decide : ¬ ((17 : Int32) = (4 : Int32)))).2 (by decide) (by decide) ?_
    show Steps p.tables e below (s₁.setTop (mkF m 44 #[.val (.int (17 : Int32))] [])) _
    refine XS.iloadN X0.here hx rfl (hb hby d1_44) rfl ?_
    show Steps p.tables e below (s₁.setTop (mkF m 45 #[.val (.int (17 : Int32))] [(.int (17 : Int32))])) _
    refine XS.iconst X0.here hx rfl (hb hby d1_45) ?_
    show Steps p.tables e below (s₁.setTop (mkF m 46 #[.val (.int (17 : Int32))] [(.int (5 : Int32)), (.int (17 : Int32))])) _
    refine XS.icmpYes X0.here hx rfl (pc0 := 46) (pc' := 53) rfl (hb hby d1_46) rfl (feq (by decide : ¬ ((17 : Int32) = (5 : Int32)))).2 (by decide) (by decide) ?_
    show Steps p.tables e below (s₁.setTop (mkF m 53 #[.val (.int (17 : Int32))] [])) _
    refine XS.iloadN X0.here hx rfl (hb hby d1_53) rfl ?_
    show Steps p.tables e below (s₁.setTop (mkF m 54 #[.val (.int (17 : Int32))] [(.int (17 : Int32))])) _
    refine XS.bipush X0.here hx rfl (hb hby d1_54) ?_
    show Steps p.tables e below (s₁.setTop (mkF m 56 #[.val (.int (17 : Int32))] [(.int (6 : Int32)), (.int (17 : Int32))])) _
    refine XS.icmpYes X0.here hx rfl (pc0 := 56) (pc' := 63) rfl (hb hby d1_56) rfl (feq (by decide : ¬ ((17 : Int32) = (6 : Int32)))).2 (by decide) (by decide) ?_
    show Steps p.tables e below (s₁.setTop (mkF m 63 #[.val (.int (17 : Int32))] [])) _
    refine XS.iloadN X0.here hx rfl (hb hby d1_63) rfl ?_
    show Steps p.tables e below (s₁.setTop (mkF m 64 #[.val (.int (17 : Int32))] [(.int (17 : Int32))])) _
    refine XS.bipush X0.here hx rfl (hb hby d1_64) ?_
    show Steps p.tables e below (s₁.setTop (mkF m 66 #[.val (.int (17 : Int32))] [(.int (7 : Int32)), (.int (17 : Int32))])) _
    refine XS.icmpYes X0.here hx rfl (pc0 := 66) (pc' := 73) rfl (hb hby d1_66) rfl (feq (by decide : ¬ ((17 : Int32) = (7 : Int32)))).2 (by decide) (by decide) ?_
    show Steps p.tables e below (s₁.setTop (mkF m 73 #[.val (.int (17 : Int32))] [])) _
    refine XS.iloadN X0.here hx rfl (hb hby d1_73) rfl ?_
    show Steps p.tables e below (s₁.setTop (mkF m 74 #[.val (.int (17 : Int32))] [(.int (17 : Int32))])) _
    refine XS.bipush X0.here hx rfl (hb hby d1_74) ?_
    show Steps p.tables e below (s₁.setTop (mkF m 76 #[.val (.int (17 : Int32))] [(.int (8 : Int32)), (.int (17 : Int32))])) _
    refine XS.icmpYes X0.here hx rfl (pc0 := 76) (pc' := 83) rfl (hb hby d1_76) rfl (feq (by decide : ¬ ((17 : Int32) = (8 : Int32)))).2 (by decide) (by decide) ?_
    show Steps p.tables e below (s₁.setTop (mkF m 83 #[.val (.int (17 : Int32))] [])) _
    refine XS.iloadN X0.here hx rfl (hb hby d1_83) rfl ?_
    show Steps p.tables e below (s₁.setTop (mkF m 84 #[.val (.int (17 : Int32))] [(.int (17 : Int32))])) _
    refine XS.bipush X0.here hx rfl (hb hby d1_84) ?_
    show Steps p.tables e below (s₁.setTop (mkF m 86 #[.val (.int (17 : Int32))] [(.int (9 : Int32)), (.int (17 : Int32))])) _
    refine XS.icmpYes X0.here hx rfl (pc0 := 86) (pc' := 93) rfl (hb hby d1_86) rfl (feq (by decide : ¬ ((17 : Int32) = (9 : Int32)))).2 (by decide) (by decide) ?_
    show Steps p.tables e below (s₁.setTop (mkF m 93 #[.val (.int (17 : Int32))] [])) _
    refine XS.iloadN X0.here hx rfl (hb hby d1_93) rfl ?_
    show Steps p.tables e below (s₁.setTop (mkF m 94 #[.val (.int (17 : Int32))] [(.int (17 : Int32))])) _
    refine XS.bipush X0.here hx rfl (hb hby d1_94) ?_
    show Steps p.tables e below (s₁.setTop (mkF m 96 #[.val (.int (17 : Int32))] [(.int (10 : Int32)), (.int (17 : Int32))])) _
    refine XS.icmpYes X0.here hx rfl (pc0 := 96) (pc' := 103) rfl (hb hby d1_96) rfl (feq (by decide : ¬ ((17 : Int32) = (10 : Int32)))).2 (by decide) (by decide) ?_
    show Steps p.tables e below (s₁.setTop (mkF m 103 #[.val (.int (17 : Int32))] [])) _
    refine XS.iloadN X0.here hx rfl (hb hby d1_103) rfl ?_
    show Steps p.tables e below (s₁.setTop (mkF m 104 #[.val (.int (17 : Int32))] [(.int (17 : Int32))])) _
    refine XS.bipush X0.here hx rfl (hb hby d1_104) ?_
    show Steps p.tables e below (s₁.setTop (mkF m 106 #[.val (.int (17 : Int32))] [(.int (11 : Int32)), (.int (17 : Int32))])) _
    refine XS.icmpYes X0.here hx rfl (pc0 := 106) (pc' := 113) rfl (hb hby d1_106) rfl (feq (by decide : ¬ ((17 : Int32) = (11 : Int32)))).2 (by decide) (by decide) ?_
    show Steps p.tables e below (s₁.setTop (mkF m 113 #[.val (.int (17 : Int32))] [])) _
    refine XS.iloadN X0.here hx rfl (hb hby d1_113) rfl ?_
    show Steps p.tables e below (s₁.setTop (mkF m 114 #[.val (.int (17 : Int32))] [(.int (17 : Int32))])) _
    refine XS.bipush X0.here hx rfl (hb hby d1_114) ?_
    show Steps p.tables e below (s₁.setTop (mkF m 116 #[.val (.int (17 : Int32))] [(.int (12 : Int32)), (.int (17 : Int32))])) _
    refine XS.icmpYes X0.here hx rfl (pc0 := 116) (pc' := 123) rfl (hb hby d1_116) rfl (feq (by decide : ¬ ((17 : Int32) = (12 : Int32)))).2 (by decide) (by decide) ?_
    show Steps p.tables e below (s₁.setTop (mkF m 123 #[.val (.int (17 : Int32))] [])) _
    refine XS.iloadN X0.here hx rfl (hb hby d1_123) rfl ?_
    show Steps p.tables e below (s₁.setTop (mkF m 124 #[.val (.int (17 : Int32))] [(.int (17 : Int32))])) _
    refine XS.bipush X0.here hx rfl (hb hby d1_124) ?_
    show Steps p.tables e below (s₁.setTop (mkF m 126 #[.val (.int (17 : Int32))] [(.int (13 : Int32)), (.int (17 : Int32))])) _
    refine XS.icmpYes X0.here hx rfl (pc0 := 126) (pc' := 133) rfl (hb hby d1_126) rfl (feq (by decide : ¬ ((17 : Int32) = (13 : Int32)))).2 (by decide) (by decide) ?_
    show Steps p.tables e below (s₁.setTop (mkF m 133 #[.val (.int (17 : Int32))] [])) _
    refine XS.iloadN X0.here hx rfl (hb hby d1_133) rfl ?_
    show Steps p.tables e below (s₁.setTop (mkF m 134 #[.val (.int (17 : Int32))] [(.int (17 : Int32))])) _
    refine XS.bipush X0.here hx rfl (hb hby d1_134) ?_
    show Steps p.tables e below (s₁.setTop (mkF m 136 #[.val (.int (17 : Int32))] [(.int (14 : Int32)), (.int (17 : Int32))])) _
    refine XS.icmpYes X0.here hx rfl (pc0 := 136) (pc' := 143) rfl (hb hby d1_136) rfl (feq (by decide : ¬ ((17 : Int32) = (14 : Int32)))).2 (by decide) (by decide) ?_
    show Steps p.tables e below (s₁.setTop (mkF m 143 #[.val (.int (17 : Int32))] [])) _
    refine XS.iloadN X0.here hx rfl (hb hby d1_143) rfl ?_
    show Steps p.tables e below (s₁.setTop (mkF m 144 #[.val (.int (17 : Int32))] [(.int (17 : Int32))])) _
    refine XS.bipush X0.here hx rfl (hb hby d1_144) ?_
    show Steps p.tables e below (s₁.setTop (mkF m 146 #[.val (.int (17 : Int32))] [(.int (15 : Int32)), (.int (17 : Int32))])) _
    refine XS.icmpYes X0.here hx rfl (pc0 := 146) (pc' := 153) rfl (hb hby d1_146) rfl (feq (by decide : ¬ ((17 : Int32) = (15 : Int32)))).2 (by decide) (by decide) ?_
    show Steps p.tables e below (s₁.setTop (mkF m 153 #[.val (.int (17 : Int32))] [])) _
    refine XS.iloadN X0.here hx rfl (hb hby d1_153) rfl ?_
    show Steps p.tables e below (s₁.setTop (mkF m 154 #[.val (.int (17 : Int32))] [(.int (17 : Int32))])) _
    refine XS.bipush X0.here hx rfl (hb hby d1_154) ?_
    show Steps p.tables e below (s₁.setTop (mkF m 156 #[.val (.int (17 : Int32))] [(.int (16 : Int32)), (.int (17 : Int32))])) _
    refine XS.icmpYes X0.here hx rfl (pc0 := 156) (pc' := 163) rfl (hb hby d1_156) rfl (feq (by decide : ¬ ((17 : Int32) = (16 : Int32)))).2 (by decide) (by decide) ?_
    show Steps p.tables e below (s₁.setTop (mkF m 163 #[.val (.int (17 : Int32))] [])) _
    refine XS.iloadN X0.here hx rfl (hb hby d1_163) rfl ?_
    show Steps p.tables e below (s₁.setTop (mkF m 164 #[.val (.int (17 : Int32))] [(.int (17 : Int32))])) _
    refine XS.bipush X0.here hx rfl (hb hby d1_164) ?_
    show Steps p.tables e below (s₁.setTop (mkF m 166 #[.val (.int (17 : Int32))] [(.int (17 : Int32)), (.int (17 : Int32))])) _
    refine XS.icmpNo X0.here hx rfl (hb hby d1_166) rfl (teq (by decide : (17 : Int32) = (17 : Int32))).2 ?_
    show Steps p.tables e below (s₁.setTop (mkF m 169 #[.val (.int (17 : Int32))] [])) _
    refine st1 _ ?_
    show Steps p.tables e below (T1.setTop (mkF m 172 #[.val (.int (17 : Int32))] [(.ref a1)])) _
    exact retOut X1 hx Bd.returns rfl (Or.inr (Or.inr (Or.inr (Or.inr ⟨rfl, rfl, rfl⟩)))) (hb hby d1_172) hr
  · show Q1_18 Z a1 h0 n0 _ T1.heap _
    rw [e1]
    exact ⟨rfl, N0, rfl⟩
theorem ef1_19 (m : MethodId) : entryFrame m #[(.int (18 : Int32))] 1 = mkF m 0 #[.val (.int (18 : Int32))] [] := by first | (simp [entryFrame, mkF, argsToLocals, Value.category]; done) | rfl
def Q1_19 (Z : State) (a1 : Addr) (h0 : Heap) (n0 : Nat) (v : Option Value) (h : Heap) (L : List Loc) : Prop := v = some (.ref a1) ∧ Fr n0 L ∧ h = h0
set_option maxRecDepth 65536 in
set_option maxHeartbeats 40000000 in
theorem rm1_19 (l : Launch) (Z : State) (a0 : Array Value) (hw : ∀ d ∈ tables_1, d.before a0 Z = true) (ws : List Jvm.Cond) (a1 : Addr) (h0 : Heap) (n0 : Nat) (Z0 : n0 ≤ h0.size) (S_ResultCode_OBJECT_PENDING_TRANSFER : Sta Z h0 "com/example/delehat/delehat/protocols/epp/ResultCode" "OBJECT_PENDING_TRANSFER" "Lcom/example/delehat/delehat/protocols/epp/ResultCode;" (.ref a1)) :
    MetFree l (⟨"com/example/delehat/delehat/protocols/epp/PayloadOfPinLaw", "pick", "(I)Lcom/example/delehat/delehat/protocols/epp/ResultCode;"⟩ : MethodName) (head1 (Jvm.Cond.code (⟨"com/example/delehat/delehat/protocols/epp/PayloadOfPinLaw", "pick", "(I)Lcom/example/delehat/delehat/protocols/epp/ResultCode;"⟩ : MethodName) method_2_code 1 (some (.object "com/example/delehat/delehat/protocols/epp/ResultCode")) :: ws) ({ frames := 0, cells := 0, slots := 0, locals := 0 } : Room)) (fun a U => a = #[(.int (18 : Int32))] ∧ Z.Warmed39 U.vm ∧ U.heap = h0) (fun _ _ _ _ _ => True) (fun _ U o U' => ∃ v L, o = .returned v ∧ Q1_19 Z a1 h0 n0 v U'.heap L ∧ FrameEnd U o U' L ({ frames := 0, cells := 0, slots := 0, locals := 0 } : Room).cells ({ frames := 0, cells := 0, slots := 0, locals := 0 } : Room).slots) := by
  refine MetFree.of_bodySF (plainFor_of_name pn_com_example_delehat_delehat_protocols_epp_PayloadOfPinLaw) hisR ?_
  intro p e s m args below meth c s₁ Bd hml0 hP hK
  obtain ⟨rfl, hZ, hh⟩ := hP
  have hx := Bd.exec
  have hby := Bd.bytes
  have hml : c.maxLocals = 1 := hml0
  have hown : s.vm.findClass "com/example/delehat/delehat/protocols/epp/PayloadOfPinLaw" = some m.cls := findClass_of_methodNamed Bd.named
  have hnm := (name_of_methodNamed Bd.named Bd.method).1
  have X0 : Stand p l e ({ frames := 0, cells := 0, slots := 0, locals := 0 } : Room) s m #[(.int (18 : Int32))] below meth c s₁ [] 0 0 := Stand.of_body Bd
  have e0 : s₁.heap = h0 := by rw [← hh, Bd.state]; rfl
  have N0 := Fr.nil n0
  have pre0 : ∀ t, Steps p.tables e below (s₁.setTop (mkF m 0 #[.val (.int (18 : Int32))] [])) t → Steps p.tables e below (s₁.setTop (entryFrame m #[(.int (18 : Int32))] 1)) t := fun t k => castTop (ef1_19 m) k
  obtain ⟨T1, X1, e1, st1⟩ := getS2 X0 hx hZ hown (host := "") (Or.inl (own_w59 hw)) Via.refl e0 S_ResultCode_OBJECT_PENDING_TRANSFER (g := (mkF m 179 #[.val (.int (18 : Int32))] [])) rfl (hb hby d1_179)
  obtain ⟨fs, hr, hrun, hended, hW, hsame⟩ := X1.leave (v := some (.ref a1)) (fun h => by rw [Bd.returns] at h; cases h)
  refine ⟨_, _, pre0 _ ?_, hrun, hended, _, _, rfl, ?_, ⟨_, rfl⟩, hW, hsame.mono (by decide) (by decide)⟩
  · show Steps p.tables e below (s₁.setTop (mkF m 0 #[.val (.int (18 : Int32))] [])) _
    refine XS.iloadN X0.here hx rfl (hb hby d1_0) rfl ?_
    show Steps p.tables e below (s₁.setTop (mkF m 1 #[.val (.int (18 : Int32))] [(.int (18 : Int32))])) _
    refine XS.ifYes X0.here hx rfl (pc0 := 1) (pc' := 8) rfl (hb hby d1_1) rfl ((if0 _ _).trans (feq (by decide : ¬ ((18 : Int32) = (0 : Int32)))).2) (by decide) (by decide) ?_
    show Steps p.tables e below (s₁.setTop (mkF m 8 #[.val (.int (18 : Int32))] [])) _
    refine XS.iloadN X0.here hx rfl (hb hby d1_8) rfl ?_
    show Steps p.tables e below (s₁.setTop (mkF m 9 #[.val (.int (18 : Int32))] [(.int (18 : Int32))])) _
    refine XS.iconst X0.here hx rfl (hb hby d1_9) ?_
    show Steps p.tables e below (s₁.setTop (mkF m 10 #[.val (.int (18 : Int32))] [(.int (1 : Int32)), (.int (18 : Int32))])) _
    refine XS.icmpYes X0.here hx rfl (pc0 := 10) (pc' := 17) rfl (hb hby d1_10) rfl (feq (by decide : ¬ ((18 : Int32) = (1 : Int32)))).2 (by decide) (by decide) ?_
    show Steps p.tables e below (s₁.setTop (mkF m 17 #[.val (.int (18 : Int32))] [])) _
    refine XS.iloadN X0.here hx rfl (hb hby d1_17) rfl ?_
    show Steps p.tables e below (s₁.setTop (mkF m 18 #[.val (.int (18 : Int32))] [(.int (18 : Int32))])) _
    refine XS.iconst X0.here hx rfl (hb hby d1_18) ?_
    show Steps p.tables e below (s₁.setTop (mkF m 19 #[.val (.int (18 : Int32))] [(.int (2 : Int32)), (.int (18 : Int32))])) _
    refine XS.icmpYes X0.here hx rfl (pc0 := 19) (pc' := 26) rfl (hb hby d1_19) rfl (feq (by decide : ¬ ((18 : Int32) = (2 : Int32)))).2 (by decide) (by decide) ?_
    show Steps p.tables e below (s₁.setTop (mkF m 26 #[.val (.int (18 : Int32))] [])) _
    refine XS.iloadN X0.here hx rfl (hb hby d1_26) rfl ?_
    show Steps p.tables e below (s₁.setTop (mkF m 27 #[.val (.int (18 : Int32))] [(.int (18 : Int32))])) _
    refine XS.iconst X0.here hx rfl (hb hby d1_27) ?_
    show Steps p.tables e below (s₁.setTop (mkF m 28 #[.val (.int (18 : Int32))] [(.int (3 : Int32)), (.int (18 : Int32))])) _
    refine XS.icmpYes X0.here hx rfl (pc0 := 28) (pc' := 35) rfl (hb hby d1_28) rfl (feq (by decide : ¬ ((18 : Int32) = (3 : Int32)))).2 (by decide) (by decide) ?_
    show Steps p.tables e below (s₁.setTop (mkF m 35 #[.val (.int (18 : Int32))] [])) _
    refine XS.iloadN X0.here hx rfl (hb hby d1_35) rfl ?_
    show Steps p.tables e below (s₁.setTop (mkF m 36 #[.val (.int (18 : Int32))] [(.int (18 : Int32))])) _
    refine XS.iconst X0.here hx rfl (hb hby d1_36) ?_
    show Steps p.tables e below (s₁.setTop (mkF m 37 #[.val (.int (18 : Int32))] [(.int (4 : Int32)), (.int (18 : Int32))])) _
    refine XS.icmpYes X0.here hx rfl (pc0 := 37) (pc' := 44) rfl (hb hby d1_37) rfl (feq (by decide : ¬ ((18 : Int32) = (4 : Int32)))).2 (by decide) (by decide) ?_
    show Steps p.tables e below (s₁.setTop (mkF m 44 #[.val (.int (18 : Int32))] [])) _
    refine XS.iloadN X0.here hx rfl (hb hby d1_44) rfl ?_
    show Steps p.tables e below (s₁.setTop (mkF m 45 #[.val (.int (18 : Int32))] [(.int (18 : Int32))])) _
    refine XS.iconst X0.here hx rfl (hb hby d1_45) ?_
    show Steps p.tables e below (s₁.setTop (mkF m 46 #[.val (.int (18 : Int32))] [(.int (5 : Int32)), (.int (18 : Int32))])) _
    refine XS.icmpYes X0.here hx rfl (pc0 := 46) (pc' := 53) rfl (hb hby d1_46) rfl (feq (by decide : ¬ ((18 : Int32) = (5 : Int32)))).2 (by decide) (by decide) ?_
    show Steps p.tables e below (s₁.setTop (mkF m 53 #[.val (.int (18 : Int32))] [])) _
    refine XS.iloadN X0.here hx rfl (hb hby d1_53) rfl ?_
    show Steps p.tables e below (s₁.setTop (mkF m 54 #[.val (.int (18 : Int32))] [(.int (18 : Int32))])) _
    refine XS.bipush X0.here hx rfl (hb hby d1_54) ?_
    show Steps p.tables e below (s₁.setTop (mkF m 56 #[.val (.int (18 : Int32))] [(.int (6 : Int32)), (.int (18 : Int32))])) _
    refine XS.icmpYes X0.here hx rfl (pc0 := 56) (pc' := 63) rfl (hb hby d1_56) rfl (feq (by decide : ¬ ((18 : Int32) = (6 : Int32)))).2 (by decide) (by decide) ?_
    show Steps p.tables e below (s₁.setTop (mkF m 63 #[.val (.int (18 : Int32))] [])) _
    refine XS.iloadN X0.here hx rfl (hb hby d1_63) rfl ?_
    show Steps p.tables e below (s₁.setTop (mkF m 64 #[.val (.int (18 : Int32))] [(.int (18 : Int32))])) _
    refine XS.bipush X0.here hx rfl (hb hby d1_64) ?_
    show Steps p.tables e below (s₁.setTop (mkF m 66 #[.val (.int (18 : Int32))] [(.int (7 : Int32)), (.int (18 : Int32))])) _
    refine XS.icmpYes X0.here hx rfl (pc0 := 66) (pc' := 73) rfl (hb hby d1_66) rfl (feq (by decide : ¬ ((18 : Int32) = (7 : Int32)))).2 (by decide) (by decide) ?_
    show Steps p.tables e below (s₁.setTop (mkF m 73 #[.val (.int (18 : Int32))] [])) _
    refine XS.iloadN X0.here hx rfl (hb hby d1_73) rfl ?_
    show Steps p.tables e below (s₁.setTop (mkF m 74 #[.val (.int (18 : Int32))] [(.int (18 : Int32))])) _
    refine XS.bipush X0.here hx rfl (hb hby d1_74) ?_
    show Steps p.tables e below (s₁.setTop (mkF m 76 #[.val (.int (18 : Int32))] [(.int (8 : Int32)), (.int (18 : Int32))])) _
    refine XS.icmpYes X0.here hx rfl (pc0 := 76) (pc' := 83) rfl (hb hby d1_76) rfl (feq (by decide : ¬ ((18 : Int32) = (8 : Int32)))).2 (by decide) (by decide) ?_
    show Steps p.tables e below (s₁.setTop (mkF m 83 #[.val (.int (18 : Int32))] [])) _
    refine XS.iloadN X0.here hx rfl (hb hby d1_83) rfl ?_
    show Steps p.tables e below (s₁.setTop (mkF m 84 #[.val (.int (18 : Int32))] [(.int (18 : Int32))])) _
    refine XS.bipush X0.here hx rfl (hb hby d1_84) ?_
    show Steps p.tables e below (s₁.setTop (mkF m 86 #[.val (.int (18 : Int32))] [(.int (9 : Int32)), (.int (18 : Int32))])) _
    refine XS.icmpYes X0.here hx rfl (pc0 := 86) (pc' := 93) rfl (hb hby d1_86) rfl (feq (by decide : ¬ ((18 : Int32) = (9 : Int32)))).2 (by decide) (by decide) ?_
    show Steps p.tables e below (s₁.setTop (mkF m 93 #[.val (.int (18 : Int32))] [])) _
    refine XS.iloadN X0.here hx rfl (hb hby d1_93) rfl ?_
    show Steps p.tables e below (s₁.setTop (mkF m 94 #[.val (.int (18 : Int32))] [(.int (18 : Int32))])) _
    refine XS.bipush X0.here hx rfl (hb hby d1_94) ?_
    show Steps p.tables e below (s₁.setTop (mkF m 96 #[.val (.int (18 : Int32))] [(.int (10 : Int32)), (.int (18 : Int32))])) _
    refine XS.icmpYes X0.here hx rfl (pc0 := 96) (pc' := 103) rfl (hb hby d1_96) rfl (feq (by decide : ¬ ((18 : Int32) = (10 : Int32)))).2 (by decide) (by decide) ?_
    show Steps p.tables e below (s₁.setTop (mkF m 103 #[.val (.int (18 : Int32))] [])) _
    refine XS.iloadN X0.here hx rfl (hb hby d1_103) rfl ?_
    show Steps p.tables e below (s₁.setTop (mkF m 104 #[.val (.int (18 : Int32))] [(.int (18 : Int32))])) _
    refine XS.bipush X0.here hx rfl (hb hby d1_104) ?_
    show Steps p.tables e below (s₁.setTop (mkF m 106 #[.val (.int (18 : Int32))] [(.int (11 : Int32)), (.int (18 : Int32))])) _
    refine XS.icmpYes X0.here hx rfl (pc0 := 106) (pc' := 113) rfl (hb hby d1_106) rfl (feq (by decide : ¬ ((18 : Int32) = (11 : Int32)))).2 (by decide) (by decide) ?_
    show Steps p.tables e below (s₁.setTop (mkF m 113 #[.val (.int (18 : Int32))] [])) _
    refine XS.iloadN X0.here hx rfl (hb hby d1_113) rfl ?_
    show Steps p.tables e below (s₁.setTop (mkF m 114 #[.val (.int (18 : Int32))] [(.int (18 : Int32))])) _
    refine XS.bipush X0.here hx rfl (hb hby d1_114) ?_
    show Steps p.tables e below (s₁.setTop (mkF m 116 #[.val (.int (18 : Int32))] [(.int (12 : Int32)), (.int (18 : Int32))])) _
    refine XS.icmpYes X0.here hx rfl (pc0 := 116) (pc' := 123) rfl (hb hby d1_116) rfl (feq (by decide : ¬ ((18 : Int32) = (12 : Int32)))).2 (by decide) (by decide) ?_
    show Steps p.tables e below (s₁.setTop (mkF m 123 #[.val (.int (18 : Int32))] [])) _
    refine XS.iloadN X0.here hx rfl (hb hby d1_123) rfl ?_
    show Steps p.tables e below (s₁.setTop (mkF m 124 #[.val (.int (18 : Int32))] [(.int (18 : Int32))])) _
    refine XS.bipush X0.here hx rfl (hb hby d1_124) ?_
    show Steps p.tables e below (s₁.setTop (mkF m 126 #[.val (.int (18 : Int32))] [(.int (13 : Int32)), (.int (18 : Int32))])) _
    refine XS.icmpYes X0.here hx rfl (pc0 := 126) (pc' := 133) rfl (hb hby d1_126) rfl (feq (by decide : ¬ ((18 : Int32) = (13 : Int32)))).2 (by decide) (by decide) ?_
    show Steps p.tables e below (s₁.setTop (mkF m 133 #[.val (.int (18 : Int32))] [])) _
    refine XS.iloadN X0.here hx rfl (hb hby d1_133) rfl ?_
    show Steps p.tables e below (s₁.setTop (mkF m 134 #[.val (.int (18 : Int32))] [(.int (18 : Int32))])) _
    refine XS.bipush X0.here hx rfl (hb hby d1_134) ?_
    show Steps p.tables e below (s₁.setTop (mkF m 136 #[.val (.int (18 : Int32))] [(.int (14 : Int32)), (.int (18 : Int32))])) _
    refine XS.icmpYes X0.here hx rfl (pc0 := 136) (pc' := 143) rfl (hb hby d1_136) rfl (feq (by decide : ¬ ((18 : Int32) = (14 : Int32)))).2 (by decide) (by decide) ?_
    show Steps p.tables e below (s₁.setTop (mkF m 143 #[.val (.int (18 : Int32))] [])) _
    refine XS.iloadN X0.here hx rfl (hb hby d1_143) rfl ?_
    show Steps p.tables e below (s₁.setTop (mkF m 144 #[.val (.int (18 : Int32))] [(.int (18 : Int32))])) _
    refine XS.bipush X0.here hx rfl (hb hby d1_144) ?_
    show Steps p.tables e below (s₁.setTop (mkF m 146 #[.val (.int (18 : Int32))] [(.int (15 : Int32)), (.int (18 : Int32))])) _
    refine XS.icmpYes X0.here hx rfl (pc0 := 146) (pc' := 153) rfl (hb hby d1_146) rfl (feq (by decide : ¬ ((18 : Int32) = (15 : Int32)))).2 (by decide) (by decide) ?_
    show Steps p.tables e below (s₁.setTop (mkF m 153 #[.val (.int (18 : Int32))] [])) _
    refine XS.iloadN X0.here hx rfl (hb hby d1_153) rfl ?_
    show Steps p.tables e below (s₁.setTop (mkF m 154 #[.val (.int (18 : Int32))] [(.int (18 : Int32))])) _
    refine XS.bipush X0.here hx rfl (hb hby d1_154) ?_
    show Steps p.tables e below (s₁.setTop (mkF m 156 #[.val (.int (18 : Int32))] [(.int (16 : Int32)), (.int (18 : Int32))])) _
    refine XS.icmpYes X0.here hx rfl (pc0 := 156) (pc' := 163) rfl (hb hby d1_156) rfl (feq (by decide : ¬ ((18 : Int32) = (16 : Int32)))).2 (by decide) (by decide) ?_
    show Steps p.tables e below (s₁.setTop (mkF m 163 #[.val (.int (18 : Int32))] [])) _
    refine XS.iloadN X0.here hx rfl (hb hby d1_163) rfl ?_
    show Steps p.tables e below (s₁.setTop (mkF m 164 #[.val (.int (18 : Int32))] [(.int (18 : Int32))])) _
    refine XS.bipush X0.here hx rfl (hb hby d1_164) ?_
    show Steps p.tables e below (s₁.setTop (mkF m 166 #[.val (.int (18 : Int32))] [(.int (17 : Int32)), (.int (18 : Int32))])) _
    refine XS.icmpYes X0.here hx rfl (pc0 := 166) (pc' := 173) rfl (hb hby d1_166) rfl (feq (by decide : ¬ ((18 : Int32) = (17 : Int32)))).2 (by decide) (by decide) ?_
    show Steps p.tables e below (s₁.setTop (mkF m 173 #[.val (.int (18 : Int32))] [])) _
    refine XS.iloadN X0.here hx rfl (hb hby d1_173) rfl ?_
    show Steps p.tables e below (s₁.setTop (mkF m 174 #[.val (.int (18 : Int32))] [(.int (18 : Int32))])) _
    refine XS.bipush X0.here hx rfl (hb hby d1_174) ?_
    show Steps p.tables e below (s₁.setTop (mkF m 176 #[.val (.int (18 : Int32))] [(.int (18 : Int32)), (.int (18 : Int32))])) _
    refine XS.icmpNo X0.here hx rfl (hb hby d1_176) rfl (teq (by decide : (18 : Int32) = (18 : Int32))).2 ?_
    show Steps p.tables e below (s₁.setTop (mkF m 179 #[.val (.int (18 : Int32))] [])) _
    refine st1 _ ?_
    show Steps p.tables e below (T1.setTop (mkF m 182 #[.val (.int (18 : Int32))] [(.ref a1)])) _
    exact retOut X1 hx Bd.returns rfl (Or.inr (Or.inr (Or.inr (Or.inr ⟨rfl, rfl, rfl⟩)))) (hb hby d1_182) hr
  · show Q1_19 Z a1 h0 n0 _ T1.heap _
    rw [e1]
    exact ⟨rfl, N0, rfl⟩
theorem ef1_20 (m : MethodId) : entryFrame m #[(.int (19 : Int32))] 1 = mkF m 0 #[.val (.int (19 : Int32))] [] := by first | (simp [entryFrame, mkF, argsToLocals, Value.category]; done) | rfl
def Q1_20 (Z : State) (a1 : Addr) (h0 : Heap) (n0 : Nat) (v : Option Value) (h : Heap) (L : List Loc) : Prop := v = some (.ref a1) ∧ Fr n0 L ∧ h = h0
set_option maxRecDepth 65536 in
set_option maxHeartbeats 40000000 in
theorem rm1_20 (l : Launch) (Z : State) (a0 : Array Value) (hw : ∀ d ∈ tables_1, d.before a0 Z = true) (ws : List Jvm.Cond) (a1 : Addr) (h0 : Heap) (n0 : Nat) (Z0 : n0 ≤ h0.size) (S_ResultCode_OBJECT_NOT_PENDING_TRANSFER : Sta Z h0 "com/example/delehat/delehat/protocols/epp/ResultCode" "OBJECT_NOT_PENDING_TRANSFER" "Lcom/example/delehat/delehat/protocols/epp/ResultCode;" (.ref a1)) :
    MetFree l (⟨"com/example/delehat/delehat/protocols/epp/PayloadOfPinLaw", "pick", "(I)Lcom/example/delehat/delehat/protocols/epp/ResultCode;"⟩ : MethodName) (head1 (Jvm.Cond.code (⟨"com/example/delehat/delehat/protocols/epp/PayloadOfPinLaw", "pick", "(I)Lcom/example/delehat/delehat/protocols/epp/ResultCode;"⟩ : MethodName) method_2_code 1 (some (.object "com/example/delehat/delehat/protocols/epp/ResultCode")) :: ws) ({ frames := 0, cells := 0, slots := 0, locals := 0 } : Room)) (fun a U => a = #[(.int (19 : Int32))] ∧ Z.Warmed39 U.vm ∧ U.heap = h0) (fun _ _ _ _ _ => True) (fun _ U o U' => ∃ v L, o = .returned v ∧ Q1_20 Z a1 h0 n0 v U'.heap L ∧ FrameEnd U o U' L ({ frames := 0, cells := 0, slots := 0, locals := 0 } : Room).cells ({ frames := 0, cells := 0, slots := 0, locals := 0 } : Room).slots) := by
  refine MetFree.of_bodySF (plainFor_of_name pn_com_example_delehat_delehat_protocols_epp_PayloadOfPinLaw) hisR ?_
  intro p e s m args below meth c s₁ Bd hml0 hP hK
  obtain ⟨rfl, hZ, hh⟩ := hP
  have hx := Bd.exec
  have hby := Bd.bytes
  have hml : c.maxLocals = 1 := hml0
  have hown : s.vm.findClass "com/example/delehat/delehat/protocols/epp/PayloadOfPinLaw" = some m.cls := findClass_of_methodNamed Bd.named
  have hnm := (name_of_methodNamed Bd.named Bd.method).1
  have X0 : Stand p l e ({ frames := 0, cells := 0, slots := 0, locals := 0 } : Room) s m #[(.int (19 : Int32))] below meth c s₁ [] 0 0 := Stand.of_body Bd
  have e0 : s₁.heap = h0 := by rw [← hh, Bd.state]; rfl
  have N0 := Fr.nil n0
  have pre0 : ∀ t, Steps p.tables e below (s₁.setTop (mkF m 0 #[.val (.int (19 : Int32))] [])) t → Steps p.tables e below (s₁.setTop (entryFrame m #[(.int (19 : Int32))] 1)) t := fun t k => castTop (ef1_20 m) k
  obtain ⟨T1, X1, e1, st1⟩ := getS2 X0 hx hZ hown (host := "") (Or.inl (own_w77 hw)) Via.refl e0 S_ResultCode_OBJECT_NOT_PENDING_TRANSFER (g := (mkF m 189 #[.val (.int (19 : Int32))] [])) rfl (hb hby d1_189)
  obtain ⟨fs, hr, hrun, hended, hW, hsame⟩ := X1.leave (v := some (.ref a1)) (fun h => by rw [Bd.returns] at h; cases h)
  refine ⟨_, _, pre0 _ ?_, hrun, hended, _, _, rfl, ?_, ⟨_, rfl⟩, hW, hsame.mono (by decide) (by decide)⟩
  · show Steps p.tables e below (s₁.setTop (mkF m 0 #[.val (.int (19 : Int32))] [])) _
    refine XS.iloadN X0.here hx rfl (hb hby d1_0) rfl ?_
    show Steps p.tables e below (s₁.setTop (mkF m 1 #[.val (.int (19 : Int32))] [(.int (19 : Int32))])) _
    refine XS.ifYes X0.here hx rfl (pc0 := 1) (pc' := 8) rfl (hb hby d1_1) rfl ((if0 _ _).trans (feq (by decide : ¬ ((19 : Int32) = (0 : Int32)))).2) (by decide) (by decide) ?_
    show Steps p.tables e below (s₁.setTop (mkF m 8 #[.val (.int (19 : Int32))] [])) _
    refine XS.iloadN X0.here hx rfl (hb hby d1_8) rfl ?_
    show Steps p.tables e below (s₁.setTop (mkF m 9 #[.val (.int (19 : Int32))] [(.int (19 : Int32))])) _
    refine XS.iconst X0.here hx rfl (hb hby d1_9) ?_
    show Steps p.tables e below (s₁.setTop (mkF m 10 #[.val (.int (19 : Int32))] [(.int (1 : Int32)), (.int (19 : Int32))])) _
    refine XS.icmpYes X0.here hx rfl (pc0 := 10) (pc' := 17) rfl (hb hby d1_10) rfl (feq (by decide : ¬ ((19 : Int32) = (1 : Int32)))).2 (by decide) (by decide) ?_
    show Steps p.tables e below (s₁.setTop (mkF m 17 #[.val (.int (19 : Int32))] [])) _
    refine XS.iloadN X0.here hx rfl (hb hby d1_17) rfl ?_
    show Steps p.tables e below (s₁.setTop (mkF m 18 #[.val (.int (19 : Int32))] [(.int (19 : Int32))])) _
    refine XS.iconst X0.here hx rfl (hb hby d1_18) ?_
    show Steps p.tables e below (s₁.setTop (mkF m 19 #[.val (.int (19 : Int32))] [(.int (2 : Int32)), (.int (19 : Int32))])) _
    refine XS.icmpYes X0.here hx rfl (pc0 := 19) (pc' := 26) rfl (hb hby d1_19) rfl (feq (by decide : ¬ ((19 : Int32) = (2 : Int32)))).2 (by decide) (by decide) ?_
    show Steps p.tables e below (s₁.setTop (mkF m 26 #[.val (.int (19 : Int32))] [])) _
    refine XS.iloadN X0.here hx rfl (hb hby d1_26) rfl ?_
    show Steps p.tables e below (s₁.setTop (mkF m 27 #[.val (.int (19 : Int32))] [(.int (19 : Int32))])) _
    refine XS.iconst X0.here hx rfl (hb hby d1_27) ?_
    show Steps p.tables e below (s₁.setTop (mkF m 28 #[.val (.int (19 : Int32))] [(.int (3 : Int32)), (.int (19 : Int32))])) _
    refine XS.icmpYes X0.here hx rfl (pc0 := 28) (pc' := 35) rfl (hb hby d1_28) rfl (feq (by decide : ¬ ((19 : Int32) = (3 : Int32)))).2 (by decide) (by decide) ?_
    show Steps p.tables e below (s₁.setTop (mkF m 35 #[.val (.int (19 : Int32))] [])) _
    refine XS.iloadN X0.here hx rfl (hb hby d1_35) rfl ?_
    show Steps p.tables e below (s₁.setTop (mkF m 36 #[.val (.int (19 : Int32))] [(.int (19 : Int32))])) _
    refine XS.iconst X0.here hx rfl (hb hby d1_36) ?_
    show Steps p.tables e below (s₁.setTop (mkF m 37 #[.val (.int (19 : Int32))] [(.int (4 : Int32)), (.int (19 : Int32))])) _
    refine XS.icmpYes X0.here hx rfl (pc0 := 37) (pc' := 44) rfl (hb hby d1_37) rfl (feq (by decide : ¬ ((19 : Int32) = (4 : Int32)))).2 (by decide) (by decide) ?_
    show Steps p.tables e below (s₁.setTop (mkF m 44 #[.val (.int (19 : Int32))] [])) _
    refine XS.iloadN X0.here hx rfl (hb hby d1_44) rfl ?_
    show Steps p.tables e below (s₁.setTop (mkF m 45 #[.val (.int (19 : Int32))] [(.int (19 : Int32))])) _
    refine XS.iconst X0.here hx rfl (hb hby d1_45) ?_
    show Steps p.tables e below (s₁.setTop (mkF m 46 #[.val (.int (19 : Int32))] [(.int (5 : Int32)), (.int (19 : Int32))])) _
    refine XS.icmpYes X0.here hx rfl (pc0 := 46) (pc' := 53) rfl (hb hby d1_46) rfl (feq (by decide : ¬ ((19 : Int32) = (5 : Int32)))).2 (by decide) (by decide) ?_
    show Steps p.tables e below (s₁.setTop (mkF m 53 #[.val (.int (19 : Int32))] [])) _
    refine XS.iloadN X0.here hx rfl (hb hby d1_53) rfl ?_
    show Steps p.tables e below (s₁.setTop (mkF m 54 #[.val (.int (19 : Int32))] [(.int (19 : Int32))])) _
    refine XS.bipush X0.here hx rfl (hb hby d1_54) ?_
    show Steps p.tables e below (s₁.setTop (mkF m 56 #[.val (.int (19 : Int32))] [(.int (6 : Int32)), (.int (19 : Int32))])) _
    refine XS.icmpYes X0.here hx rfl (pc0 := 56) (pc' := 63) rfl (hb hby d1_56) rfl (feq (by decide : ¬ ((19 : Int32) = (6 : Int32)))).2 (by decide) (by decide) ?_
    show Steps p.tables e below (s₁.setTop (mkF m 63 #[.val (.int (19 : Int32))] [])) _
    refine XS.iloadN X0.here hx rfl (hb hby d1_63) rfl ?_
    show Steps p.tables e below (s₁.setTop (mkF m 64 #[.val (.int (19 : Int32))] [(.int (19 : Int32))])) _
    refine XS.bipush X0.here hx rfl (hb hby d1_64) ?_
    show Steps p.tables e below (s₁.setTop (mkF m 66 #[.val (.int (19 : Int32))] [(.int (7 : Int32)), (.int (19 : Int32))])) _
    refine XS.icmpYes X0.here hx rfl (pc0 := 66) (pc' := 73) rfl (hb hby d1_66) rfl (feq (by decide : ¬ ((19 : Int32) = (7 : Int32)))).2 (by decide) (by decide) ?_
    show Steps p.tables e below (s₁.setTop (mkF m 73 #[.val (.int (19 : Int32))] [])) _
    refine XS.iloadN X0.here hx rfl (hb hby d1_73) rfl ?_
    show Steps p.tables e below (s₁.setTop (mkF m 74 #[.val (.int (19 : Int32))] [(.int (19 : Int32))])) _
    refine XS.bipush X0.here hx rfl (hb hby d1_74) ?_
    show Steps p.tables e below (s₁.setTop (mkF m 76 #[.val (.int (19 : Int32))] [(.int (8 : Int32)), (.int (19 : Int32))])) _
    refine XS.icmpYes X0.here hx rfl (pc0 := 76) (pc' := 83) rfl (hb hby d1_76) rfl (feq (by decide : ¬ ((19 : Int32) = (8 : Int32)))).2 (by decide) (by decide) ?_
    show Steps p.tables e below (s₁.setTop (mkF m 83 #[.val (.int (19 : Int32))] [])) _
    refine XS.iloadN X0.here hx rfl (hb hby d1_83) rfl ?_
    show Steps p.tables e below (s₁.setTop (mkF m 84 #[.val (.int (19 : Int32))] [(.int (19 : Int32))])) _
    refine XS.bipush X0.here hx rfl (hb hby d1_84) ?_
    show Steps p.tables e below (s₁.setTop (mkF m 86 #[.val (.int (19 : Int32))] [(.int (9 : Int32)), (.int (19 : Int32))])) _
    refine XS.icmpYes X0.here hx rfl (pc0 := 86) (pc' := 93) rfl (hb hby d1_86) rfl (feq (by decide : ¬ ((19 : Int32) = (9 : Int32)))).2 (by decide) (by decide) ?_
    show Steps p.tables e below (s₁.setTop (mkF m 93 #[.val (.int (19 : Int32))] [])) _
    refine XS.iloadN X0.here hx rfl (hb hby d1_93) rfl ?_
    show Steps p.tables e below (s₁.setTop (mkF m 94 #[.val (.int (19 : Int32))] [(.int (19 : Int32))])) _
    refine XS.bipush X0.here hx rfl (hb hby d1_94) ?_
    show Steps p.tables e below (s₁.setTop (mkF m 96 #[.val (.int (19 : Int32))] [(.int (10 : Int32)), (.int (19 : Int32))])) _
    refine XS.icmpYes X0.here hx rfl (pc0 := 96) (pc' := 103) rfl (hb hby d1_96) rfl (feq (by decide : ¬ ((19 : Int32) = (10 : Int32)))).2 (by decide) (by decide) ?_
    show Steps p.tables e below (s₁.setTop (mkF m 103 #[.val (.int (19 : Int32))] [])) _
    refine XS.iloadN X0.here hx rfl (hb hby d1_103) rfl ?_
    show Steps p.tables e below (s₁.setTop (mkF m 104 #[.val (.int (19 : Int32))] [(.int (19 : Int32))])) _
    refine XS.bipush X0.here hx rfl (hb hby d1_104) ?_
    show Steps p.tables e below (s₁.setTop (mkF m 106 #[.val (.int (19 : Int32))] [(.int (11 : Int32)), (.int (19 : Int32))])) _
    refine XS.icmpYes X0.here hx rfl (pc0 := 106) (pc' := 113) rfl (hb hby d1_106) rfl (feq (by decide : ¬ ((19 : Int32) = (11 : Int32)))).2 (by decide) (by decide) ?_
    show Steps p.tables e below (s₁.setTop (mkF m 113 #[.val (.int (19 : Int32))] [])) _
    refine XS.iloadN X0.here hx rfl (hb hby d1_113) rfl ?_
    show Steps p.tables e below (s₁.setTop (mkF m 114 #[.val (.int (19 : Int32))] [(.int (19 : Int32))])) _
    refine XS.bipush X0.here hx rfl (hb hby d1_114) ?_
    show Steps p.tables e below (s₁.setTop (mkF m 116 #[.val (.int (19 : Int32))] [(.int (12 : Int32)), (.int (19 : Int32))])) _
    refine XS.icmpYes X0.here hx rfl (pc0 := 116) (pc' := 123) rfl (hb hby d1_116) rfl (feq (by decide : ¬ ((19 : Int32) = (12 : Int32)))).2 (by decide) (by decide) ?_
    show Steps p.tables e below (s₁.setTop (mkF m 123 #[.val (.int (19 : Int32))] [])) _
    refine XS.iloadN X0.here hx rfl (hb hby d1_123) rfl ?_
    show Steps p.tables e below (s₁.setTop (mkF m 124 #[.val (.int (19 : Int32))] [(.int (19 : Int32))])) _
    refine XS.bipush X0.here hx rfl (hb hby d1_124) ?_
    show Steps p.tables e below (s₁.setTop (mkF m 126 #[.val (.int (19 : Int32))] [(.int (13 : Int32)), (.int (19 : Int32))])) _
    refine XS.icmpYes X0.here hx rfl (pc0 := 126) (pc' := 133) rfl (hb hby d1_126) rfl (feq (by decide : ¬ ((19 : Int32) = (13 : Int32)))).2 (by decide) (by decide) ?_
    show Steps p.tables e below (s₁.setTop (mkF m 133 #[.val (.int (19 : Int32))] [])) _
    refine XS.iloadN X0.here hx rfl (hb hby d1_133) rfl ?_
    show Steps p.tables e below (s₁.setTop (mkF m 134 #[.val (.int (19 : Int32))] [(.int (19 : Int32))])) _
    refine XS.bipush X0.here hx rfl (hb hby d1_134) ?_
    show Steps p.tables e below (s₁.setTop (mkF m 136 #[.val (.int (19 : Int32))] [(.int (14 : Int32)), (.int (19 : Int32))])) _
    refine XS.icmpYes X0.here hx rfl (pc0 := 136) (pc' := 143) rfl (hb hby d1_136) rfl (feq (by decide : ¬ ((19 : Int32) = (14 : Int32)))).2 (by decide) (by decide) ?_
    show Steps p.tables e below (s₁.setTop (mkF m 143 #[.val (.int (19 : Int32))] [])) _
    refine XS.iloadN X0.here hx rfl (hb hby d1_143) rfl ?_
    show Steps p.tables e below (s₁.setTop (mkF m 144 #[.val (.int (19 : Int32))] [(.int (19 : Int32))])) _
    refine XS.bipush X0.here hx rfl (hb hby d1_144) ?_
    show Steps p.tables e below (s₁.setTop (mkF m 146 #[.val (.int (19 : Int32))] [(.int (15 : Int32)), (.int (19 : Int32))])) _
    refine XS.icmpYes X0.here hx rfl (pc0 := 146) (pc' := 153) rfl (hb hby d1_146) rfl (feq (by decide : ¬ ((19 : Int32) = (15 : Int32)))).2 (by decide) (by decide) ?_
    show Steps p.tables e below (s₁.setTop (mkF m 153 #[.val (.int (19 : Int32))] [])) _
    refine XS.iloadN X0.here hx rfl (hb hby d1_153) rfl ?_
    show Steps p.tables e below (s₁.setTop (mkF m 154 #[.val (.int (19 : Int32))] [(.int (19 : Int32))])) _
    refine XS.bipush X0.here hx rfl (hb hby d1_154) ?_
    show Steps p.tables e below (s₁.setTop (mkF m 156 #[.val (.int (19 : Int32))] [(.int (16 : Int32)), (.int (19 : Int32))])) _
    refine XS.icmpYes X0.here hx rfl (pc0 := 156) (pc' := 163) rfl (hb hby d1_156) rfl (feq (by decide : ¬ ((19 : Int32) = (16 : Int32)))).2 (by decide) (by decide) ?_
    show Steps p.tables e below (s₁.setTop (mkF m 163 #[.val (.int (19 : Int32))] [])) _
    refine XS.iloadN X0.here hx rfl (hb hby d1_163) rfl ?_
    show Steps p.tables e below (s₁.setTop (mkF m 164 #[.val (.int (19 : Int32))] [(.int (19 : Int32))])) _
    refine XS.bipush X0.here hx rfl (hb hby d1_164) ?_
    show Steps p.tables e below (s₁.setTop (mkF m 166 #[.val (.int (19 : Int32))] [(.int (17 : Int32)), (.int (19 : Int32))])) _
    refine XS.icmpYes X0.here hx rfl (pc0 := 166) (pc' := 173) rfl (hb hby d1_166) rfl (feq (by decide : ¬ ((19 : Int32) = (17 : Int32)))).2 (by decide) (by decide) ?_
    show Steps p.tables e below (s₁.setTop (mkF m 173 #[.val (.int (19 : Int32))] [])) _
    refine XS.iloadN X0.here hx rfl (hb hby d1_173) rfl ?_
    show Steps p.tables e below (s₁.setTop (mkF m 174 #[.val (.int (19 : Int32))] [(.int (19 : Int32))])) _
    refine XS.bipush X0.here hx rfl (hb hby d1_174) ?_
    show Steps p.tables e below (s₁.setTop (mkF m 176 #[.val (.int (19 : Int32))] [(.int (18 : Int32)), (.int (19 : Int32))])) _
    refine XS.icmpYes X0.here hx rfl (pc0 := 176) (pc' := 183) rfl (hb hby d1_176) rfl (feq (by decide : ¬ ((19 : Int32) = (18 : Int32)))).2 (by decide) (by decide) ?_
    show Steps p.tables e below (s₁.setTop (mkF m 183 #[.val (.int (19 : Int32))] [])) _
    refine XS.iloadN X0.here hx rfl (hb hby d1_183) rfl ?_
    show Steps p.tables e below (s₁.setTop (mkF m 184 #[.val (.int (19 : Int32))] [(.int (19 : Int32))])) _
    refine XS.bipush X0.here hx rfl (hb hby d1_184) ?_
    show Steps p.tables e below (s₁.setTop (mkF m 186 #[.val (.int (19 : Int32))] [(.int (19 : Int32)), (.int (19 : Int32))])) _
    refine XS.icmpNo X0.here hx rfl (hb hby d1_186) rfl (teq (by decide : (19 : Int32) = (19 : Int32))).2 ?_
    show Steps p.tables e below (s₁.setTop (mkF m 189 #[.val (.int (19 : Int32))] [])) _
    refine st1 _ ?_
    show Steps p.tables e below (T1.setTop (mkF m 192 #[.val (.int (19 : Int32))] [(.ref a1)])) _
    exact retOut X1 hx Bd.returns rfl (Or.inr (Or.inr (Or.inr (Or.inr ⟨rfl, rfl, rfl⟩)))) (hb hby d1_192) hr
  · show Q1_20 Z a1 h0 n0 _ T1.heap _
    rw [e1]
    exact ⟨rfl, N0, rfl⟩
theorem ef1_21 (m : MethodId) : entryFrame m #[(.int (20 : Int32))] 1 = mkF m 0 #[.val (.int (20 : Int32))] [] := by first | (simp [entryFrame, mkF, argsToLocals, Value.category]; done) | rfl
def Q1_21 (Z : State) (a1 : Addr) (h0 : Heap) (n0 : Nat) (v : Option Value) (h : Heap) (L : List Loc) : Prop := v = some (.ref a1) ∧ Fr n0 L ∧ h = h0
set_option maxRecDepth 65536 in
set_option maxHeartbeats 40000000 in
theorem rm1_21 (l : Launch) (Z : State) (a0 : Array Value) (hw : ∀ d ∈ tables_1, d.before a0 Z = true) (ws : List Jvm.Cond) (a1 : Addr) (h0 : Heap) (n0 : Nat) (Z0 : n0 ≤ h0.size) (S_ResultCode_OBJECT_EXISTS : Sta Z h0 "com/example/delehat/delehat/protocols/epp/ResultCode" "OBJECT_EXISTS" "Lcom/example/delehat/delehat/protocols/epp/ResultCode;" (.ref a1)) :
    MetFree l (⟨"com/example/delehat/delehat/protocols/epp/PayloadOfPinLaw", "pick", "(I)Lcom/example/delehat/delehat/protocols/epp/ResultCode;"⟩ : MethodName) (head1 (Jvm.Cond.code (⟨"com/example/delehat/delehat/protocols/epp/PayloadOfPinLaw", "pick", "(I)Lcom/example/delehat/delehat/protocols/epp/ResultCode;"⟩ : MethodName) method_2_code 1 (some (.object "com/example/delehat/delehat/protocols/epp/ResultCode")) :: ws) ({ frames := 0, cells := 0, slots := 0, locals := 0 } : Room)) (fun a U => a = #[(.int (20 : Int32))] ∧ Z.Warmed39 U.vm ∧ U.heap = h0) (fun _ _ _ _ _ => True) (fun _ U o U' => ∃ v L, o = .returned v ∧ Q1_21 Z a1 h0 n0 v U'.heap L ∧ FrameEnd U o U' L ({ frames := 0, cells := 0, slots := 0, locals := 0 } : Room).cells ({ frames := 0, cells := 0, slots := 0, locals := 0 } : Room).slots) := by
  refine MetFree.of_bodySF (plainFor_of_name pn_com_example_delehat_delehat_protocols_epp_PayloadOfPinLaw) hisR ?_
  intro p e s m args below meth c s₁ Bd hml0 hP hK
  obtain ⟨rfl, hZ, hh⟩ := hP
  have hx := Bd.exec
  have hby := Bd.bytes
  have hml : c.maxLocals = 1 := hml0
  have hown : s.vm.findClass "com/example/delehat/delehat/protocols/epp/PayloadOfPinLaw" = some m.cls := findClass_of_methodNamed Bd.named
  have hnm := (name_of_methodNamed Bd.named Bd.method).1
  have X0 : Stand p l e ({ frames := 0, cells := 0, slots := 0, locals := 0 } : Room) s m #[(.int (20 : Int32))] below meth c s₁ [] 0 0 := Stand.of_body Bd
  have e0 : s₁.heap = h0 := by rw [← hh, Bd.state]; rfl
  have N0 := Fr.nil n0
  have pre0 : ∀ t, Steps p.tables e below (s₁.setTop (mkF m 0 #[.val (.int (20 : Int32))] [])) t → Steps p.tables e below (s₁.setTop (entryFrame m #[(.int (20 : Int32))] 1)) t := fun t k => castTop (ef1_21 m) k
  obtain ⟨T1, X1, e1, st1⟩ := getS2 X0 hx hZ hown (host := "") (Or.inl (own_w85 hw)) Via.refl e0 S_ResultCode_OBJECT_EXISTS (g := (mkF m 199 #[.val (.int (20 : Int32))] [])) rfl (hb hby d1_199)
  obtain ⟨fs, hr, hrun, hended, hW, hsame⟩ := X1.leave (v := some (.ref a1)) (fun h => by rw [Bd.returns] at h; cases h)
  refine ⟨_, _, pre0 _ ?_, hrun, hended, _, _, rfl, ?_, ⟨_, rfl⟩, hW, hsame.mono (by decide) (by decide)⟩
  · show Steps p.tables e below (s₁.setTop (mkF m 0 #[.val (.int (20 : Int32))] [])) _
    refine XS.iloadN X0.here hx rfl (hb hby d1_0) rfl ?_
    show Steps p.tables e below (s₁.setTop (mkF m 1 #[.val (.int (20 : Int32))] [(.int (20 : Int32))])) _
    refine XS.ifYes X0.here hx rfl (pc0 := 1) (pc' := 8) rfl (hb hby d1_1) rfl ((if0 _ _).trans (feq (by decide : ¬ ((20 : Int32) = (0 : Int32)))).2) (by decide) (by decide) ?_
    show Steps p.tables e below (s₁.setTop (mkF m 8 #[.val (.int (20 : Int32))] [])) _
    refine XS.iloadN X0.here hx rfl (hb hby d1_8) rfl ?_
    show Steps p.tables e below (s₁.setTop (mkF m 9 #[.val (.int (20 : Int32))] [(.int (20 : Int32))])) _
    refine XS.iconst X0.here hx rfl (hb hby d1_9) ?_
    show Steps p.tables e below (s₁.setTop (mkF m 10 #[.val (.int (20 : Int32))] [(.int (1 : Int32)), (.int (20 : Int32))])) _
    refine XS.icmpYes X0.here hx rfl (pc0 := 10) (pc' := 17) rfl (hb hby d1_10) rfl (feq (by decide : ¬ ((20 : Int32) = (1 : Int32)))).2 (by decide) (by decide) ?_
    show Steps p.tables e below (s₁.setTop (mkF m 17 #[.val (.int (20 : Int32))] [])) _
    refine XS.iloadN X0.here hx rfl (hb hby d1_17) rfl ?_
    show Steps p.tables e below (s₁.setTop (mkF m 18 #[.val (.int (20 : Int32))] [(.int (20 : Int32))])) _
    refine XS.iconst X0.here hx rfl (hb hby d1_18) ?_
    show Steps p.tables e below (s₁.setTop (mkF m 19 #[.val (.int (20 : Int32))] [(.int (2 : Int32)), (.int (20 : Int32))])) _
    refine XS.icmpYes X0.here hx rfl (pc0 := 19) (pc' := 26) rfl (hb hby d1_19) rfl (feq (by decide : ¬ ((20 : Int32) = (2 : Int32)))).2 (by decide) (by decide) ?_
    show Steps p.tables e below (s₁.setTop (mkF m 26 #[.val (.int (20 : Int32))] [])) _
    refine XS.iloadN X0.here hx rfl (hb hby d1_26) rfl ?_
    show Steps p.tables e below (s₁.setTop (mkF m 27 #[.val (.int (20 : Int32))] [(.int (20 : Int32))])) _
    refine XS.iconst X0.here hx rfl (hb hby d1_27) ?_
    show Steps p.tables e below (s₁.setTop (mkF m 28 #[.val (.int (20 : Int32))] [(.int (3 : Int32)), (.int (20 : Int32))])) _
    refine XS.icmpYes X0.here hx rfl (pc0 := 28) (pc' := 35) rfl (hb hby d1_28) rfl (feq (by decide : ¬ ((20 : Int32) = (3 : Int32)))).2 (by decide) (by decide) ?_
    show Steps p.tables e below (s₁.setTop (mkF m 35 #[.val (.int (20 : Int32))] [])) _
    refine XS.iloadN X0.here hx rfl (hb hby d1_35) rfl ?_
    show Steps p.tables e below (s₁.setTop (mkF m 36 #[.val (.int (20 : Int32))] [(.int (20 : Int32))])) _
    refine XS.iconst X0.here hx rfl (hb hby d1_36) ?_
    show Steps p.tables e below (s₁.setTop (mkF m 37 #[.val (.int (20 : Int32))] [(.int (4 : Int32)), (.int (20 : Int32))])) _
    refine XS.icmpYes X0.here hx rfl (pc0 := 37) (pc' := 44) rfl (hb hby d1_37) rfl (feq (by decide : ¬ ((20 : Int32) = (4 : Int32)))).2 (by decide) (by decide) ?_
    show Steps p.tables e below (s₁.setTop (mkF m 44 #[.val (.int (20 : Int32))] [])) _
    refine XS.iloadN X0.here hx rfl (hb hby d1_44) rfl ?_
    show Steps p.tables e below (s₁.setTop (mkF m 45 #[.val (.int (20 : Int32))] [(.int (20 : Int32))])) _
    refine XS.iconst X0.here hx rfl (hb hby d1_45) ?_
    show Steps p.tables e below (s₁.setTop (mkF m 46 #[.val (.int (20 : Int32))] [(.int (5 : Int32)), (.int (20 : Int32))])) _
    refine XS.icmpYes X0.here hx rfl (pc0 := 46) (pc' := 53) rfl (hb hby d1_46) rfl (feq (by decide : ¬ ((20 : Int32) = (5 : Int32)))).2 (by decide) (by decide) ?_
    show Steps p.tables e below (s₁.setTop (mkF m 53 #[.val (.int (20 : Int32))] [])) _
    refine XS.iloadN X0.here hx rfl (hb hby d1_53) rfl ?_
    show Steps p.tables e below (s₁.setTop (mkF m 54 #[.val (.int (20 : Int32))] [(.int (20 : Int32))])) _
    refine XS.bipush X0.here hx rfl (hb hby d1_54) ?_
    show Steps p.tables e below (s₁.setTop (mkF m 56 #[.val (.int (20 : Int32))] [(.int (6 : Int32)), (.int (20 : Int32))])) _
    refine XS.icmpYes X0.here hx rfl (pc0 := 56) (pc' := 63) rfl (hb hby d1_56) rfl (feq (by decide : ¬ ((20 : Int32) = (6 : Int32)))).2 (by decide) (by decide) ?_
    show Steps p.tables e below (s₁.setTop (mkF m 63 #[.val (.int (20 : Int32))] [])) _
    refine XS.iloadN X0.here hx rfl (hb hby d1_63) rfl ?_
    show Steps p.tables e below (s₁.setTop (mkF m 64 #[.val (.int (20 : Int32))] [(.int (20 : Int32))])) _
    refine XS.bipush X0.here hx rfl (hb hby d1_64) ?_
    show Steps p.tables e below (s₁.setTop (mkF m 66 #[.val (.int (20 : Int32))] [(.int (7 : Int32)), (.int (20 : Int32))])) _
    refine XS.icmpYes X0.here hx rfl (pc0 := 66) (pc' := 73) rfl (hb hby d1_66) rfl (feq (by decide : ¬ ((20 : Int32) = (7 : Int32)))).2 (by decide) (by decide) ?_
    show Steps p.tables e below (s₁.setTop (mkF m 73 #[.val (.int (20 : Int32))] [])) _
    refine XS.iloadN X0.here hx rfl (hb hby d1_73) rfl ?_
    show Steps p.tables e below (s₁.setTop (mkF m 74 #[.val (.int (20 : Int32))] [(.int (20 : Int32))])) _
    refine XS.bipush X0.here hx rfl (hb hby d1_74) ?_
    show Steps p.tables e below (s₁.setTop (mkF m 76 #[.val (.int (20 : Int32))] [(.int (8 : Int32)), (.int (20 : Int32))])) _
    refine XS.icmpYes X0.here hx rfl (pc0 := 76) (pc' := 83) rfl (hb hby d1_76) rfl (feq (by decide : ¬ ((20 : Int32) = (8 : Int32)))).2 (by decide) (by decide) ?_
    show Steps p.tables e below (s₁.setTop (mkF m 83 #[.val (.int (20 : Int32))] [])) _
    refine XS.iloadN X0.here hx rfl (hb hby d1_83) rfl ?_
    show Steps p.tables e below (s₁.setTop (mkF m 84 #[.val (.int (20 : Int32))] [(.int (20 : Int32))])) _
    refine XS.bipush X0.here hx rfl (hb hby d1_84) ?_
    show Steps p.tables e below (s₁.setTop (mkF m 86 #[.val (.int (20 : Int32))] [(.int (9 : Int32)), (.int (20 : Int32))])) _
    refine XS.icmpYes X0.here hx rfl (pc0 := 86) (pc' := 93) rfl (hb hby d1_86) rfl (feq (by decide : ¬ ((20 : Int32) = (9 : Int32)))).2 (by decide) (by decide) ?_
    show Steps p.tables e below (s₁.setTop (mkF m 93 #[.val (.int (20 : Int32))] [])) _
    refine XS.iloadN X0.here hx rfl (hb hby d1_93) rfl ?_
    show Steps p.tables e below (s₁.setTop (mkF m 94 #[.val (.int (20 : Int32))] [(.int (20 : Int32))])) _
    refine XS.bipush X0.here hx rfl (hb hby d1_94) ?_
    show Steps p.tables e below (s₁.setTop (mkF m 96 #[.val (.int (20 : Int32))] [(.int (10 : Int32)), (.int (20 : Int32))])) _
    refine XS.icmpYes X0.here hx rfl (pc0 := 96) (pc' := 103) rfl (hb hby d1_96) rfl (feq (by decide : ¬ ((20 : Int32) = (10 : Int32)))).2 (by decide) (by decide) ?_
    show Steps p.tables e below (s₁.setTop (mkF m 103 #[.val (.int (20 : Int32))] [])) _
    refine XS.iloadN X0.here hx rfl (hb hby d1_103) rfl ?_
    show Steps p.tables e below (s₁.setTop (mkF m 104 #[.val (.int (20 : Int32))] [(.int (20 : Int32))])) _
    refine XS.bipush X0.here hx rfl (hb hby d1_104) ?_
    show Steps p.tables e below (s₁.setTop (mkF m 106 #[.val (.int (20 : Int32))] [(.int (11 : Int32)), (.int (20 : Int32))])) _
    refine XS.icmpYes X0.here hx rfl (pc0 := 106) (pc' := 113) rfl (hb hby d1_106) rfl (feq (by decide : ¬ ((20 : Int32) = (11 : Int32)))).2 (by decide) (by decide) ?_
    show Steps p.tables e below (s₁.setTop (mkF m 113 #[.val (.int (20 : Int32))] [])) _
    refine XS.iloadN X0.here hx rfl (hb hby d1_113) rfl ?_
    show Steps p.tables e below (s₁.setTop (mkF m 114 #[.val (.int (20 : Int32))] [(.int (20 : Int32))])) _
    refine XS.bipush X0.here hx rfl (hb hby d1_114) ?_
    show Steps p.tables e below (s₁.setTop (mkF m 116 #[.val (.int (20 : Int32))] [(.int (12 : Int32)), (.int (20 : Int32))])) _
    refine XS.icmpYes X0.here hx rfl (pc0 := 116) (pc' := 123) rfl (hb hby d1_116) rfl (feq (by decide : ¬ ((20 : Int32) = (12 : Int32)))).2 (by decide) (by decide) ?_
    show Steps p.tables e below (s₁.setTop (mkF m 123 #[.val (.int (20 : Int32))] [])) _
    refine XS.iloadN X0.here hx rfl (hb hby d1_123) rfl ?_
    show Steps p.tables e below (s₁.setTop (mkF m 124 #[.val (.int (20 : Int32))] [(.int (20 : Int32))])) _
    refine XS.bipush X0.here hx rfl (hb hby d1_124) ?_
    show Steps p.tables e below (s₁.setTop (mkF m 126 #[.val (.int (20 : Int32))] [(.int (13 : Int32)), (.int (20 : Int32))])) _
    refine XS.icmpYes X0.here hx rfl (pc0 := 126) (pc' := 133) rfl (hb hby d1_126) rfl (feq (by decide : ¬ ((20 : Int32) = (13 : Int32)))).2 (by decide) (by decide) ?_
    show Steps p.tables e below (s₁.setTop (mkF m 133 #[.val (.int (20 : Int32))] [])) _
    refine XS.iloadN X0.here hx rfl (hb hby d1_133) rfl ?_
    show Steps p.tables e below (s₁.setTop (mkF m 134 #[.val (.int (20 : Int32))] [(.int (20 : Int32))])) _
    refine XS.bipush X0.here hx rfl (hb hby d1_134) ?_
    show Steps p.tables e below (s₁.setTop (mkF m 136 #[.val (.int (20 : Int32))] [(.int (14 : Int32)), (.int (20 : Int32))])) _
    refine XS.icmpYes X0.here hx rfl (pc0 := 136) (pc' := 143) rfl (hb hby d1_136) rfl (feq (by decide : ¬ ((20 : Int32) = (14 : Int32)))).2 (by decide) (by decide) ?_
    show Steps p.tables e below (s₁.setTop (mkF m 143 #[.val (.int (20 : Int32))] [])) _
    refine XS.iloadN X0.here hx rfl (hb hby d1_143) rfl ?_
    show Steps p.tables e below (s₁.setTop (mkF m 144 #[.val (.int (20 : Int32))] [(.int (20 : Int32))])) _
    refine XS.bipush X0.here hx rfl (hb hby d1_144) ?_
    show Steps p.tables e below (s₁.setTop (mkF m 146 #[.val (.int (20 : Int32))] [(.int (15 : Int32)), (.int (20 : Int32))])) _
    refine XS.icmpYes X0.here hx rfl (pc0 := 146) (pc' := 153) rfl (hb hby d1_146) rfl (feq (by decide : ¬ ((20 : Int32) = (15 : Int32)))).2 (by decide) (by decide) ?_
    show Steps p.tables e below (s₁.setTop (mkF m 153 #[.val (.int (20 : Int32))] [])) _
    refine XS.iloadN X0.here hx rfl (hb hby d1_153) rfl ?_
    show Steps p.tables e below (s₁.setTop (mkF m 154 #[.val (.int (20 : Int32))] [(.int (20 : Int32))])) _
    refine XS.bipush X0.here hx rfl (hb hby d1_154) ?_
    show Steps p.tables e below (s₁.setTop (mkF m 156 #[.val (.int (20 : Int32))] [(.int (16 : Int32)), (.int (20 : Int32))])) _
    refine XS.icmpYes X0.here hx rfl (pc0 := 156) (pc' := 163) rfl (hb hby d1_156) rfl (feq (by decide : ¬ ((20 : Int32) = (16 : Int32)))).2 (by decide) (by decide) ?_
    show Steps p.tables e below (s₁.setTop (mkF m 163 #[.val (.int (20 : Int32))] [])) _
    refine XS.iloadN X0.here hx rfl (hb hby d1_163) rfl ?_
    show Steps p.tables e below (s₁.setTop (mkF m 164 #[.val (.int (20 : Int32))] [(.int (20 : Int32))])) _
    refine XS.bipush X0.here hx rfl (hb hby d1_164) ?_
    show Steps p.tables e below (s₁.setTop (mkF m 166 #[.val (.int (20 : Int32))] [(.int (17 : Int32)), (.int (20 : Int32))])) _
    refine XS.icmpYes X0.here hx rfl (pc0 := 166) (pc' := 173) rfl (hb hby d1_166) rfl (feq (by decide : ¬ ((20 : Int32) = (17 : Int32)))).2 (by decide) (by decide) ?_
    show Steps p.tables e below (s₁.setTop (mkF m 173 #[.val (.int (20 : Int32))] [])) _
    refine XS.iloadN X0.here hx rfl (hb hby d1_173) rfl ?_
    show Steps p.tables e below (s₁.setTop (mkF m 174 #[.val (.int (20 : Int32))] [(.int (20 : Int32))])) _
    refine XS.bipush X0.here hx rfl (hb hby d1_174) ?_
    show Steps p.tables e below (s₁.setTop (mkF m 176 #[.val (.int (20 : Int32))] [(.int (18 : Int32)), (.int (20 : Int32))])) _
    refine XS.icmpYes X0.here hx rfl (pc0 := 176) (pc' := 183) rfl (hb hby d1_176) rfl (feq (by decide : ¬ ((20 : Int32) = (18 : Int32)))).2 (by decide) (by decide) ?_
    show Steps p.tables e below (s₁.setTop (mkF m 183 #[.val (.int (20 : Int32))] [])) _
    refine XS.iloadN X0.here hx rfl (hb hby d1_183) rfl ?_
    show Steps p.tables e below (s₁.setTop (mkF m 184 #[.val (.int (20 : Int32))] [(.int (20 : Int32))])) _
    refine XS.bipush X0.here hx rfl (hb hby d1_184) ?_
    show Steps p.tables e below (s₁.setTop (mkF m 186 #[.val (.int (20 : Int32))] [(.int (19 : Int32)), (.int (20 : Int32))])) _
    refine XS.icmpYes X0.here hx rfl (pc0 := 186) (pc' := 193) rfl (hb hby d1_186) rfl (feq (by decide : ¬ ((20 : Int32) = (19 : Int32)))).2 (by decide) (by decide) ?_
    show Steps p.tables e below (s₁.setTop (mkF m 193 #[.val (.int (20 : Int32))] [])) _
    refine XS.iloadN X0.here hx rfl (hb hby d1_193) rfl ?_
    show Steps p.tables e below (s₁.setTop (mkF m 194 #[.val (.int (20 : Int32))] [(.int (20 : Int32))])) _
    refine XS.bipush X0.here hx rfl (hb hby d1_194) ?_
    show Steps p.tables e below (s₁.setTop (mkF m 196 #[.val (.int (20 : Int32))] [(.int (20 : Int32)), (.int (20 : Int32))])) _
    refine XS.icmpNo X0.here hx rfl (hb hby d1_196) rfl (teq (by decide : (20 : Int32) = (20 : Int32))).2 ?_
    show Steps p.tables e below (s₁.setTop (mkF m 199 #[.val (.int (20 : Int32))] [])) _
    refine st1 _ ?_
    show Steps p.tables e below (T1.setTop (mkF m 202 #[.val (.int (20 : Int32))] [(.ref a1)])) _
    exact retOut X1 hx Bd.returns rfl (Or.inr (Or.inr (Or.inr (Or.inr ⟨rfl, rfl, rfl⟩)))) (hb hby d1_202) hr
  · show Q1_21 Z a1 h0 n0 _ T1.heap _
    rw [e1]
    exact ⟨rfl, N0, rfl⟩
theorem ef1_22 (m : MethodId) : entryFrame m #[(.int (21 : Int32))] 1 = mkF m 0 #[.val (.int (21 : Int32))] [] := by first | (simp [entryFrame, mkF, argsToLocals, Value.category]; done) | rfl
def Q1_22 (Z : State) (a1 : Addr) (h0 : Heap) (n0 : Nat) (v : Option Value) (h : Heap) (L : List Loc) : Prop := v = some (.ref a1) ∧ Fr n0 L ∧ h = h0
set_option maxRecDepth 65536 in
set_option maxHeartbeats 40000000 in
theorem rm1_22 (l : Launch) (Z : State) (a0 : Array Value) (hw : ∀ d ∈ tables_1, d.before a0 Z = true) (ws : List Jvm.Cond) (a1 : Addr) (h0 : Heap) (n0 : Nat) (Z0 : n0 ≤ h0.size) (S_ResultCode_OBJECT_DOES_NOT_EXIST : Sta Z h0 "com/example/delehat/delehat/protocols/epp/ResultCode" "OBJECT_DOES_NOT_EXIST" "Lcom/example/delehat/delehat/protocols/epp/ResultCode;" (.ref a1)) :
    MetFree l (⟨"com/example/delehat/delehat/protocols/epp/PayloadOfPinLaw", "pick", "(I)Lcom/example/delehat/delehat/protocols/epp/ResultCode;"⟩ : MethodName) (head1 (Jvm.Cond.code (⟨"com/example/delehat/delehat/protocols/epp/PayloadOfPinLaw", "pick", "(I)Lcom/example/delehat/delehat/protocols/epp/ResultCode;"⟩ : MethodName) method_2_code 1 (some (.object "com/example/delehat/delehat/protocols/epp/ResultCode")) :: ws) ({ frames := 0, cells := 0, slots := 0, locals := 0 } : Room)) (fun a U => a = #[(.int (21 : Int32))] ∧ Z.Warmed39 U.vm ∧ U.heap = h0) (fun _ _ _ _ _ => True) (fun _ U o U' => ∃ v L, o = .returned v ∧ Q1_22 Z a1 h0 n0 v U'.heap L ∧ FrameEnd U o U' L ({ frames := 0, cells := 0, slots := 0, locals := 0 } : Room).cells ({ frames := 0, cells := 0, slots := 0, locals := 0 } : Room).slots) := by
  refine MetFree.of_bodySF (plainFor_of_name pn_com_example_delehat_delehat_protocols_epp_PayloadOfPinLaw) hisR ?_
  intro p e s m args below meth c s₁ Bd hml0 hP hK
  obtain ⟨rfl, hZ, hh⟩ := hP
  have hx := Bd.exec
  have hby := Bd.bytes
  have hml : c.maxLocals = 1 := hml0
  have hown : s.vm.findClass "com/example/delehat/delehat/protocols/epp/PayloadOfPinLaw" = some m.cls := findClass_of_methodNamed Bd.named
  have hnm := (name_of_methodNamed Bd.named Bd.method).1
  have X0 : Stand p l e ({ frames := 0, cells := 0, slots := 0, locals := 0 } : Room) s m #[(.int (21 : Int32))] below meth c s₁ [] 0 0 := Stand.of_body Bd
  have e0 : s₁.heap = h0 := by rw [← hh, Bd.state]; rfl
  have N0 := Fr.nil n0
  have pre0 : ∀ t, Steps p.tables e below (s₁.setTop (mkF m 0 #[.val (.int (21 : Int32))] [])) t → Steps p.tables e below (s₁.setTop (entryFrame m #[(.int (21 : Int32))] 1)) t := fun t k => castTop (ef1_22 m) k
  obtain ⟨T1, X1, e1, st1⟩ := getS2 X0 hx hZ hown (host := "") (Or.inl (own_w105 hw)) Via.refl e0 S_ResultCode_OBJECT_DOES_NOT_EXIST (g := (mkF m 209 #[.val (.int (21 : Int32))] [])) rfl (hb hby d1_209)
  obtain ⟨fs, hr, hrun, hended, hW, hsame⟩ := X1.leave (v := some (.ref a1)) (fun h => by rw [Bd.returns] at h; cases h)
  refine ⟨_, _, pre0 _ ?_, hrun, hended, _, _, rfl, ?_, ⟨_, rfl⟩, hW, hsame.mono (by decide) (by decide)⟩
  · show Steps p.tables e below (s₁.setTop (mkF m 0 #[.val (.int (21 : Int32))] [])) _
    refine XS.iloadN X0.here hx rfl (hb hby d1_0) rfl ?_
    show Steps p.tables e below (s₁.setTop (mkF m 1 #[.val (.int (21 : Int32))] [(.int (21 : Int32))])) _
    refine XS.ifYes X0.here hx rfl (pc0 := 1) (pc' := 8) rfl (hb hby d1_1) rfl ((if0 _ _).trans (feq (by decide : ¬ ((21 : Int32) = (0 : Int32)))).2) (by decide) (by decide) ?_
    show Steps p.tables e below (s₁.setTop (mkF m 8 #[.val (.int (21 : Int32))] [])) _
    refine XS.iloadN X0.here hx rfl (hb hby d1_8) rfl ?_
    show Steps p.tables e below (s₁.setTop (mkF m 9 #[.val (.int (21 : Int32))] [(.int (21 : Int32))])) _
    refine XS.iconst X0.here hx rfl (hb hby d1_9) ?_
    show Steps p.tables e below (s₁.setTop (mkF m 10 #[.val (.int (21 : Int32))] [(.int (1 : Int32)), (.int (21 : Int32))])) _
    refine XS.icmpYes X0.here hx rfl (pc0 := 10) (pc' := 17) rfl (hb hby d1_10) rfl (feq (by decide : ¬ ((21 : Int32) = (1 : Int32)))).2 (by decide) (by decide) ?_
    show Steps p.tables e below (s₁.setTop (mkF m 17 #[.val (.int (21 : Int32))] [])) _
    refine XS.iloadN X0.here hx rfl (hb hby d1_17) rfl ?_
    show Steps p.tables e below (s₁.setTop (mkF m 18 #[.val (.int (21 : Int32))] [(.int (21 : Int32))])) _
    refine XS.iconst X0.here hx rfl (hb hby d1_18) ?_
    show Steps p.tables e below (s₁.setTop (mkF m 19 #[.val (.int (21 : Int32))] [(.int (2 : Int32)), (.int (21 : Int32))])) _
    refine XS.icmpYes X0.here hx rfl (pc0 := 19) (pc' := 26) rfl (hb hby d1_19) rfl (feq (by decide : ¬ ((21 : Int32) = (2 : Int32)))).2 (by decide) (by decide) ?_
    show Steps p.tables e below (s₁.setTop (mkF m 26 #[.val (.int (21 : Int32))] [])) _
    refine XS.iloadN X0.here hx rfl (hb hby d1_26) rfl ?_
    show Steps p.tables e below (s₁.setTop (mkF m 27 #[.val (.int (21 : Int32))] [(.int (21 : Int32))])) _
    refine XS.iconst X0.here hx rfl (hb hby d1_27) ?_
    show Steps p.tables e below (s₁.setTop (mkF m 28 #[.val (.int (21 : Int32))] [(.int (3 : Int32)), (.int (21 : Int32))])) _
    refine XS.icmpYes X0.here hx rfl (pc0 := 28) (pc' := 35) rfl (hb hby d1_28) rfl (feq (by decide : ¬ ((21 : Int32) = (3 : Int32)))).2 (by decide) (by decide) ?_
    show Steps p.tables e below (s₁.setTop (mkF m 35 #[.val (.int (21 : Int32))] [])) _
    refine XS.iloadN X0.here hx rfl (hb hby d1_35) rfl ?_
    show Steps p.tables e below (s₁.setTop (mkF m 36 #[.val (.int (21 : Int32))] [(.int (21 : Int32))])) _
    refine XS.iconst X0.here hx rfl (hb hby d1_36) ?_
    show Steps p.tables e below (s₁.setTop (mkF m 37 #[.val (.int (21 : Int32))] [(.int (4 : Int32)), (.int (21 : Int32))])) _
    refine XS.icmpYes X0.here hx rfl (pc0 := 37) (pc' := 44) rfl (hb hby d1_37) rfl (feq (by decide : ¬ ((21 : Int32) = (4 : Int32)))).2 (by decide) (by decide) ?_
    show Steps p.tables e below (s₁.setTop (mkF m 44 #[.val (.int (21 : Int32))] [])) _
    refine XS.iloadN X0.here hx rfl (hb hby d1_44) rfl ?_
    show Steps p.tables e below (s₁.setTop (mkF m 45 #[.val (.int (21 : Int32))] [(.int (21 : Int32))])) _
    refine XS.iconst X0.here hx rfl (hb hby d1_45) ?_
    show Steps p.tables e below (s₁.setTop (mkF m 46 #[.val (.int (21 : Int32))] [(.int (5 : Int32)), (.int (21 : Int32))])) _
    refine XS.icmpYes X0.here hx rfl (pc0 := 46) (pc' := 53) rfl (hb hby d1_46) rfl (feq (by decide : ¬ ((21 : Int32) = (5 : Int32)))).2 (by decide) (by decide) ?_
    show Steps p.tables e below (s₁.setTop (mkF m 53 #[.val (.int (21 : Int32))] [])) _
    refine XS.iloadN X0.here hx rfl (hb hby d1_53) rfl ?_
    show Steps p.tables e below (s₁.setTop (mkF m 54 #[.val (.int (21 : Int32))] [(.int (21 : Int32))])) _
    refine XS.bipush X0.here hx rfl (hb hby d1_54) ?_
    show Steps p.tables e below (s₁.setTop (mkF m 56 #[.val (.int (21 : Int32))] [(.int (6 : Int32)), (.int (21 : Int32))])) _
    refine XS.icmpYes X0.here hx rfl (pc0 := 56) (pc' := 63) rfl (hb hby d1_56) rfl (feq (by decide : ¬ ((21 : Int32) = (6 : Int32)))).2 (by decide) (by decide) ?_
    show Steps p.tables e below (s₁.setTop (mkF m 63 #[.val (.int (21 : Int32))] [])) _
    refine XS.iloadN X0.here hx rfl (hb hby d1_63) rfl ?_
    show Steps p.tables e below (s₁.setTop (mkF m 64 #[.val (.int (21 : Int32))] [(.int (21 : Int32))])) _
    refine XS.bipush X0.here hx rfl (hb hby d1_64) ?_
    show Steps p.tables e below (s₁.setTop (mkF m 66 #[.val (.int (21 : Int32))] [(.int (7 : Int32)), (.int (21 : Int32))])) _
    refine XS.icmpYes X0.here hx rfl (pc0 := 66) (pc' := 73) rfl (hb hby d1_66) rfl (feq (by decide : ¬ ((21 : Int32) = (7 : Int32)))).2 (by decide) (by decide) ?_
    show Steps p.tables e below (s₁.setTop (mkF m 73 #[.val (.int (21 : Int32))] [])) _
    refine XS.iloadN X0.here hx rfl (hb hby d1_73) rfl ?_
    show Steps p.tables e below (s₁.setTop (mkF m 74 #[.val (.int (21 : Int32))] [(.int (21 : Int32))])) _
    refine XS.bipush X0.here hx rfl (hb hby d1_74) ?_
    show Steps p.tables e below (s₁.setTop (mkF m 76 #[.val (.int (21 : Int32))] [(.int (8 : Int32)), (.int (21 : Int32))])) _
    refine XS.icmpYes X0.here hx rfl (pc0 := 76) (pc' := 83) rfl (hb hby d1_76) rfl (feq (by decide : ¬ ((21 : Int32) = (8 : Int32)))).2 (by decide) (by decide) ?_
    show Steps p.tables e below (s₁.setTop (mkF m 83 #[.val (.int (21 : Int32))] [])) _
    refine XS.iloadN X0.here hx rfl (hb hby d1_83) rfl ?_
    show Steps p.tables e below (s₁.setTop (mkF m 84 #[.val (.int (21 : Int32))] [(.int (21 : Int32))])) _
    refine XS.bipush X0.here hx rfl (hb hby d1_84) ?_
    show Steps p.tables e below (s₁.setTop (mkF m 86 #[.val (.int (21 : Int32))] [(.int (9 : Int32)), (.int (21 : Int32))])) _
    refine XS.icmpYes X0.here hx rfl (pc0 := 86) (pc' := 93) rfl (hb hby d1_86) rfl (feq (by decide : ¬ ((21 : Int32) = (9 : Int32)))).2 (by decide) (by decide) ?_
    show Steps p.tables e below (s₁.setTop (mkF m 93 #[.val (.int (21 : Int32))] [])) _
    refine XS.iloadN X0.here hx rfl (hb hby d1_93) rfl ?_
    show Steps p.tables e below (s₁.setTop (mkF m 94 #[.val (.int (21 : Int32))] [(.int (21 : Int32))])) _
    refine XS.bipush X0.here hx rfl (hb hby d1_94) ?_
    show Steps p.tables e below (s₁.setTop (mkF m 96 #[.val (.int (21 : Int32))] [(.int (10 : Int32)), (.int (21 : Int32))])) _
    refine XS.icmpYes X0.here hx rfl (pc0 := 96) (pc' := 103) rfl (hb hby d1_96) rfl (feq (by decide : ¬ ((21 : Int32) = (10 : Int32)))).2 (by decide) (by decide) ?_
    show Steps p.tables e below (s₁.setTop (mkF m 103 #[.val (.int (21 : Int32))] [])) _
    refine XS.iloadN X0.here hx rfl (hb hby d1_103) rfl ?_
    show Steps p.tables e below (s₁.setTop (mkF m 104 #[.val (.int (21 : Int32))] [(.int (21 : Int32))])) _
    refine XS.bipush X0.here hx rfl (hb hby d1_104) ?_
    show Steps p.tables e below (s₁.setTop (mkF m 106 #[.val (.int (21 : Int32))] [(.int (11 : Int32)), (.int (21 : Int32))])) _
    refine XS.icmpYes X0.here hx rfl (pc0 := 106) (pc' := 113) rfl (hb hby d1_106) rfl (feq (by decide : ¬ ((21 : Int32) = (11 : Int32)))).2 (by decide) (by decide) ?_
    show Steps p.tables e below (s₁.setTop (mkF m 113 #[.val (.int (21 : Int32))] [])) _
    refine XS.iloadN X0.here hx rfl (hb hby d1_113) rfl ?_
    show Steps p.tables e below (s₁.setTop (mkF m 114 #[.val (.int (21 : Int32))] [(.int (21 : Int32))])) _
    refine XS.bipush X0.here hx rfl (hb hby d1_114) ?_
    show Steps p.tables e below (s₁.setTop (mkF m 116 #[.val (.int (21 : Int32))] [(.int (12 : Int32)), (.int (21 : Int32))])) _
    refine XS.icmpYes X0.here hx rfl (pc0 := 116) (pc' := 123) rfl (hb hby d1_116) rfl (feq (by decide : ¬ ((21 : Int32) = (12 : Int32)))).2 (by decide) (by decide) ?_
    show Steps p.tables e below (s₁.setTop (mkF m 123 #[.val (.int (21 : Int32))] [])) _
    refine XS.iloadN X0.here hx rfl (hb hby d1_123) rfl ?_
    show Steps p.tables e below (s₁.setTop (mkF m 124 #[.val (.int (21 : Int32))] [(.int (21 : Int32))])) _
    refine XS.bipush X0.here hx rfl (hb hby d1_124) ?_
    show Steps p.tables e below (s₁.setTop (mkF m 126 #[.val (.int (21 : Int32))] [(.int (13 : Int32)), (.int (21 : Int32))])) _
    refine XS.icmpYes X0.here hx rfl (pc0 := 126) (pc' := 133) rfl (hb hby d1_126) rfl (feq (by decide : ¬ ((21 : Int32) = (13 : Int32)))).2 (by decide) (by decide) ?_
    show Steps p.tables e below (s₁.setTop (mkF m 133 #[.val (.int (21 : Int32))] [])) _
    refine XS.iloadN X0.here hx rfl (hb hby d1_133) rfl ?_
    show Steps p.tables e below (s₁.setTop (mkF m 134 #[.val (.int (21 : Int32))] [(.int (21 : Int32))])) _
    refine XS.bipush X0.here hx rfl (hb hby d1_134) ?_
    show Steps p.tables e below (s₁.setTop (mkF m 136 #[.val (.int (21 : Int32))] [(.int (14 : Int32)), (.int (21 : Int32))])) _
    refine XS.icmpYes X0.here hx rfl (pc0 := 136) (pc' := 143) rfl (hb hby d1_136) rfl (feq (by decide : ¬ ((21 : Int32) = (14 : Int32)))).2 (by decide) (by decide) ?_
    show Steps p.tables e below (s₁.setTop (mkF m 143 #[.val (.int (21 : Int32))] [])) _
    refine XS.iloadN X0.here hx rfl (hb hby d1_143) rfl ?_
    show Steps p.tables e below (s₁.setTop (mkF m 144 #[.val (.int (21 : Int32))] [(.int (21 : Int32))])) _
    refine XS.bipush X0.here hx rfl (hb hby d1_144) ?_
    show Steps p.tables e below (s₁.setTop (mkF m 146 #[.val (.int (21 : Int32))] [(.int (15 : Int32)), (.int (21 : Int32))])) _
    refine XS.icmpYes X0.here hx rfl (pc0 := 146) (pc' := 153) rfl (hb hby d1_146) rfl (feq (by decide : ¬ ((21 : Int32) = (15 : Int32)))).2 (by decide) (by decide) ?_
    show Steps p.tables e below (s₁.setTop (mkF m 153 #[.val (.int (21 : Int32))] [])) _
    refine XS.iloadN X0.here hx rfl (hb hby d1_153) rfl ?_
    show Steps p.tables e below (s₁.setTop (mkF m 154 #[.val (.int (21 : Int32))] [(.int (21 : Int32))])) _
    refine XS.bipush X0.here hx rfl (hb hby d1_154) ?_
    show Steps p.tables e below (s₁.setTop (mkF m 156 #[.val (.int (21 : Int32))] [(.int (16 : Int32)), (.int (21 : Int32))])) _
    refine XS.icmpYes X0.here hx rfl (pc0 := 156) (pc' := 163) rfl (hb hby d1_156) rfl (feq (by decide : ¬ ((21 : Int32) = (16 : Int32)))).2 (by decide) (by decide) ?_
    show Steps p.tables e below (s₁.setTop (mkF m 163 #[.val (.int (21 : Int32))] [])) _
    refine XS.iloadN X0.here hx rfl (hb hby d1_163) rfl ?_
    show Steps p.tables e below (s₁.setTop (mkF m 164 #[.val (.int (21 : Int32))] [(.int (21 : Int32))])) _
    refine XS.bipush X0.here hx rfl (hb hby d1_164) ?_
    show Steps p.tables e below (s₁.setTop (mkF m 166 #[.val (.int (21 : Int32))] [(.int (17 : Int32)), (.int (21 : Int32))])) _
    refine XS.icmpYes X0.here hx rfl (pc0 := 166) (pc' := 173) rfl (hb hby d1_166) rfl (feq (by decide : ¬ ((21 : Int32) = (17 : Int32)))).2 (by decide) (by decide) ?_
    show Steps p.tables e below (s₁.setTop (mkF m 173 #[.val (.int (21 : Int32))] [])) _
    refine XS.iloadN X0.here hx rfl (hb hby d1_173) rfl ?_
    show Steps p.tables e below (s₁.setTop (mkF m 174 #[.val (.int (21 : Int32))] [(.int (21 : Int32))])) _
    refine XS.bipush X0.here hx rfl (hb hby d1_174) ?_
    show Steps p.tables e below (s₁.setTop (mkF m 176 #[.val (.int (21 : Int32))] [(.int (18 : Int32)), (.int (21 : Int32))])) _
    refine XS.icmpYes X0.here hx rfl (pc0 := 176) (pc' := 183) rfl (hb hby d1_176) rfl (feq (by decide : ¬ ((21 : Int32) = (18 : Int32)))).2 (by decide) (by decide) ?_
    show Steps p.tables e below (s₁.setTop (mkF m 183 #[.val (.int (21 : Int32))] [])) _
    refine XS.iloadN X0.here hx rfl (hb hby d1_183) rfl ?_
    show Steps p.tables e below (s₁.setTop (mkF m 184 #[.val (.int (21 : Int32))] [(.int (21 : Int32))])) _
    refine XS.bipush X0.here hx rfl (hb hby d1_184) ?_
    show Steps p.tables e below (s₁.setTop (mkF m 186 #[.val (.int (21 : Int32))] [(.int (19 : Int32)), (.int (21 : Int32))])) _
    refine XS.icmpYes X0.here hx rfl (pc0 := 186) (pc' := 193) rfl (hb hby d1_186) rfl (feq (by decide : ¬ ((21 : Int32) = (19 : Int32)))).2 (by decide) (by decide) ?_
    show Steps p.tables e below (s₁.setTop (mkF m 193 #[.val (.int (21 : Int32))] [])) _
    refine XS.iloadN X0.here hx rfl (hb hby d1_193) rfl ?_
    show Steps p.tables e below (s₁.setTop (mkF m 194 #[.val (.int (21 : Int32))] [(.int (21 : Int32))])) _
    refine XS.bipush X0.here hx rfl (hb hby d1_194) ?_
    show Steps p.tables e below (s₁.setTop (mkF m 196 #[.val (.int (21 : Int32))] [(.int (20 : Int32)), (.int (21 : Int32))])) _
    refine XS.icmpYes X0.here hx rfl (pc0 := 196) (pc' := 203) rfl (hb hby d1_196) rfl (feq (by decide : ¬ ((21 : Int32) = (20 : Int32)))).2 (by decide) (by decide) ?_
    show Steps p.tables e below (s₁.setTop (mkF m 203 #[.val (.int (21 : Int32))] [])) _
    refine XS.iloadN X0.here hx rfl (hb hby d1_203) rfl ?_
    show Steps p.tables e below (s₁.setTop (mkF m 204 #[.val (.int (21 : Int32))] [(.int (21 : Int32))])) _
    refine XS.bipush X0.here hx rfl (hb hby d1_204) ?_
    show Steps p.tables e below (s₁.setTop (mkF m 206 #[.val (.int (21 : Int32))] [(.int (21 : Int32)), (.int (21 : Int32))])) _
    refine XS.icmpNo X0.here hx rfl (hb hby d1_206) rfl (teq (by decide : (21 : Int32) = (21 : Int32))).2 ?_
    show Steps p.tables e below (s₁.setTop (mkF m 209 #[.val (.int (21 : Int32))] [])) _
    refine st1 _ ?_
    show Steps p.tables e below (T1.setTop (mkF m 212 #[.val (.int (21 : Int32))] [(.ref a1)])) _
    exact retOut X1 hx Bd.returns rfl (Or.inr (Or.inr (Or.inr (Or.inr ⟨rfl, rfl, rfl⟩)))) (hb hby d1_212) hr
  · show Q1_22 Z a1 h0 n0 _ T1.heap _
    rw [e1]
    exact ⟨rfl, N0, rfl⟩
theorem ef1_23 (m : MethodId) : entryFrame m #[(.int (22 : Int32))] 1 = mkF m 0 #[.val (.int (22 : Int32))] [] := by first | (simp [entryFrame, mkF, argsToLocals, Value.category]; done) | rfl
def Q1_23 (Z : State) (a1 : Addr) (h0 : Heap) (n0 : Nat) (v : Option Value) (h : Heap) (L : List Loc) : Prop := v = some (.ref a1) ∧ Fr n0 L ∧ h = h0
set_option maxRecDepth 65536 in
set_option maxHeartbeats 40000000 in
theorem rm1_23 (l : Launch) (Z : State) (a0 : Array Value) (hw : ∀ d ∈ tables_1, d.before a0 Z = true) (ws : List Jvm.Cond) (a1 : Addr) (h0 : Heap) (n0 : Nat) (Z0 : n0 ≤ h0.size) (S_ResultCode_OBJECT_STATUS_PROHIBITS_OPERATION : Sta Z h0 "com/example/delehat/delehat/protocols/epp/ResultCode" "OBJECT_STATUS_PROHIBITS_OPERATION" "Lcom/example/delehat/delehat/protocols/epp/ResultCode;" (.ref a1)) :
    MetFree l (⟨"com/example/delehat/delehat/protocols/epp/PayloadOfPinLaw", "pick", "(I)Lcom/example/delehat/delehat/protocols/epp/ResultCode;"⟩ : MethodName) (head1 (Jvm.Cond.code (⟨"com/example/delehat/delehat/protocols/epp/PayloadOfPinLaw", "pick", "(I)Lcom/example/delehat/delehat/protocols/epp/ResultCode;"⟩ : MethodName) method_2_code 1 (some (.object "com/example/delehat/delehat/protocols/epp/ResultCode")) :: ws) ({ frames := 0, cells := 0, slots := 0, locals := 0 } : Room)) (fun a U => a = #[(.int (22 : Int32))] ∧ Z.Warmed39 U.vm ∧ U.heap = h0) (fun _ _ _ _ _ => True) (fun _ U o U' => ∃ v L, o = .returned v ∧ Q1_23 Z a1 h0 n0 v U'.heap L ∧ FrameEnd U o U' L ({ frames := 0, cells := 0, slots := 0, locals := 0 } : Room).cells ({ frames := 0, cells := 0, slots := 0, locals := 0 } : Room).slots) := by
  refine MetFree.of_bodySF (plainFor_of_name pn_com_example_delehat_delehat_protocols_epp_PayloadOfPinLaw) hisR ?_
  intro p e s m args below meth c s₁ Bd hml0 hP hK
  obtain ⟨rfl, hZ, hh⟩ := hP
  have hx := Bd.exec
  have hby := Bd.bytes
  have hml : c.maxLocals = 1 := hml0
  have hown : s.vm.findClass "com/example/delehat/delehat/protocols/epp/PayloadOfPinLaw" = some m.cls := findClass_of_methodNamed Bd.named
  have hnm := (name_of_methodNamed Bd.named Bd.method).1
  have X0 : Stand p l e ({ frames := 0, cells := 0, slots := 0, locals := 0 } : Room) s m #[(.int (22 : Int32))] below meth c s₁ [] 0 0 := Stand.of_body Bd
  have e0 : s₁.heap = h0 := by rw [← hh, Bd.state]; rfl
  have N0 := Fr.nil n0
  have pre0 : ∀ t, Steps p.tables e below (s₁.setTop (mkF m 0 #[.val (.int (22 : Int32))] [])) t → Steps p.tables e below (s₁.setTop (entryFrame m #[(.int (22 : Int32))] 1)) t := fun t k => castTop (ef1_23 m) k
  obtain ⟨T1, X1, e1, st1⟩ := getS2 X0 hx hZ hown (host := "") (Or.inl (own_w93 hw)) Via.refl e0 S_ResultCode_OBJECT_STATUS_PROHIBITS_OPERATION (g := (mkF m 219 #[.val (.int (22 : Int32))] [])) rfl (hb hby d1_219)
  obtain ⟨fs, hr, hrun, hended, hW, hsame⟩ := X1.leave (v := some (.ref a1)) (fun h => by rw [Bd.returns] at h; cases h)
  refine ⟨_, _, pre0 _ ?_, hrun, hended, _, _, rfl, ?_, ⟨_, rfl⟩, hW, hsame.mono (by decide) (by decide)⟩
  · show Steps p.tables e below (s₁.setTop (mkF m 0 #[.val (.int (22 : Int32))] [])) _
    refine XS.iloadN X0.here hx rfl (hb hby d1_0) rfl ?_
    show Steps p.tables e below (s₁.setTop (mkF m 1 #[.val (.int (22 : Int32))] [(.int (22 : Int32))])) _
    refine XS.ifYes X0.here hx rfl (pc0 := 1) (pc' := 8) rfl (hb hby d1_1) rfl ((if0 _ _).trans (feq (by decide : ¬ ((22 : Int32) = (0 : Int32)))).2) (by decide) (by decide) ?_
    show Steps p.tables e below (s₁.setTop (mkF m 8 #[.val (.int (22 : Int32))] [])) _
    refine XS.iloadN X0.here hx rfl (hb hby d1_8) rfl ?_
    show Steps p.tables e below (s₁.setTop (mkF m 9 #[.val (.int (22 : Int32))] [(.int (22 : Int32))])) _
    refine XS.iconst X0.here hx rfl (hb hby d1_9) ?_
    show Steps p.tables e below (s₁.setTop (mkF m 10 #[.val (.int (22 : Int32))] [(.int (1 : Int32)), (.int (22 : Int32))])) _
    refine XS.icmpYes X0.here hx rfl (pc0 := 10) (pc' := 17) rfl (hb hby d1_10) rfl (feq (by decide : ¬ ((22 : Int32) = (1 : Int32)))).2 (by decide) (by decide) ?_
    show Steps p.tables e below (s₁.setTop (mkF m 17 #[.val (.int (22 : Int32))] [])) _
    refine XS.iloadN X0.here hx rfl (hb hby d1_17) rfl ?_
    show Steps p.tables e below (s₁.setTop (mkF m 18 #[.val (.int (22 : Int32))] [(.int (22 : Int32))])) _
    refine XS.iconst X0.here hx rfl (hb hby d1_18) ?_
    show Steps p.tables e below (s₁.setTop (mkF m 19 #[.val (.int (22 : Int32))] [(.int (2 : Int32)), (.int (22 : Int32))])) _
    refine XS.icmpYes X0.here hx rfl (pc0 := 19) (pc' := 26) rfl (hb hby d1_19) rfl (feq (by decide : ¬ ((22 : Int32) = (2 : Int32)))).2 (by decide) (by decide) ?_
    show Steps p.tables e below (s₁.setTop (mkF m 26 #[.val (.int (22 : Int32))] [])) _
    refine XS.iloadN X0.here hx rfl (hb hby d1_26) rfl ?_
    show Steps p.tables e below (s₁.setTop (mkF m 27 #[.val (.int (22 : Int32))] [(.int (22 : Int32))])) _
    refine XS.iconst X0.here hx rfl (hb hby d1_27) ?_
    show Steps p.tables e below (s₁.setTop (mkF m 28 #[.val (.int (22 : Int32))] [(.int (3 : Int32)), (.int (22 : Int32))])) _
    refine XS.icmpYes X0.here hx rfl (pc0 := 28) (pc' := 35) rfl (hb hby d1_28) rfl (feq (by decide : ¬ ((22 : Int32) = (3 : Int32)))).2 (by decide) (by decide) ?_
    show Steps p.tables e below (s₁.setTop (mkF m 35 #[.val (.int (22 : Int32))] [])) _
    refine XS.iloadN X0.here hx rfl (hb hby d1_35) rfl ?_
    show Steps p.tables e below (s₁.setTop (mkF m 36 #[.val (.int (22 : Int32))] [(.int (22 : Int32))])) _
    refine XS.iconst X0.here hx rfl (hb hby d1_36) ?_
    show Steps p.tables e below (s₁.setTop (mkF m 37 #[.val (.int (22 : Int32))] [(.int (4 : Int32)), (.int (22 : Int32))])) _
    refine XS.icmpYes X0.here hx rfl (pc0 := 37) (pc' := 44) rfl (hb hby d1_37) rfl (feq (by decide : ¬ ((22 : Int32) = (4 : Int32)))).2 (by decide) (by decide) ?_
    show Steps p.tables e below (s₁.setTop (mkF m 44 #[.val (.int (22 : Int32))] [])) _
    refine XS.iloadN X0.here hx rfl (hb hby d1_44) rfl ?_
    show Steps p.tables e below (s₁.setTop (mkF m 45 #[.val (.int (22 : Int32))] [(.int (22 : Int32))])) _
    refine XS.iconst X0.here hx rfl (hb hby d1_45) ?_
    show Steps p.tables e below (s₁.setTop (mkF m 46 #[.val (.int (22 : Int32))] [(.int (5 : Int32)), (.int (22 : Int32))])) _
    refine XS.icmpYes X0.here hx rfl (pc0 := 46) (pc' := 53) rfl (hb hby d1_46) rfl (feq (by decide : ¬ ((22 : Int32) = (5 : Int32)))).2 (by decide) (by decide) ?_
    show Steps p.tables e below (s₁.setTop (mkF m 53 #[.val (.int (22 : Int32))] [])) _
    refine XS.iloadN X0.here hx rfl (hb hby d1_53) rfl ?_
    show Steps p.tables e below (s₁.setTop (mkF m 54 #[.val (.int (22 : Int32))] [(.int (22 : Int32))])) _
    refine XS.bipush X0.here hx rfl (hb hby d1_54) ?_
    show Steps p.tables e below (s₁.setTop (mkF m 56 #[.val (.int (22 : Int32))] [(.int (6 : Int32)), (.int (22 : Int32))])) _
    refine XS.icmpYes X0.here hx rfl (pc0 := 56) (pc' := 63) rfl (hb hby d1_56) rfl (feq (by decide : ¬ ((22 : Int32) = (6 : Int32)))).2 (by decide) (by decide) ?_
    show Steps p.tables e below (s₁.setTop (mkF m 63 #[.val (.int (22 : Int32))] [])) _
    refine XS.iloadN X0.here hx rfl (hb hby d1_63) rfl ?_
    show Steps p.tables e below (s₁.setTop (mkF m 64 #[.val (.int (22 : Int32))] [(.int (22 : Int32))])) _
    refine XS.bipush X0.here hx rfl (hb hby d1_64) ?_
    show Steps p.tables e below (s₁.setTop (mkF m 66 #[.val (.int (22 : Int32))] [(.int (7 : Int32)), (.int (22 : Int32))])) _
    refine XS.icmpYes X0.here hx rfl (pc0 := 66) (pc' := 73) rfl (hb hby d1_66) rfl (feq (by decide : ¬ ((22 : Int32) = (7 : Int32)))).2 (by decide) (by decide) ?_
    show Steps p.tables e below (s₁.setTop (mkF m 73 #[.val (.int (22 : Int32))] [])) _
    refine XS.iloadN X0.here hx rfl (hb hby d1_73) rfl ?_
    show Steps p.tables e below (s₁.setTop (mkF m 74 #[.val (.int (22 : Int32))] [(.int (22 : Int32))])) _
    refine XS.bipush X0.here hx rfl (hb hby d1_74) ?_
    show Steps p.tables e below (s₁.setTop (mkF m 76 #[.val (.int (22 : Int32))] [(.int (8 : Int32)), (.int (22 : Int32))])) _
    refine XS.icmpYes X0.here hx rfl (pc0 := 76) (pc' := 83) rfl (hb hby d1_76) rfl (feq (by decide : ¬ ((22 : Int32) = (8 : Int32)))).2 (by decide) (by decide) ?_
    show Steps p.tables e below (s₁.setTop (mkF m 83 #[.val (.int (22 : Int32))] [])) _
    refine XS.iloadN X0.here hx rfl (hb hby d1_83) rfl ?_
    show Steps p.tables e below (s₁.setTop (mkF m 84 #[.val (.int (22 : Int32))] [(.int (22 : Int32))])) _
    refine XS.bipush X0.here hx rfl (hb hby d1_84) ?_
    show Steps p.tables e below (s₁.setTop (mkF m 86 #[.val (.int (22 : Int32))] [(.int (9 : Int32)), (.int (22 : Int32))])) _
    refine XS.icmpYes X0.here hx rfl (pc0 := 86) (pc' := 93) rfl (hb hby d1_86) rfl (feq (by decide : ¬ ((22 : Int32) = (9 : Int32)))).2 (by decide) (by decide) ?_
    show Steps p.tables e below (s₁.setTop (mkF m 93 #[.val (.int (22 : Int32))] [])) _
    refine XS.iloadN X0.here hx rfl (hb hby d1_93) rfl ?_
    show Steps p.tables e below (s₁.setTop (mkF m 94 #[.val (.int (22 : Int32))] [(.int (22 : Int32))])) _
    refine XS.bipush X0.here hx rfl (hb hby d1_94) ?_
    show Steps p.tables e below (s₁.setTop (mkF m 96 #[.val (.int (22 : Int32))] [(.int (10 : Int32)), (.int (22 : Int32))])) _
    refine XS.icmpYes X0.here hx rfl (pc0 := 96) (pc' := 103) rfl (hb hby d1_96) rfl (feq (by decide : ¬ ((22 : Int32) = (10 : Int32)))).2 (by decide) (by decide) ?_
    show Steps p.tables e below (s₁.setTop (mkF m 103 #[.val (.int (22 : Int32))] [])) _
    refine XS.iloadN X0.here hx rfl (hb hby d1_103) rfl ?_
    show Steps p.tables e below (s₁.setTop (mkF m 104 #[.val (.int (22 : Int32))] [(.int (22 : Int32))])) _
    refine XS.bipush X0.here hx rfl (hb hby d1_104) ?_
    show Steps p.tables e below (s₁.setTop (mkF m 106 #[.val (.int (22 : Int32))] [(.int (11 : Int32)), (.int (22 : Int32))])) _
    refine XS.icmpYes X0.here hx rfl (pc0 := 106) (pc' := 113) rfl (hb hby d1_106) rfl (feq (by decide : ¬ ((22 : Int32) = (11 : Int32)))).2 (by decide) (by decide) ?_
    show Steps p.tables e below (s₁.setTop (mkF m 113 #[.val (.int (22 : Int32))] [])) _
    refine XS.iloadN X0.here hx rfl (hb hby d1_113) rfl ?_
    show Steps p.tables e below (s₁.setTop (mkF m 114 #[.val (.int (22 : Int32))] [(.int (22 : Int32))])) _
    refine XS.bipush X0.here hx rfl (hb hby d1_114) ?_
    show Steps p.tables e below (s₁.setTop (mkF m 116 #[.val (.int (22 : Int32))] [(.int (12 : Int32)), (.int (22 : Int32))])) _
    refine XS.icmpYes X0.here hx rfl (pc0 := 116) (pc' := 123) rfl (hb hby d1_116) rfl (feq (by decide : ¬ ((22 : Int32) = (12 : Int32)))).2 (by decide) (by decide) ?_
    show Steps p.tables e below (s₁.setTop (mkF m 123 #[.val (.int (22 : Int32))] [])) _
    refine XS.iloadN X0.here hx rfl (hb hby d1_123) rfl ?_
    show Steps p.tables e below (s₁.setTop (mkF m 124 #[.val (.int (22 : Int32))] [(.int (22 : Int32))])) _
    refine XS.bipush X0.here hx rfl (hb hby d1_124) ?_
    show Steps p.tables e below (s₁.setTop (mkF m 126 #[.val (.int (22 : Int32))] [(.int (13 : Int32)), (.int (22 : Int32))])) _
    refine XS.icmpYes X0.here hx rfl (pc0 := 126) (pc' := 133) rfl (hb hby d1_126) rfl (feq (by decide : ¬ ((22 : Int32) = (13 : Int32)))).2 (by decide) (by decide) ?_
    show Steps p.tables e below (s₁.setTop (mkF m 133 #[.val (.int (22 : Int32))] [])) _
    refine XS.iloadN X0.here hx rfl (hb hby d1_133) rfl ?_
    show Steps p.tables e below (s₁.setTop (mkF m 134 #[.val (.int (22 : Int32))] [(.int (22 : Int32))])) _
    refine XS.bipush X0.here hx rfl (hb hby d1_134) ?_
    show Steps p.tables e below (s₁.setTop (mkF m 136 #[.val (.int (22 : Int32))] [(.int (14 : Int32)), (.int (22 : Int32))])) _
    refine XS.icmpYes X0.here hx rfl (pc0 := 136) (pc' := 143) rfl (hb hby d1_136) rfl (feq (by decide : ¬ ((22 : Int32) = (14 : Int32)))).2 (by decide) (by decide) ?_
    show Steps p.tables e below (s₁.setTop (mkF m 143 #[.val (.int (22 : Int32))] [])) _
    refine XS.iloadN X0.here hx rfl (hb hby d1_143) rfl ?_
    show Steps p.tables e below (s₁.setTop (mkF m 144 #[.val (.int (22 : Int32))] [(.int (22 : Int32))])) _
    refine XS.bipush X0.here hx rfl (hb hby d1_144) ?_
    show Steps p.tables e below (s₁.setTop (mkF m 146 #[.val (.int (22 : Int32))] [(.int (15 : Int32)), (.int (22 : Int32))])) _
    refine XS.icmpYes X0.here hx rfl (pc0 := 146) (pc' := 153) rfl (hb hby d1_146) rfl (feq (by decide : ¬ ((22 : Int32) = (15 : Int32)))).2 (by decide) (by decide) ?_
    show Steps p.tables e below (s₁.setTop (mkF m 153 #[.val (.int (22 : Int32))] [])) _
    refine XS.iloadN X0.here hx rfl (hb hby d1_153) rfl ?_
    show Steps p.tables e below (s₁.setTop (mkF m 154 #[.val (.int (22 : Int32))] [(.int (22 : Int32))])) _
    refine XS.bipush X0.here hx rfl (hb hby d1_154) ?_
    show Steps p.tables e below (s₁.setTop (mkF m 156 #[.val (.int (22 : Int32))] [(.int (16 : Int32)), (.int (22 : Int32))])) _
    refine XS.icmpYes X0.here hx rfl (pc0 := 156) (pc' := 163) rfl (hb hby d1_156) rfl (feq (by decide : ¬ ((22 : Int32) = (16 : Int32)))).2 (by decide) (by decide) ?_
    show Steps p.tables e below (s₁.setTop (mkF m 163 #[.val (.int (22 : Int32))] [])) _
    refine XS.iloadN X0.here hx rfl (hb hby d1_163) rfl ?_
    show Steps p.tables e below (s₁.setTop (mkF m 164 #[.val (.int (22 : Int32))] [(.int (22 : Int32))])) _
    refine XS.bipush X0.here hx rfl (hb hby d1_164) ?_
    show Steps p.tables e below (s₁.setTop (mkF m 166 #[.val (.int (22 : Int32))] [(.int (17 : Int32)), (.int (22 : Int32))])) _
    refine XS.icmpYes X0.here hx rfl (pc0 := 166) (pc' := 173) rfl (hb hby d1_166) rfl (feq (by decide : ¬ ((22 : Int32) = (17 : Int32)))).2 (by decide) (by decide) ?_
    show Steps p.tables e below (s₁.setTop (mkF m 173 #[.val (.int (22 : Int32))] [])) _
    refine XS.iloadN X0.here hx rfl (hb hby d1_173) rfl ?_
    show Steps p.tables e below (s₁.setTop (mkF m 174 #[.val (.int (22 : Int32))] [(.int (22 : Int32))])) _
    refine XS.bipush X0.here hx rfl (hb hby d1_174) ?_
    show Steps p.tables e below (s₁.setTop (mkF m 176 #[.val (.int (22 : Int32))] [(.int (18 : Int32)), (.int (22 : Int32))])) _
    refine XS.icmpYes X0.here hx rfl (pc0 := 176) (pc' := 183) rfl (hb hby d1_176) rfl (feq (by decide : ¬ ((22 : Int32) = (18 : Int32)))).2 (by decide) (by decide) ?_
    show Steps p.tables e below (s₁.setTop (mkF m 183 #[.val (.int (22 : Int32))] [])) _
    refine XS.iloadN X0.here hx rfl (hb hby d1_183) rfl ?_
    show Steps p.tables e below (s₁.setTop (mkF m 184 #[.val (.int (22 : Int32))] [(.int (22 : Int32))])) _
    refine XS.bipush X0.here hx rfl (hb hby d1_184) ?_
    show Steps p.tables e below (s₁.setTop (mkF m 186 #[.val (.int (22 : Int32))] [(.int (19 : Int32)), (.int (22 : Int32))])) _
    refine XS.icmpYes X0.here hx rfl (pc0 := 186) (pc' := 193) rfl (hb hby d1_186) rfl (feq (by decide : ¬ ((22 : Int32) = (19 : Int32)))).2 (by decide) (by decide) ?_
    show Steps p.tables e below (s₁.setTop (mkF m 193 #[.val (.int (22 : Int32))] [])) _
    refine XS.iloadN X0.here hx rfl (hb hby d1_193) rfl ?_
    show Steps p.tables e below (s₁.setTop (mkF m 194 #[.val (.int (22 : Int32))] [(.int (22 : Int32))])) _
    refine XS.bipush X0.here hx rfl (hb hby d1_194) ?_
    show Steps p.tables e below (s₁.setTop (mkF m 196 #[.val (.int (22 : Int32))] [(.int (20 : Int32)), (.int (22 : Int32))])) _
    refine XS.icmpYes X0.here hx rfl (pc0 := 196) (pc' := 203) rfl (hb hby d1_196) rfl (feq (by decide : ¬ ((22 : Int32) = (20 : Int32)))).2 (by decide) (by decide) ?_
    show Steps p.tables e below (s₁.setTop (mkF m 203 #[.val (.int (22 : Int32))] [])) _
    refine XS.iloadN X0.here hx rfl (hb hby d1_203) rfl ?_
    show Steps p.tables e below (s₁.setTop (mkF m 204 #[.val (.int (22 : Int32))] [(.int (22 : Int32))])) _
    refine XS.bipush X0.here hx rfl (hb hby d1_204) ?_
    show Steps p.tables e below (s₁.setTop (mkF m 206 #[.val (.int (22 : Int32))] [(.int (21 : Int32)), (.int (22 : Int32))])) _
    refine XS.icmpYes X0.here hx rfl (pc0 := 206) (pc' := 213) rfl (hb hby d1_206) rfl (feq (by decide : ¬ ((22 : Int32) = (21 : Int32)))).2 (by decide) (by decide) ?_
    show Steps p.tables e below (s₁.setTop (mkF m 213 #[.val (.int (22 : Int32))] [])) _
    refine XS.iloadN X0.here hx rfl (hb hby d1_213) rfl ?_
    show Steps p.tables e below (s₁.setTop (mkF m 214 #[.val (.int (22 : Int32))] [(.int (22 : Int32))])) _
    refine XS.bipush X0.here hx rfl (hb hby d1_214) ?_
    show Steps p.tables e below (s₁.setTop (mkF m 216 #[.val (.int (22 : Int32))] [(.int (22 : Int32)), (.int (22 : Int32))])) _
    refine XS.icmpNo X0.here hx rfl (hb hby d1_216) rfl (teq (by decide : (22 : Int32) = (22 : Int32))).2 ?_
    show Steps p.tables e below (s₁.setTop (mkF m 219 #[.val (.int (22 : Int32))] [])) _
    refine st1 _ ?_
    show Steps p.tables e below (T1.setTop (mkF m 222 #[.val (.int (22 : Int32))] [(.ref a1)])) _
    exact retOut X1 hx Bd.returns rfl (Or.inr (Or.inr (Or.inr (Or.inr ⟨rfl, rfl, rfl⟩)))) (hb hby d1_222) hr
  · show Q1_23 Z a1 h0 n0 _ T1.heap _
    rw [e1]
    exact ⟨rfl, N0, rfl⟩
theorem ef1_24 (m : MethodId) : entryFrame m #[(.int (23 : Int32))] 1 = mkF m 0 #[.val (.int (23 : Int32))] [] := by first | (simp [entryFrame, mkF, argsToLocals, Value.category]; done) | rfl
def Q1_24 (Z : State) (a1 : Addr) (h0 : Heap) (n0 : Nat) (v : Option Value) (h : Heap) (L : List Loc) : Prop := v = some (.ref a1) ∧ Fr n0 L ∧ h = h0
set_option maxRecDepth 65536 in
set_option maxHeartbeats 40000000 in
theorem rm1_24 (l : Launch) (Z : State) (a0 : Array Value) (hw : ∀ d ∈ tables_1, d.before a0 Z = true) (ws : List Jvm.Cond) (a1 : Addr) (h0 : Heap) (n0 : Nat) (Z0 : n0 ≤ h0.size) (S_ResultCode_OBJECT_ASSOCIATION_PROHIBITS_OPERATION : Sta Z h0 "com/example/delehat/delehat/protocols/epp/ResultCode" "OBJECT_ASSOCIATION_PROHIBITS_OPERATION" "Lcom/example/delehat/delehat/protocols/epp/ResultCode;" (.ref a1)) :
    MetFree l (⟨"com/example/delehat/delehat/protocols/epp/PayloadOfPinLaw", "pick", "(I)Lcom/example/delehat/delehat/protocols/epp/ResultCode;"⟩ : MethodName) (head1 (Jvm.Cond.code (⟨"com/example/delehat/delehat/protocols/epp/PayloadOfPinLaw", "pick", "(I)Lcom/example/delehat/delehat/protocols/epp/ResultCode;"⟩ : MethodName) method_2_code 1 (some (.object "com/example/delehat/delehat/protocols/epp/ResultCode")) :: ws) ({ frames := 0, cells := 0, slots := 0, locals := 0 } : Room)) (fun a U => a = #[(.int (23 : Int32))] ∧ Z.Warmed39 U.vm ∧ U.heap = h0) (fun _ _ _ _ _ => True) (fun _ U o U' => ∃ v L, o = .returned v ∧ Q1_24 Z a1 h0 n0 v U'.heap L ∧ FrameEnd U o U' L ({ frames := 0, cells := 0, slots := 0, locals := 0 } : Room).cells ({ frames := 0, cells := 0, slots := 0, locals := 0 } : Room).slots) := by
  refine MetFree.of_bodySF (plainFor_of_name pn_com_example_delehat_delehat_protocols_epp_PayloadOfPinLaw) hisR ?_
  intro p e s m args below meth c s₁ Bd hml0 hP hK
  obtain ⟨rfl, hZ, hh⟩ := hP
  have hx := Bd.exec
  have hby := Bd.bytes
  have hml : c.maxLocals = 1 := hml0
  have hown : s.vm.findClass "com/example/delehat/delehat/protocols/epp/PayloadOfPinLaw" = some m.cls := findClass_of_methodNamed Bd.named
  have hnm := (name_of_methodNamed Bd.named Bd.method).1
  have X0 : Stand p l e ({ frames := 0, cells := 0, slots := 0, locals := 0 } : Room) s m #[(.int (23 : Int32))] below meth c s₁ [] 0 0 := Stand.of_body Bd
  have e0 : s₁.heap = h0 := by rw [← hh, Bd.state]; rfl
  have N0 := Fr.nil n0
  have pre0 : ∀ t, Steps p.tables e below (s₁.setTop (mkF m 0 #[.val (.int (23 : Int32))] [])) t → Steps p.tables e below (s₁.setTop (entryFrame m #[(.int (23 : Int32))] 1)) t := fun t k => castTop (ef1_24 m) k
  obtain ⟨T1, X1, e1, st1⟩ := getS2 X0 hx hZ hown (host := "") (Or.inl (own_w87 hw)) Via.refl e0 S_ResultCode_OBJECT_ASSOCIATION_PROHIBITS_OPERATION (g := (mkF m 229 #[.val (.int (23 : Int32))] [])) rfl (hb hby d1_229)
  obtain ⟨fs, hr, hrun, hended, hW, hsame⟩ := X1.leave (v := some (.ref a1)) (fun h => by rw [Bd.returns] at h; cases h)
  refine ⟨_, _, pre0 _ ?_, hrun, hended, _, _, rfl, ?_, ⟨_, rfl⟩, hW, hsame.mono (by decide) (by decide)⟩
  · show Steps p.tables e below (s₁.setTop (mkF m 0 #[.val (.int (23 : Int32))] [])) _
    refine XS.iloadN X0.here hx rfl (hb hby d1_0) rfl ?_
    show Steps p.tables e below (s₁.setTop (mkF m 1 #[.val (.int (23 : Int32))] [(.int (23 : Int32))])) _
    refine XS.ifYes X0.here hx rfl (pc0 := 1) (pc' := 8) rfl (hb hby d1_1) rfl ((if0 _ _).trans (feq (by decide : ¬ ((23 : Int32) = (0 : Int32)))).2) (by decide) (by decide) ?_
    show Steps p.tables e below (s₁.setTop (mkF m 8 #[.val (.int (23 : Int32))] [])) _
    refine XS.iloadN X0.here hx rfl (hb hby d1_8) rfl ?_
    show Steps p.tables e below (s₁.setTop (mkF m 9 #[.val (.int (23 : Int32))] [(.int (23 : Int32))])) _
    refine XS.iconst X0.here hx rfl (hb hby d1_9) ?_
    show Steps p.tables e below (s₁.setTop (mkF m 10 #[.val (.int (23 : Int32))] [(.int (1 : Int32)), (.int (23 : Int32))])) _
    refine XS.icmpYes X0.here hx rfl (pc0 := 10) (pc' := 17) rfl (hb hby d1_10) rfl (feq (by decide : ¬ ((23 : Int32) = (1 : Int32)))).2 (by decide) (by decide) ?_
    show Steps p.tables e below (s₁.setTop (mkF m 17 #[.val (.int (23 : Int32))] [])) _
    refine XS.iloadN X0.here hx rfl (hb hby d1_17) rfl ?_
    show Steps p.tables e below (s₁.setTop (mkF m 18 #[.val (.int (23 : Int32))] [(.int (23 : Int32))])) _
    refine XS.iconst X0.here hx rfl (hb hby d1_18) ?_
    show Steps p.tables e below (s₁.setTop (mkF m 19 #[.val (.int (23 : Int32))] [(.int (2 : Int32)), (.int (23 : Int32))])) _
    refine XS.icmpYes X0.here hx rfl (pc0 := 19) (pc' := 26) rfl (hb hby d1_19) rfl (feq (by decide : ¬ ((23 : Int32) = (2 : Int32)))).2 (by decide) (by decide) ?_
    show Steps p.tables e below (s₁.setTop (mkF m 26 #[.val (.int (23 : Int32))] [])) _
    refine XS.iloadN X0.here hx rfl (hb hby d1_26) rfl ?_
    show Steps p.tables e below (s₁.setTop (mkF m 27 #[.val (.int (23 : Int32))] [(.int (23 : Int32))])) _
    refine XS.iconst X0.here hx rfl (hb hby d1_27) ?_
    show Steps p.tables e below (s₁.setTop (mkF m 28 #[.val (.int (23 : Int32))] [(.int (3 : Int32)), (.int (23 : Int32))])) _
    refine XS.icmpYes X0.here hx rfl (pc0 := 28) (pc' := 35) rfl (hb hby d1_28) rfl (feq (by decide : ¬ ((23 : Int32) = (3 : Int32)))).2 (by decide) (by decide) ?_
    show Steps p.tables e below (s₁.setTop (mkF m 35 #[.val (.int (23 : Int32))] [])) _
    refine XS.iloadN X0.here hx rfl (hb hby d1_35) rfl ?_
    show Steps p.tables e below (s₁.setTop (mkF m 36 #[.val (.int (23 : Int32))] [(.int (23 : Int32))])) _
    refine XS.iconst X0.here hx rfl (hb hby d1_36) ?_
    show Steps p.tables e below (s₁.setTop (mkF m 37 #[.val (.int (23 : Int32))] [(.int (4 : Int32)), (.int (23 : Int32))])) _
    refine XS.icmpYes X0.here hx rfl (pc0 := 37) (pc' := 44) rfl (hb hby d1_37) rfl (feq (by decide : ¬ ((23 : Int32) = (4 : Int32)))).2 (by decide) (by decide) ?_
    show Steps p.tables e below (s₁.setTop (mkF m 44 #[.val (.int (23 : Int32))] [])) _
    refine XS.iloadN X0.here hx rfl (hb hby d1_44) rfl ?_
    show Steps p.tables e below (s₁.setTop (mkF m 45 #[.val (.int (23 : Int32))] [(.int (23 : Int32))])) _
    refine XS.iconst X0.here hx rfl (hb hby d1_45) ?_
    show Steps p.tables e below (s₁.setTop (mkF m 46 #[.val (.int (23 : Int32))] [(.int (5 : Int32)), (.int (23 : Int32))])) _
    refine XS.icmpYes X0.here hx rfl (pc0 := 46) (pc' := 53) rfl (hb hby d1_46) rfl (feq (by decide : ¬ ((23 : Int32) = (5 : Int32)))).2 (by decide) (by decide) ?_
    show Steps p.tables e below (s₁.setTop (mkF m 53 #[.val (.int (23 : Int32))] [])) _
    refine XS.iloadN X0.here hx rfl (hb hby d1_53) rfl ?_
    show Steps p.tables e below (s₁.setTop (mkF m 54 #[.val (.int (23 : Int32))] [(.int (23 : Int32))])) _
    refine XS.bipush X0.here hx rfl (hb hby d1_54) ?_
    show Steps p.tables e below (s₁.setTop (mkF m 56 #[.val (.int (23 : Int32))] [(.int (6 : Int32)), (.int (23 : Int32))])) _
    refine XS.icmpYes X0.here hx rfl (pc0 := 56) (pc' := 63) rfl (hb hby d1_56) rfl (feq (by decide : ¬ ((23 : Int32) = (6 : Int32)))).2 (by decide) (by decide) ?_
    show Steps p.tables e below (s₁.setTop (mkF m 63 #[.val (.int (23 : Int32))] [])) _
    refine XS.iloadN X0.here hx rfl (hb hby d1_63) rfl ?_
    show Steps p.tables e below (s₁.setTop (mkF m 64 #[.val (.int (23 : Int32))] [(.int (23 : Int32))])) _
    refine XS.bipush X0.here hx rfl (hb hby d1_64) ?_
    show Steps p.tables e below (s₁.setTop (mkF m 66 #[.val (.int (23 : Int32))] [(.int (7 : Int32)), (.int (23 : Int32))])) _
    refine XS.icmpYes X0.here hx rfl (pc0 := 66) (pc' := 73) rfl (hb hby d1_66) rfl (feq (by decide : ¬ ((23 : Int32) = (7 : Int32)))).2 (by decide) (by decide) ?_
    show Steps p.tables e below (s₁.setTop (mkF m 73 #[.val (.int (23 : Int32))] [])) _
    refine XS.iloadN X0.here hx rfl (hb hby d1_73) rfl ?_
    show Steps p.tables e below (s₁.setTop (mkF m 74 #[.val (.int (23 : Int32))] [(.int (23 : Int32))])) _
    refine XS.bipush X0.here hx rfl (hb hby d1_74) ?_
    show Steps p.tables e below (s₁.setTop (mkF m 76 #[.val (.int (23 : Int32))] [(.int (8 : Int32)), (.int (23 : Int32))])) _
    refine XS.icmpYes X0.here hx rfl (pc0 := 76) (pc' := 83) rfl (hb hby d1_76) rfl (feq (by decide : ¬ ((23 : Int32) = (8 : Int32)))).2 (by decide) (by decide) ?_
    show Steps p.tables e below (s₁.setTop (mkF m 83 #[.val (.int (23 : Int32))] [])) _
    refine XS.iloadN X0.here hx rfl (hb hby d1_83) rfl ?_
    show Steps p.tables e below (s₁.setTop (mkF m 84 #[.val (.int (23 : Int32))] [(.int (23 : Int32))])) _
    refine XS.bipush X0.here hx rfl (hb hby d1_84) ?_
    show Steps p.tables e below (s₁.setTop (mkF m 86 #[.val (.int (23 : Int32))] [(.int (9 : Int32)), (.int (23 : Int32))])) _
    refine XS.icmpYes X0.here hx rfl (pc0 := 86) (pc' := 93) rfl (hb hby d1_86) rfl (feq (by decide : ¬ ((23 : Int32) = (9 : Int32)))).2 (by decide) (by decide) ?_
    show Steps p.tables e below (s₁.setTop (mkF m 93 #[.val (.int (23 : Int32))] [])) _
    refine XS.iloadN X0.here hx rfl (hb hby d1_93) rfl ?_
    show Steps p.tables e below (s₁.setTop (mkF m 94 #[.val (.int (23 : Int32))] [(.int (23 : Int32))])) _
    refine XS.bipush X0.here hx rfl (hb hby d1_94) ?_
    show Steps p.tables e below (s₁.setTop (mkF m 96 #[.val (.int (23 : Int32))] [(.int (10 : Int32)), (.int (23 : Int32))])) _
    refine XS.icmpYes X0.here hx rfl (pc0 := 96) (pc' := 103) rfl (hb hby d1_96) rfl (feq (by decide : ¬ ((23 : Int32) = (10 : Int32)))).2 (by decide) (by decide) ?_
    show Steps p.tables e below (s₁.setTop (mkF m 103 #[.val (.int (23 : Int32))] [])) _
    refine XS.iloadN X0.here hx rfl (hb hby d1_103) rfl ?_
    show Steps p.tables e below (s₁.setTop (mkF m 104 #[.val (.int (23 : Int32))] [(.int (23 : Int32))])) _
    refine XS.bipush X0.here hx rfl (hb hby d1_104) ?_
    show Steps p.tables e below (s₁.setTop (mkF m 106 #[.val (.int (23 : Int32))] [(.int (11 : Int32)), (.int (23 : Int32))])) _
    refine XS.icmpYes X0.here hx rfl (pc0 := 106) (pc' := 113) rfl (hb hby d1_106) rfl (feq (by decide : ¬ ((23 : Int32) = (11 : Int32)))).2 (by decide) (by decide) ?_
    show Steps p.tables e below (s₁.setTop (mkF m 113 #[.val (.int (23 : Int32))] [])) _
    refine XS.iloadN X0.here hx rfl (hb hby d1_113) rfl ?_
    show Steps p.tables e below (s₁.setTop (mkF m 114 #[.val (.int (23 : Int32))] [(.int (23 : Int32))])) _
    refine XS.bipush X0.here hx rfl (hb hby d1_114) ?_
    show Steps p.tables e below (s₁.setTop (mkF m 116 #[.val (.int (23 : Int32))] [(.int (12 : Int32)), (.int (23 : Int32))])) _
    refine XS.icmpYes X0.here hx rfl (pc0 := 116) (pc' := 123) rfl (hb hby d1_116) rfl (feq (by decide : ¬ ((23 : Int32) = (12 : Int32)))).2 (by decide) (by decide) ?_
    show Steps p.tables e below (s₁.setTop (mkF m 123 #[.val (.int (23 : Int32))] [])) _
    refine XS.iloadN X0.here hx rfl (hb hby d1_123) rfl ?_
    show Steps p.tables e below (s₁.setTop (mkF m 124 #[.val (.int (23 : Int32))] [(.int (23 : Int32))])) _
    refine XS.bipush X0.here hx rfl (hb hby d1_124) ?_
    show Steps p.tables e below (s₁.setTop (mkF m 126 #[.val (.int (23 : Int32))] [(.int (13 : Int32)), (.int (23 : Int32))])) _
    refine XS.icmpYes X0.here hx rfl (pc0 := 126) (pc' := 133) rfl (hb hby d1_126) rfl (feq (by decide : ¬ ((23 : Int32) = (13 : Int32)))).2 (by decide) (by decide) ?_
    show Steps p.tables e below (s₁.setTop (mkF m 133 #[.val (.int (23 : Int32))] [])) _
    refine XS.iloadN X0.here hx rfl (hb hby d1_133) rfl ?_
    show Steps p.tables e below (s₁.setTop (mkF m 134 #[.val (.int (23 : Int32))] [(.int (23 : Int32))])) _
    refine XS.bipush X0.here hx rfl (hb hby d1_134) ?_
    show Steps p.tables e below (s₁.setTop (mkF m 136 #[.val (.int (23 : Int32))] [(.int (14 : Int32)), (.int (23 : Int32))])) _
    refine XS.icmpYes X0.here hx rfl (pc0 := 136) (pc' := 143) rfl (hb hby d1_136) rfl (feq (by decide : ¬ ((23 : Int32) = (14 : Int32)))).2 (by decide) (by decide) ?_
    show Steps p.tables e below (s₁.setTop (mkF m 143 #[.val (.int (23 : Int32))] [])) _
    refine XS.iloadN X0.here hx rfl (hb hby d1_143) rfl ?_
    show Steps p.tables e below (s₁.setTop (mkF m 144 #[.val (.int (23 : Int32))] [(.int (23 : Int32))])) _
    refine XS.bipush X0.here hx rfl (hb hby d1_144) ?_
    show Steps p.tables e below (s₁.setTop (mkF m 146 #[.val (.int (23 : Int32))] [(.int (15 : Int32)), (.int (23 : Int32))])) _
    refine XS.icmpYes X0.here hx rfl (pc0 := 146) (pc' := 153) rfl (hb hby d1_146) rfl (feq (by decide : ¬ ((23 : Int32) = (15 : Int32)))).2 (by decide) (by decide) ?_
    show Steps p.tables e below (s₁.setTop (mkF m 153 #[.val (.int (23 : Int32))] [])) _
    refine XS.iloadN X0.here hx rfl (hb hby d1_153) rfl ?_
    show Steps p.tables e below (s₁.setTop (mkF m 154 #[.val (.int (23 : Int32))] [(.int (23 : Int32))])) _
    refine XS.bipush X0.here hx rfl (hb hby d1_154) ?_
    show Steps p.tables e below (s₁.setTop (mkF m 156 #[.val (.int (23 : Int32))] [(.int (16 : Int32)), (.int (23 : Int32))])) _
    refine XS.icmpYes X0.here hx rfl (pc0 := 156) (pc' := 163) rfl (hb hby d1_156) rfl (feq (by decide : ¬ ((23 : Int32) = (16 : Int32)))).2 (by decide) (by decide) ?_
    show Steps p.tables e below (s₁.setTop (mkF m 163 #[.val (.int (23 : Int32))] [])) _
    refine XS.iloadN X0.here hx rfl (hb hby d1_163) rfl ?_
    show Steps p.tables e below (s₁.setTop (mkF m 164 #[.val (.int (23 : Int32))] [(.int (23 : Int32))])) _
    refine XS.bipush X0.here hx rfl (hb hby d1_164) ?_
    show Steps p.tables e below (s₁.setTop (mkF m 166 #[.val (.int (23 : Int32))] [(.int (17 : Int32)), (.int (23 : Int32))])) _
    refine XS.icmpYes X0.here hx rfl (pc0 := 166) (pc' := 173) rfl (hb hby d1_166) rfl (feq (by decide : ¬ ((23 : Int32) = (17 : Int32)))).2 (by decide) (by decide) ?_
    show Steps p.tables e below (s₁.setTop (mkF m 173 #[.val (.int (23 : Int32))] [])) _
    refine XS.iloadN X0.here hx rfl (hb hby d1_173) rfl ?_
    show Steps p.tables e below (s₁.setTop (mkF m 174 #[.val (.int (23 : Int32))] [(.int (23 : Int32))])) _
    refine XS.bipush X0.here hx rfl (hb hby d1_174) ?_
    show Steps p.tables e below (s₁.setTop (mkF m 176 #[.val (.int (23 : Int32))] [(.int (18 : Int32)), (.int (23 : Int32))])) _
    refine XS.icmpYes X0.here hx rfl (pc0 := 176) (pc' := 183) rfl (hb hby d1_176) rfl (feq (by decide : ¬ ((23 : Int32) = (18 : Int32)))).2 (by decide) (by decide) ?_
    show Steps p.tables e below (s₁.setTop (mkF m 183 #[.val (.int (23 : Int32))] [])) _
    refine XS.iloadN X0.here hx rfl (hb hby d1_183) rfl ?_
    show Steps p.tables e below (s₁.setTop (mkF m 184 #[.val (.int (23 : Int32))] [(.int (23 : Int32))])) _
    refine XS.bipush X0.here hx rfl (hb hby d1_184) ?_
    show Steps p.tables e below (s₁.setTop (mkF m 186 #[.val (.int (23 : Int32))] [(.int (19 : Int32)), (.int (23 : Int32))])) _
    refine XS.icmpYes X0.here hx rfl (pc0 := 186) (pc' := 193) rfl (hb hby d1_186) rfl (feq (by decide : ¬ ((23 : Int32) = (19 : Int32)))).2 (by decide) (by decide) ?_
    show Steps p.tables e below (s₁.setTop (mkF m 193 #[.val (.int (23 : Int32))] [])) _
    refine XS.iloadN X0.here hx rfl (hb hby d1_193) rfl ?_
    show Steps p.tables e below (s₁.setTop (mkF m 194 #[.val (.int (23 : Int32))] [(.int (23 : Int32))])) _
    refine XS.bipush X0.here hx rfl (hb hby d1_194) ?_
    show Steps p.tables e below (s₁.setTop (mkF m 196 #[.val (.int (23 : Int32))] [(.int (20 : Int32)), (.int (23 : Int32))])) _
    refine XS.icmpYes X0.here hx rfl (pc0 := 196) (pc' := 203) rfl (hb hby d1_196) rfl (feq (by decide : ¬ ((23 : Int32) = (20 : Int32)))).2 (by decide) (by decide) ?_
    show Steps p.tables e below (s₁.setTop (mkF m 203 #[.val (.int (23 : Int32))] [])) _
    refine XS.iloadN X0.here hx rfl (hb hby d1_203) rfl ?_
    show Steps p.tables e below (s₁.setTop (mkF m 204 #[.val (.int (23 : Int32))] [(.int (23 : Int32))])) _
    refine XS.bipush X0.here hx rfl (hb hby d1_204) ?_
    show Steps p.tables e below (s₁.setTop (mkF m 206 #[.val (.int (23 : Int32))] [(.int (21 : Int32)), (.int (23 : Int32))])) _
    refine XS.icmpYes X0.here hx rfl (pc0 := 206) (pc' := 213) rfl (hb hby d1_206) rfl (feq (by decide : ¬ ((23 : Int32) = (21 : Int32)))).2 (by decide) (by decide) ?_
    show Steps p.tables e below (s₁.setTop (mkF m 213 #[.val (.int (23 : Int32))] [])) _
    refine XS.iloadN X0.here hx rfl (hb hby d1_213) rfl ?_
    show Steps p.tables e below (s₁.setTop (mkF m 214 #[.val (.int (23 : Int32))] [(.int (23 : Int32))])) _
    refine XS.bipush X0.here hx rfl (hb hby d1_214) ?_
    show Steps p.tables e below (s₁.setTop (mkF m 216 #[.val (.int (23 : Int32))] [(.int (22 : Int32)), (.int (23 : Int32))])) _
    refine XS.icmpYes X0.here hx rfl (pc0 := 216) (pc' := 223) rfl (hb hby d1_216) rfl (feq (by decide : ¬ ((23 : Int32) = (22 : Int32)))).2 (by decide) (by decide) ?_
    show Steps p.tables e below (s₁.setTop (mkF m 223 #[.val (.int (23 : Int32))] [])) _
    refine XS.iloadN X0.here hx rfl (hb hby d1_223) rfl ?_
    show Steps p.tables e below (s₁.setTop (mkF m 224 #[.val (.int (23 : Int32))] [(.int (23 : Int32))])) _
    refine XS.bipush X0.here hx rfl (hb hby d1_224) ?_
    show Steps p.tables e below (s₁.setTop (mkF m 226 #[.val (.int (23 : Int32))] [(.int (23 : Int32)), (.int (23 : Int32))])) _
    refine XS.icmpNo X0.here hx rfl (hb hby d1_226) rfl (teq (by decide : (23 : Int32) = (23 : Int32))).2 ?_
    show Steps p.tables e below (s₁.setTop (mkF m 229 #[.val (.int (23 : Int32))] [])) _
    refine st1 _ ?_
    show Steps p.tables e below (T1.setTop (mkF m 232 #[.val (.int (23 : Int32))] [(.ref a1)])) _
    exact retOut X1 hx Bd.returns rfl (Or.inr (Or.inr (Or.inr (Or.inr ⟨rfl, rfl, rfl⟩)))) (hb hby d1_232) hr
  · show Q1_24 Z a1 h0 n0 _ T1.heap _
    rw [e1]
    exact ⟨rfl, N0, rfl⟩
theorem ef1_25 (m : MethodId) : entryFrame m #[(.int (24 : Int32))] 1 = mkF m 0 #[.val (.int (24 : Int32))] [] := by first | (simp [entryFrame, mkF, argsToLocals, Value.category]; done) | rfl
def Q1_25 (Z : State) (a1 : Addr) (h0 : Heap) (n0 : Nat) (v : Option Value) (h : Heap) (L : List Loc) : Prop := v = some (.ref a1) ∧ Fr n0 L ∧ h = h0
set_option maxRecDepth 65536 in
set_option maxHeartbeats 40000000 in
theorem rm1_25 (l : Launch) (Z : State) (a0 : Array Value) (hw : ∀ d ∈ tables_1, d.before a0 Z = true) (ws : List Jvm.Cond) (a1 : Addr) (h0 : Heap) (n0 : Nat) (Z0 : n0 ≤ h0.size) (S_ResultCode_PARAMETER_VALUE_POLICY_ERROR : Sta Z h0 "com/example/delehat/delehat/protocols/epp/ResultCode" "PARAMETER_VALUE_POLICY_ERROR" "Lcom/example/delehat/delehat/protocols/epp/ResultCode;" (.ref a1)) :
    MetFree l (⟨"com/example/delehat/delehat/protocols/epp/PayloadOfPinLaw", "pick", "(I)Lcom/example/delehat/delehat/protocols/epp/ResultCode;"⟩ : MethodName) (head1 (Jvm.Cond.code (⟨"com/example/delehat/delehat/protocols/epp/PayloadOfPinLaw", "pick", "(I)Lcom/example/delehat/delehat/protocols/epp/ResultCode;"⟩ : MethodName) method_2_code 1 (some (.object "com/example/delehat/delehat/protocols/epp/ResultCode")) :: ws) ({ frames := 0, cells := 0, slots := 0, locals := 0 } : Room)) (fun a U => a = #[(.int (24 : Int32))] ∧ Z.Warmed39 U.vm ∧ U.heap = h0) (fun _ _ _ _ _ => True) (fun _ U o U' => ∃ v L, o = .returned v ∧ Q1_25 Z a1 h0 n0 v U'.heap L ∧ FrameEnd U o U' L ({ frames := 0, cells := 0, slots := 0, locals := 0 } : Room).cells ({ frames := 0, cells := 0, slots := 0, locals := 0 } : Room).slots) := by
  refine MetFree.of_bodySF (plainFor_of_name pn_com_example_delehat_delehat_protocols_epp_PayloadOfPinLaw) hisR ?_
  intro p e s m args below meth c s₁ Bd hml0 hP hK
  obtain ⟨rfl, hZ, hh⟩ := hP
  have hx := Bd.exec
  have hby := Bd.bytes
  have hml : c.maxLocals = 1 := hml0
  have hown : s.vm.findClass "com/example/delehat/delehat/protocols/epp/PayloadOfPinLaw" = some m.cls := findClass_of_methodNamed Bd.named
  have hnm := (name_of_methodNamed Bd.named Bd.method).1
  have X0 : Stand p l e ({ frames := 0, cells := 0, slots := 0, locals := 0 } : Room) s m #[(.int (24 : Int32))] below meth c s₁ [] 0 0 := Stand.of_body Bd
  have e0 : s₁.heap = h0 := by rw [← hh, Bd.state]; rfl
  have N0 := Fr.nil n0
  have pre0 : ∀ t, Steps p.tables e below (s₁.setTop (mkF m 0 #[.val (.int (24 : Int32))] [])) t → Steps p.tables e below (s₁.setTop (entryFrame m #[(.int (24 : Int32))] 1)) t := fun t k => castTop (ef1_25 m) k
  obtain ⟨T1, X1, e1, st1⟩ := getS2 X0 hx hZ hown (host := "") (Or.inl (own_w67 hw)) Via.refl e0 S_ResultCode_PARAMETER_VALUE_POLICY_ERROR (g := (mkF m 239 #[.val (.int (24 : Int32))] [])) rfl (hb hby d1_239)
  obtain ⟨fs, hr, hrun, hended, hW, hsame⟩ := X1.leave (v := some (.ref a1)) (fun h => by rw [Bd.returns] at h; cases h)
  refine ⟨_, _, pre0 _ ?_, hrun, hended, _, _, rfl, ?_, ⟨_, rfl⟩, hW, hsame.mono (by decide) (by decide)⟩
  · show Steps p.tables e below (s₁.setTop (mkF m 0 #[.val (.int (24 : Int32))] [])) _
    refine XS.iloadN X0.here hx rfl (hb hby d1_0) rfl ?_
    show Steps p.tables e below (s₁.setTop (mkF m 1 #[.val (.int (24 : Int32))] [(.int (24 : Int32))])) _
    refine XS.ifYes X0.here hx rfl (pc0 := 1) (pc' := 8) rfl (hb hby d1_1) rfl ((if0 _ _).trans (feq (by decide : ¬ ((24 : Int32) = (0 : Int32)))).2) (by decide) (by decide) ?_
    show Steps p.tables e below (s₁.setTop (mkF m 8 #[.val (.int (24 : Int32))] [])) _
    refine XS.iloadN X0.here hx rfl (hb hby d1_8) rfl ?_
    show Steps p.tables e below (s₁.setTop (mkF m 9 #[.val (.int (24 : Int32))] [(.int (24 : Int32))])) _
    refine XS.iconst X0.here hx rfl (hb hby d1_9) ?_
    show Steps p.tables e below (s₁.setTop (mkF m 10 #[.val (.int (24 : Int32))] [(.int (1 : Int32)), (.int (24 : Int32))])) _
    refine XS.icmpYes X0.here hx rfl (pc0 := 10) (pc' := 17) rfl (hb hby d1_10) rfl (feq (by decide : ¬ ((24 : Int32) = (1 : Int32)))).2 (by decide) (by decide) ?_
    show Steps p.tables e below (s₁.setTop (mkF m 17 #[.val (.int (24 : Int32))] [])) _
    refine XS.iloadN X0.here hx rfl (hb hby d1_17) rfl ?_
    show Steps p.tables e below (s₁.setTop (mkF m 18 #[.val (.int (24 : Int32))] [(.int (24 : Int32))])) _
    refine XS.iconst X0.here hx rfl (hb hby d1_18) ?_
    show Steps p.tables e below (s₁.setTop (mkF m 19 #[.val (.int (24 : Int32))] [(.int (2 : Int32)), (.int (24 : Int32))])) _
    refine XS.icmpYes X0.here hx rfl (pc0 := 19) (pc' := 26) rfl (hb hby d1_19) rfl (feq (by decide : ¬ ((24 : Int32) = (2 : Int32)))).2 (by decide) (by decide) ?_
    show Steps p.tables e below (s₁.setTop (mkF m 26 #[.val (.int (24 : Int32))] [])) _
    refine XS.iloadN X0.here hx rfl (hb hby d1_26) rfl ?_
    show Steps p.tables e below (s₁.setTop (mkF m 27 #[.val (.int (24 : Int32))] [(.int (24 : Int32))])) _
    refine XS.iconst X0.here hx rfl (hb hby d1_27) ?_
    show Steps p.tables e below (s₁.setTop (mkF m 28 #[.val (.int (24 : Int32))] [(.int (3 : Int32)), (.int (24 : Int32))])) _
    refine XS.icmpYes X0.here hx rfl (pc0 := 28) (pc' := 35) rfl (hb hby d1_28) rfl (feq (by decide : ¬ ((24 : Int32) = (3 : Int32)))).2 (by decide) (by decide) ?_
    show Steps p.tables e below (s₁.setTop (mkF m 35 #[.val (.int (24 : Int32))] [])) _
    refine XS.iloadN X0.here hx rfl (hb hby d1_35) rfl ?_
    show Steps p.tables e below (s₁.setTop (mkF m 36 #[.val (.int (24 : Int32))] [(.int (24 : Int32))])) _
    refine XS.iconst X0.here hx rfl (hb hby d1_36) ?_
    show Steps p.tables e below (s₁.setTop (mkF m 37 #[.val (.int (24 : Int32))] [(.int (4 : Int32)), (.int (24 : Int32))])) _
    refine XS.icmpYes X0.here hx rfl (pc0 := 37) (pc' := 44) rfl (hb hby d1_37) rfl (feq (by decide : ¬ ((24 : Int32) = (4 : Int32)))).2 (by decide) (by decide) ?_
    show Steps p.tables e below (s₁.setTop (mkF m 44 #[.val (.int (24 : Int32))] [])) _
    refine XS.iloadN X0.here hx rfl (hb hby d1_44) rfl ?_
    show Steps p.tables e below (s₁.setTop (mkF m 45 #[.val (.int (24 : Int32))] [(.int (24 : Int32))])) _
    refine XS.iconst X0.here hx rfl (hb hby d1_45) ?_
    show Steps p.tables e below (s₁.setTop (mkF m 46 #[.val (.int (24 : Int32))] [(.int (5 : Int32)), (.int (24 : Int32))])) _
    refine XS.icmpYes X0.here hx rfl (pc0 := 46) (pc' := 53) rfl (hb hby d1_46) rfl (feq (by decide : ¬ ((24 : Int32) = (5 : Int32)))).2 (by decide) (by decide) ?_
    show Steps p.tables e below (s₁.setTop (mkF m 53 #[.val (.int (24 : Int32))] [])) _
    refine XS.iloadN X0.here hx rfl (hb hby d1_53) rfl ?_
    show Steps p.tables e below (s₁.setTop (mkF m 54 #[.val (.int (24 : Int32))] [(.int (24 : Int32))])) _
    refine XS.bipush X0.here hx rfl (hb hby d1_54) ?_
    show Steps p.tables e below (s₁.setTop (mkF m 56 #[.val (.int (24 : Int32))] [(.int (6 : Int32)), (.int (24 : Int32))])) _
    refine XS.icmpYes X0.here hx rfl (pc0 := 56) (pc' := 63) rfl (hb hby d1_56) rfl (feq (by decide : ¬ ((24 : Int32) = (6 : Int32)))).2 (by decide) (by decide) ?_
    show Steps p.tables e below (s₁.setTop (mkF m 63 #[.val (.int (24 : Int32))] [])) _
    refine XS.iloadN X0.here hx rfl (hb hby d1_63) rfl ?_
    show Steps p.tables e below (s₁.setTop (mkF m 64 #[.val (.int (24 : Int32))] [(.int (24 : Int32))])) _
    refine XS.bipush X0.here hx rfl (hb hby d1_64) ?_
    show Steps p.tables e below (s₁.setTop (mkF m 66 #[.val (.int (24 : Int32))] [(.int (7 : Int32)), (.int (24 : Int32))])) _
    refine XS.icmpYes X0.here hx rfl (pc0 := 66) (pc' := 73) rfl (hb hby d1_66) rfl (feq (by decide : ¬ ((24 : Int32) = (7 : Int32)))).2 (by decide) (by decide) ?_
    show Steps p.tables e below (s₁.setTop (mkF m 73 #[.val (.int (24 : Int32))] [])) _
    refine XS.iloadN X0.here hx rfl (hb hby d1_73) rfl ?_
    show Steps p.tables e below (s₁.setTop (mkF m 74 #[.val (.int (24 : Int32))] [(.int (24 : Int32))])) _
    refine XS.bipush X0.here hx rfl (hb hby d1_74) ?_
    show Steps p.tables e below (s₁.setTop (mkF m 76 #[.val (.int (24 : Int32))] [(.int (8 : Int32)), (.int (24 : Int32))])) _
    refine XS.icmpYes X0.here hx rfl (pc0 := 76) (pc' := 83) rfl (hb hby d1_76) rfl (feq (by decide : ¬ ((24 : Int32) = (8 : Int32)))).2 (by decide) (by decide) ?_
    show Steps p.tables e below (s₁.setTop (mkF m 83 #[.val (.int (24 : Int32))] [])) _
    refine XS.iloadN X0.here hx rfl (hb hby d1_83) rfl ?_
    show Steps p.tables e below (s₁.setTop (mkF m 84 #[.val (.int (24 : Int32))] [(.int (24 : Int32))])) _
    refine XS.bipush X0.here hx rfl (hb hby d1_84) ?_
    show Steps p.tables e below (s₁.setTop (mkF m 86 #[.val (.int (24 : Int32))] [(.int (9 : Int32)), (.int (24 : Int32))])) _
    refine XS.icmpYes X0.here hx rfl (pc0 := 86) (pc' := 93) rfl (hb hby d1_86) rfl (feq (by decide : ¬ ((24 : Int32) = (9 : Int32)))).2 (by decide) (by decide) ?_
    show Steps p.tables e below (s₁.setTop (mkF m 93 #[.val (.int (24 : Int32))] [])) _
    refine XS.iloadN X0.here hx rfl (hb hby d1_93) rfl ?_
    show Steps p.tables e below (s₁.setTop (mkF m 94 #[.val (.int (24 : Int32))] [(.int (24 : Int32))])) _
    refine XS.bipush X0.here hx rfl (hb hby d1_94) ?_
    show Steps p.tables e below (s₁.setTop (mkF m 96 #[.val (.int (24 : Int32))] [(.int (10 : Int32)), (.int (24 : Int32))])) _
    refine XS.icmpYes X0.here hx rfl (pc0 := 96) (pc' := 103) rfl (hb hby d1_96) rfl (feq (by decide : ¬ ((24 : Int32) = (10 : Int32)))).2 (by decide) (by decide) ?_
    show Steps p.tables e below (s₁.setTop (mkF m 103 #[.val (.int (24 : Int32))] [])) _
    refine XS.iloadN X0.here hx rfl (hb hby d1_103) rfl ?_
    show Steps p.tables e below (s₁.setTop (mkF m 104 #[.val (.int (24 : Int32))] [(.int (24 : Int32))])) _
    refine XS.bipush X0.here hx rfl (hb hby d1_104) ?_
    show Steps p.tables e below (s₁.setTop (mkF m 106 #[.val (.int (24 : Int32))] [(.int (11 : Int32)), (.int (24 : Int32))])) _
    refine XS.icmpYes X0.here hx rfl (pc0 := 106) (pc' := 113) rfl (hb hby d1_106) rfl (feq (by decide : ¬ ((24 : Int32) = (11 : Int32)))).2 (by decide) (by decide) ?_
    show Steps p.tables e below (s₁.setTop (mkF m 113 #[.val (.int (24 : Int32))] [])) _
    refine XS.iloadN X0.here hx rfl (hb hby d1_113) rfl ?_
    show Steps p.tables e below (s₁.setTop (mkF m 114 #[.val (.int (24 : Int32))] [(.int (24 : Int32))])) _
    refine XS.bipush X0.here hx rfl (hb hby d1_114) ?_
    show Steps p.tables e below (s₁.setTop (mkF m 116 #[.val (.int (24 : Int32))] [(.int (12 : Int32)), (.int (24 : Int32))])) _
    refine XS.icmpYes X0.here hx rfl (pc0 := 116) (pc' := 123) rfl (hb hby d1_116) rfl (feq (by decide : ¬ ((24 : Int32) = (12 : Int32)))).2 (by decide) (by decide) ?_
    show Steps p.tables e below (s₁.setTop (mkF m 123 #[.val (.int (24 : Int32))] [])) _
    refine XS.iloadN X0.here hx rfl (hb hby d1_123) rfl ?_
    show Steps p.tables e below (s₁.setTop (mkF m 124 #[.val (.int (24 : Int32))] [(.int (24 : Int32))])) _
    refine XS.bipush X0.here hx rfl (hb hby d1_124) ?_
    show Steps p.tables e below (s₁.setTop (mkF m 126 #[.val (.int (24 : Int32))] [(.int (13 : Int32)), (.int (24 : Int32))])) _
    refine XS.icmpYes X0.here hx rfl (pc0 := 126) (pc' := 133) rfl (hb hby d1_126) rfl (feq (by decide : ¬ ((24 : Int32) = (13 : Int32)))).2 (by decide) (by decide) ?_
    show Steps p.tables e below (s₁.setTop (mkF m 133 #[.val (.int (24 : Int32))] [])) _
    refine XS.iloadN X0.here hx rfl (hb hby d1_133) rfl ?_
    show Steps p.tables e below (s₁.setTop (mkF m 134 #[.val (.int (24 : Int32))] [(.int (24 : Int32))])) _
    refine XS.bipush X0.here hx rfl (hb hby d1_134) ?_
    show Steps p.tables e below (s₁.setTop (mkF m 136 #[.val (.int (24 : Int32))] [(.int (14 : Int32)), (.int (24 : Int32))])) _
    refine XS.icmpYes X0.here hx rfl (pc0 := 136) (pc' := 143) rfl (hb hby d1_136) rfl (feq (by decide : ¬ ((24 : Int32) = (14 : Int32)))).2 (by decide) (by decide) ?_
    show Steps p.tables e below (s₁.setTop (mkF m 143 #[.val (.int (24 : Int32))] [])) _
    refine XS.iloadN X0.here hx rfl (hb hby d1_143) rfl ?_
    show Steps p.tables e below (s₁.setTop (mkF m 144 #[.val (.int (24 : Int32))] [(.int (24 : Int32))])) _
    refine XS.bipush X0.here hx rfl (hb hby d1_144) ?_
    show Steps p.tables e below (s₁.setTop (mkF m 146 #[.val (.int (24 : Int32))] [(.int (15 : Int32)), (.int (24 : Int32))])) _
    refine XS.icmpYes X0.here hx rfl (pc0 := 146) (pc' := 153) rfl (hb hby d1_146) rfl (feq (by decide : ¬ ((24 : Int32) = (15 : Int32)))).2 (by decide) (by decide) ?_
    show Steps p.tables e below (s₁.setTop (mkF m 153 #[.val (.int (24 : Int32))] [])) _
    refine XS.iloadN X0.here hx rfl (hb hby d1_153) rfl ?_
    show Steps p.tables e below (s₁.setTop (mkF m 154 #[.val (.int (24 : Int32))] [(.int (24 : Int32))])) _
    refine XS.bipush X0.here hx rfl (hb hby d1_154) ?_
    show Steps p.tables e below (s₁.setTop (mkF m 156 #[.val (.int (24 : Int32))] [(.int (16 : Int32)), (.int (24 : Int32))])) _
    refine XS.icmpYes X0.here hx rfl (pc0 := 156) (pc' := 163) rfl (hb hby d1_156) rfl (feq (by decide : ¬ ((24 : Int32) = (16 : Int32)))).2 (by decide) (by decide) ?_
    show Steps p.tables e below (s₁.setTop (mkF m 163 #[.val (.int (24 : Int32))] [])) _
    refine XS.iloadN X0.here hx rfl (hb hby d1_163) rfl ?_
    show Steps p.tables e below (s₁.setTop (mkF m 164 #[.val (.int (24 : Int32))] [(.int (24 : Int32))])) _
    refine XS.bipush X0.here hx rfl (hb hby d1_164) ?_
    show Steps p.tables e below (s₁.setTop (mkF m 166 #[.val (.int (24 : Int32))] [(.int (17 : Int32)), (.int (24 : Int32))])) _
    refine XS.icmpYes X0.here hx rfl (pc0 := 166) (pc' := 173) rfl (hb hby d1_166) rfl (feq (by decide : ¬ ((24 : Int32) = (17 : Int32)))).2 (by decide) (by decide) ?_
    show Steps p.tables e below (s₁.setTop (mkF m 173 #[.val (.int (24 : Int32))] [])) _
    refine XS.iloadN X0.here hx rfl (hb hby d1_173) rfl ?_
    show Steps p.tables e below (s₁.setTop (mkF m 174 #[.val (.int (24 : Int32))] [(.int (24 : Int32))])) _
    refine XS.bipush X0.here hx rfl (hb hby d1_174) ?_
    show Steps p.tables e below (s₁.setTop (mkF m 176 #[.val (.int (24 : Int32))] [(.int (18 : Int32)), (.int (24 : Int32))])) _
    refine XS.icmpYes X0.here hx rfl (pc0 := 176) (pc' := 183) rfl (hb hby d1_176) rfl (feq (by decide : ¬ ((24 : Int32) = (18 : Int32)))).2 (by decide) (by decide) ?_
    show Steps p.tables e below (s₁.setTop (mkF m 183 #[.val (.int (24 : Int32))] [])) _
    refine XS.iloadN X0.here hx rfl (hb hby d1_183) rfl ?_
    show Steps p.tables e below (s₁.setTop (mkF m 184 #[.val (.int (24 : Int32))] [(.int (24 : Int32))])) _
    refine XS.bipush X0.here hx rfl (hb hby d1_184) ?_
    show Steps p.tables e below (s₁.setTop (mkF m 186 #[.val (.int (24 : Int32))] [(.int (19 : Int32)), (.int (24 : Int32))])) _
    refine XS.icmpYes X0.here hx rfl (pc0 := 186) (pc' := 193) rfl (hb hby d1_186) rfl (feq (by decide : ¬ ((24 : Int32) = (19 : Int32)))).2 (by decide) (by decide) ?_
    show Steps p.tables e below (s₁.setTop (mkF m 193 #[.val (.int (24 : Int32))] [])) _
    refine XS.iloadN X0.here hx rfl (hb hby d1_193) rfl ?_
    show Steps p.tables e below (s₁.setTop (mkF m 194 #[.val (.int (24 : Int32))] [(.int (24 : Int32))])) _
    refine XS.bipush X0.here hx rfl (hb hby d1_194) ?_
    show Steps p.tables e below (s₁.setTop (mkF m 196 #[.val (.int (24 : Int32))] [(.int (20 : Int32)), (.int (24 : Int32))])) _
    refine XS.icmpYes X0.here hx rfl (pc0 := 196) (pc' := 203) rfl (hb hby d1_196) rfl (feq (by decide : ¬ ((24 : Int32) = (20 : Int32)))).2 (by decide) (by decide) ?_
    show Steps p.tables e below (s₁.setTop (mkF m 203 #[.val (.int (24 : Int32))] [])) _
    refine XS.iloadN X0.here hx rfl (hb hby d1_203) rfl ?_
    show Steps p.tables e below (s₁.setTop (mkF m 204 #[.val (.int (24 : Int32))] [(.int (24 : Int32))])) _
    refine XS.bipush X0.here hx rfl (hb hby d1_204) ?_
    show Steps p.tables e below (s₁.setTop (mkF m 206 #[.val (.int (24 : Int32))] [(.int (21 : Int32)), (.int (24 : Int32))])) _
    refine XS.icmpYes X0.here hx rfl (pc0 := 206) (pc' := 213) rfl (hb hby d1_206) rfl (feq (by decide : ¬ ((24 : Int32) = (21 : Int32)))).2 (by decide) (by decide) ?_
    show Steps p.tables e below (s₁.setTop (mkF m 213 #[.val (.int (24 : Int32))] [])) _
    refine XS.iloadN X0.here hx rfl (hb hby d1_213) rfl ?_
    show Steps p.tables e below (s₁.setTop (mkF m 214 #[.val (.int (24 : Int32))] [(.int (24 : Int32))])) _
    refine XS.bipush X0.here hx rfl (hb hby d1_214) ?_
    show Steps p.tables e below (s₁.setTop (mkF m 216 #[.val (.int (24 : Int32))] [(.int (22 : Int32)), (.int (24 : Int32))])) _
    refine XS.icmpYes X0.here hx rfl (pc0 := 216) (pc' := 223) rfl (hb hby d1_216) rfl (feq (by decide : ¬ ((24 : Int32) = (22 : Int32)))).2 (by decide) (by decide) ?_
    show Steps p.tables e below (s₁.setTop (mkF m 223 #[.val (.int (24 : Int32))] [])) _
    refine XS.iloadN X0.here hx rfl (hb hby d1_223) rfl ?_
    show Steps p.tables e below (s₁.setTop (mkF m 224 #[.val (.int (24 : Int32))] [(.int (24 : Int32))])) _
    refine XS.bipush X0.here hx rfl (hb hby d1_224) ?_
    show Steps p.tables e below (s₁.setTop (mkF m 226 #[.val (.int (24 : Int32))] [(.int (23 : Int32)), (.int (24 : Int32))])) _
    refine XS.icmpYes X0.here hx rfl (pc0 := 226) (pc' := 233) rfl (hb hby d1_226) rfl (feq (by decide : ¬ ((24 : Int32) = (23 : Int32)))).2 (by decide) (by decide) ?_
    show Steps p.tables e below (s₁.setTop (mkF m 233 #[.val (.int (24 : Int32))] [])) _
    refine XS.iloadN X0.here hx rfl (hb hby d1_233) rfl ?_
    show Steps p.tables e below (s₁.setTop (mkF m 234 #[.val (.int (24 : Int32))] [(.int (24 : Int32))])) _
    refine XS.bipush X0.here hx rfl (hb hby d1_234) ?_
    show Steps p.tables e below (s₁.setTop (mkF m 236 #[.val (.int (24 : Int32))] [(.int (24 : Int32)), (.int (24 : Int32))])) _
    refine XS.icmpNo X0.here hx rfl (hb hby d1_236) rfl (teq (by decide : (24 : Int32) = (24 : Int32))).2 ?_
    show Steps p.tables e below (s₁.setTop (mkF m 239 #[.val (.int (24 : Int32))] [])) _
    refine st1 _ ?_
    show Steps p.tables e below (T1.setTop (mkF m 242 #[.val (.int (24 : Int32))] [(.ref a1)])) _
    exact retOut X1 hx Bd.returns rfl (Or.inr (Or.inr (Or.inr (Or.inr ⟨rfl, rfl, rfl⟩)))) (hb hby d1_242) hr
  · show Q1_25 Z a1 h0 n0 _ T1.heap _
    rw [e1]
    exact ⟨rfl, N0, rfl⟩
theorem ef1_26 (m : MethodId) : entryFrame m #[(.int (25 : Int32))] 1 = mkF m 0 #[.val (.int (25 : Int32))] [] := by first | (simp [entryFrame, mkF, argsToLocals, Value.category]; done) | rfl
def Q1_26 (Z : State) (a1 : Addr) (h0 : Heap) (n0 : Nat) (v : Option Value) (h : Heap) (L : List Loc) : Prop := v = some (.ref a1) ∧ Fr n0 L ∧ h = h0
set_option maxRecDepth 65536 in
set_option maxHeartbeats 40000000 in
theorem rm1_26 (l : Launch) (Z : State) (a0 : Array Value) (hw : ∀ d ∈ tables_1, d.before a0 Z = true) (ws : List Jvm.Cond) (a1 : Addr) (h0 : Heap) (n0 : Nat) (Z0 : n0 ≤ h0.size) (S_ResultCode_UNIMPLEMENTED_OBJECT_SERVICE : Sta Z h0 "com/example/delehat/delehat/protocols/epp/ResultCode" "UNIMPLEMENTED_OBJECT_SERVICE" "Lcom/example/delehat/delehat/protocols/epp/ResultCode;" (.ref a1)) :
    MetFree l (⟨"com/example/delehat/delehat/protocols/epp/PayloadOfPinLaw", "pick", "(I)Lcom/example/delehat/delehat/protocols/epp/ResultCode;"⟩ : MethodName) (head1 (Jvm.Cond.code (⟨"com/example/delehat/delehat/protocols/epp/PayloadOfPinLaw", "pick", "(I)Lcom/example/delehat/delehat/protocols/epp/ResultCode;"⟩ : MethodName) method_2_code 1 (some (.object "com/example/delehat/delehat/protocols/epp/ResultCode")) :: ws) ({ frames := 0, cells := 0, slots := 0, locals := 0 } : Room)) (fun a U => a = #[(.int (25 : Int32))] ∧ Z.Warmed39 U.vm ∧ U.heap = h0) (fun _ _ _ _ _ => True) (fun _ U o U' => ∃ v L, o = .returned v ∧ Q1_26 Z a1 h0 n0 v U'.heap L ∧ FrameEnd U o U' L ({ frames := 0, cells := 0, slots := 0, locals := 0 } : Room).cells ({ frames := 0, cells := 0, slots := 0, locals := 0 } : Room).slots) := by
  refine MetFree.of_bodySF (plainFor_of_name pn_com_example_delehat_delehat_protocols_epp_PayloadOfPinLaw) hisR ?_
  intro p e s m args below meth c s₁ Bd hml0 hP hK
  obtain ⟨rfl, hZ, hh⟩ := hP
  have hx := Bd.exec
  have hby := Bd.bytes
  have hml : c.maxLocals = 1 := hml0
  have hown : s.vm.findClass "com/example/delehat/delehat/protocols/epp/PayloadOfPinLaw" = some m.cls := findClass_of_methodNamed Bd.named
  have hnm := (name_of_methodNamed Bd.named Bd.method).1
  have X0 : Stand p l e ({ frames := 0, cells := 0, slots := 0, locals := 0 } : Room) s m #[(.int (25 : Int32))] below meth c s₁ [] 0 0 := Stand.of_body Bd
  have e0 : s₁.heap = h0 := by rw [← hh, Bd.state]; rfl
  have N0 := Fr.nil n0
  have pre0 : ∀ t, Steps p.tables e below (s₁.setTop (mkF m 0 #[.val (.int (25 : Int32))] [])) t → Steps p.tables e below (s₁.setTop (entryFrame m #[(.int (25 : Int32))] 1)) t := fun t k => castTop (ef1_26 m) k
  obtain ⟨T1, X1, e1, st1⟩ := getS2 X0 hx hZ hown (host := "") (Or.inl (own_w103 hw)) Via.refl e0 S_ResultCode_UNIMPLEMENTED_OBJECT_SERVICE (g := (mkF m 249 #[.val (.int (25 : Int32))] [])) rfl (hb hby d1_249)
  obtain ⟨fs, hr, hrun, hended, hW, hsame⟩ := X1.leave (v := some (.ref a1)) (fun h => by rw [Bd.returns] at h; cases h)
  refine ⟨_, _, pre0 _ ?_, hrun, hended, _, _, rfl, ?_, ⟨_, rfl⟩, hW, hsame.mono (by decide) (by decide)⟩
  · show Steps p.tables e below (s₁.setTop (mkF m 0 #[.val (.int (25 : Int32))] [])) _
    refine XS.iloadN X0.here hx rfl (hb hby d1_0) rfl ?_
    show Steps p.tables e below (s₁.setTop (mkF m 1 #[.val (.int (25 : Int32))] [(.int (25 : Int32))])) _
    refine XS.ifYes X0.here hx rfl (pc0 := 1) (pc' := 8) rfl (hb hby d1_1) rfl ((if0 _ _).trans (feq (by decide : ¬ ((25 : Int32) = (0 : Int32)))).2) (by decide) (by decide) ?_
    show Steps p.tables e below (s₁.setTop (mkF m 8 #[.val (.int (25 : Int32))] [])) _
    refine XS.iloadN X0.here hx rfl (hb hby d1_8) rfl ?_
    show Steps p.tables e below (s₁.setTop (mkF m 9 #[.val (.int (25 : Int32))] [(.int (25 : Int32))])) _
    refine XS.iconst X0.here hx rfl (hb hby d1_9) ?_
    show Steps p.tables e below (s₁.setTop (mkF m 10 #[.val (.int (25 : Int32))] [(.int (1 : Int32)), (.int (25 : Int32))])) _
    refine XS.icmpYes X0.here hx rfl (pc0 := 10) (pc' := 17) rfl (hb hby d1_10) rfl (feq (by decide : ¬ ((25 : Int32) = (1 : Int32)))).2 (by decide) (by decide) ?_
    show Steps p.tables e below (s₁.setTop (mkF m 17 #[.val (.int (25 : Int32))] [])) _
    refine XS.iloadN X0.here hx rfl (hb hby d1_17) rfl ?_
    show Steps p.tables e below (s₁.setTop (mkF m 18 #[.val (.int (25 : Int32))] [(.int (25 : Int32))])) _
    refine XS.iconst X0.here hx rfl (hb hby d1_18) ?_
    show Steps p.tables e below (s₁.setTop (mkF m 19 #[.val (.int (25 : Int32))] [(.int (2 : Int32)), (.int (25 : Int32))])) _
    refine XS.icmpYes X0.here hx rfl (pc0 := 19) (pc' := 26) rfl (hb hby d1_19) rfl (feq (by decide : ¬ ((25 : Int32) = (2 : Int32)))).2 (by decide) (by decide) ?_
    show Steps p.tables e below (s₁.setTop (mkF m 26 #[.val (.int (25 : Int32))] [])) _
    refine XS.iloadN X0.here hx rfl (hb hby d1_26) rfl ?_
    show Steps p.tables e below (s₁.setTop (mkF m 27 #[.val (.int (25 : Int32))] [(.int (25 : Int32))])) _
    refine XS.iconst X0.here hx rfl (hb hby d1_27) ?_
    show Steps p.tables e below (s₁.setTop (mkF m 28 #[.val (.int (25 : Int32))] [(.int (3 : Int32)), (.int (25 : Int32))])) _
    refine XS.icmpYes X0.here hx rfl (pc0 := 28) (pc' := 35) rfl (hb hby d1_28) rfl (feq (by decide : ¬ ((25 : Int32) = (3 : Int32)))).2 (by decide) (by decide) ?_
    show Steps p.tables e below (s₁.setTop (mkF m 35 #[.val (.int (25 : Int32))] [])) _
    refine XS.iloadN X0.here hx rfl (hb hby d1_35) rfl ?_
    show Steps p.tables e below (s₁.setTop (mkF m 36 #[.val (.int (25 : Int32))] [(.int (25 : Int32))])) _
    refine XS.iconst X0.here hx rfl (hb hby d1_36) ?_
    show Steps p.tables e below (s₁.setTop (mkF m 37 #[.val (.int (25 : Int32))] [(.int (4 : Int32)), (.int (25 : Int32))])) _
    refine XS.icmpYes X0.here hx rfl (pc0 := 37) (pc' := 44) rfl (hb hby d1_37) rfl (feq (by decide : ¬ ((25 : Int32) = (4 : Int32)))).2 (by decide) (by decide) ?_
    show Steps p.tables e below (s₁.setTop (mkF m 44 #[.val (.int (25 : Int32))] [])) _
    refine XS.iloadN X0.here hx rfl (hb hby d1_44) rfl ?_
    show Steps p.tables e below (s₁.setTop (mkF m 45 #[.val (.int (25 : Int32))] [(.int (25 : Int32))])) _
    refine XS.iconst X0.here hx rfl (hb hby d1_45) ?_
    show Steps p.tables e below (s₁.setTop (mkF m 46 #[.val (.int (25 : Int32))] [(.int (5 : Int32)), (.int (25 : Int32))])) _
    refine XS.icmpYes X0.here hx rfl (pc0 := 46) (pc' := 53) rfl (hb hby d1_46) rfl (feq (by decide : ¬ ((25 : Int32) = (5 : Int32)))).2 (by decide) (by decide) ?_
    show Steps p.tables e below (s₁.setTop (mkF m 53 #[.val (.int (25 : Int32))] [])) _
    refine XS.iloadN X0.here hx rfl (hb hby d1_53) rfl ?_
    show Steps p.tables e below (s₁.setTop (mkF m 54 #[.val (.int (25 : Int32))] [(.int (25 : Int32))])) _
    refine XS.bipush X0.here hx rfl (hb hby d1_54) ?_
    show Steps p.tables e below (s₁.setTop (mkF m 56 #[.val (.int (25 : Int32))] [(.int (6 : Int32)), (.int (25 : Int32))])) _
    refine XS.icmpYes X0.here hx rfl (pc0 := 56) (pc' := 63) rfl (hb hby d1_56) rfl (feq (by decide : ¬ ((25 : Int32) = (6 : Int32)))).2 (by decide) (by decide) ?_
    show Steps p.tables e below (s₁.setTop (mkF m 63 #[.val (.int (25 : Int32))] [])) _
    refine XS.iloadN X0.here hx rfl (hb hby d1_63) rfl ?_
    show Steps p.tables e below (s₁.setTop (mkF m 64 #[.val (.int (25 : Int32))] [(.int (25 : Int32))])) _
    refine XS.bipush X0.here hx rfl (hb hby d1_64) ?_
    show Steps p.tables e below (s₁.setTop (mkF m 66 #[.val (.int (25 : Int32))] [(.int (7 : Int32)), (.int (25 : Int32))])) _
    refine XS.icmpYes X0.here hx rfl (pc0 := 66) (pc' := 73) rfl (hb hby d1_66) rfl (feq (by decide : ¬ ((25 : Int32) = (7 : Int32)))).2 (by decide) (by decide) ?_
    show Steps p.tables e below (s₁.setTop (mkF m 73 #[.val (.int (25 : Int32))] [])) _
    refine XS.iloadN X0.here hx rfl (hb hby d1_73) rfl ?_
    show Steps p.tables e below (s₁.setTop (mkF m 74 #[.val (.int (25 : Int32))] [(.int (25 : Int32))])) _
    refine XS.bipush X0.here hx rfl (hb hby d1_74) ?_
    show Steps p.tables e below (s₁.setTop (mkF m 76 #[.val (.int (25 : Int32))] [(.int (8 : Int32)), (.int (25 : Int32))])) _
    refine XS.icmpYes X0.here hx rfl (pc0 := 76) (pc' := 83) rfl (hb hby d1_76) rfl (feq (by decide : ¬ ((25 : Int32) = (8 : Int32)))).2 (by decide) (by decide) ?_
    show Steps p.tables e below (s₁.setTop (mkF m 83 #[.val (.int (25 : Int32))] [])) _
    refine XS.iloadN X0.here hx rfl (hb hby d1_83) rfl ?_
    show Steps p.tables e below (s₁.setTop (mkF m 84 #[.val (.int (25 : Int32))] [(.int (25 : Int32))])) _
    refine XS.bipush X0.here hx rfl (hb hby d1_84) ?_
    show Steps p.tables e below (s₁.setTop (mkF m 86 #[.val (.int (25 : Int32))] [(.int (9 : Int32)), (.int (25 : Int32))])) _
    refine XS.icmpYes X0.here hx rfl (pc0 := 86) (pc' := 93) rfl (hb hby d1_86) rfl (feq (by decide : ¬ ((25 : Int32) = (9 : Int32)))).2 (by decide) (by decide) ?_
    show Steps p.tables e below (s₁.setTop (mkF m 93 #[.val (.int (25 : Int32))] [])) _
    refine XS.iloadN X0.here hx rfl (hb hby d1_93) rfl ?_
    show Steps p.tables e below (s₁.setTop (mkF m 94 #[.val (.int (25 : Int32))] [(.int (25 : Int32))])) _
    refine XS.bipush X0.here hx rfl (hb hby d1_94) ?_
    show Steps p.tables e below (s₁.setTop (mkF m 96 #[.val (.int (25 : Int32))] [(.int (10 : Int32)), (.int (25 : Int32))])) _
    refine XS.icmpYes X0.here hx rfl (pc0 := 96) (pc' := 103) rfl (hb hby d1_96) rfl (feq (by decide : ¬ ((25 : Int32) = (10 : Int32)))).2 (by decide) (by decide) ?_
    show Steps p.tables e below (s₁.setTop (mkF m 103 #[.val (.int (25 : Int32))] [])) _
    refine XS.iloadN X0.here hx rfl (hb hby d1_103) rfl ?_
    show Steps p.tables e below (s₁.setTop (mkF m 104 #[.val (.int (25 : Int32))] [(.int (25 : Int32))])) _
    refine XS.bipush X0.here hx rfl (hb hby d1_104) ?_
    show Steps p.tables e below (s₁.setTop (mkF m 106 #[.val (.int (25 : Int32))] [(.int (11 : Int32)), (.int (25 : Int32))])) _
    refine XS.icmpYes X0.here hx rfl (pc0 := 106) (pc' := 113) rfl (hb hby d1_106) rfl (feq (by decide : ¬ ((25 : Int32) = (11 : Int32)))).2 (by decide) (by decide) ?_
    show Steps p.tables e below (s₁.setTop (mkF m 113 #[.val (.int (25 : Int32))] [])) _
    refine XS.iloadN X0.here hx rfl (hb hby d1_113) rfl ?_
    show Steps p.tables e below (s₁.setTop (mkF m 114 #[.val (.int (25 : Int32))] [(.int (25 : Int32))])) _
    refine XS.bipush X0.here hx rfl (hb hby d1_114) ?_
    show Steps p.tables e below (s₁.setTop (mkF m 116 #[.val (.int (25 : Int32))] [(.int (12 : Int32)), (.int (25 : Int32))])) _
    refine XS.icmpYes X0.here hx rfl (pc0 := 116) (pc' := 123) rfl (hb hby d1_116) rfl (feq (by decide : ¬ ((25 : Int32) = (12 : Int32)))).2 (by decide) (by decide) ?_
    show Steps p.tables e below (s₁.setTop (mkF m 123 #[.val (.int (25 : Int32))] [])) _
    refine XS.iloadN X0.here hx rfl (hb hby d1_123) rfl ?_
    show Steps p.tables e below (s₁.setTop (mkF m 124 #[.val (.int (25 : Int32))] [(.int (25 : Int32))])) _
    refine XS.bipush X0.here hx rfl (hb hby d1_124) ?_
    show Steps p.tables e below (s₁.setTop (mkF m 126 #[.val (.int (25 : Int32))] [(.int (13 : Int32)), (.int (25 : Int32))])) _
    refine XS.icmpYes X0.here hx rfl (pc0 := 126) (pc' := 133) rfl (hb hby d1_126) rfl (feq (by decide : ¬ ((25 : Int32) = (13 : Int32)))).2 (by decide) (by decide) ?_
    show Steps p.tables e below (s₁.setTop (mkF m 133 #[.val (.int (25 : Int32))] [])) _
    refine XS.iloadN X0.here hx rfl (hb hby d1_133) rfl ?_
    show Steps p.tables e below (s₁.setTop (mkF m 134 #[.val (.int (25 : Int32))] [(.int (25 : Int32))])) _
    refine XS.bipush X0.here hx rfl (hb hby d1_134) ?_
    show Steps p.tables e below (s₁.setTop (mkF m 136 #[.val (.int (25 : Int32))] [(.int (14 : Int32)), (.int (25 : Int32))])) _
    refine XS.icmpYes X0.here hx rfl (pc0 := 136) (pc' := 143) rfl (hb hby d1_136) rfl (feq (by decide : ¬ ((25 : Int32) = (14 : Int32)))).2 (by decide) (by decide) ?_
    show Steps p.tables e below (s₁.setTop (mkF m 143 #[.val (.int (25 : Int32))] [])) _
    refine XS.iloadN X0.here hx rfl (hb hby d1_143) rfl ?_
    show Steps p.tables e below (s₁.setTop (mkF m 144 #[.val (.int (25 : Int32))] [(.int (25 : Int32))])) _
    refine XS.bipush X0.here hx rfl (hb hby d1_144) ?_
    show Steps p.tables e below (s₁.setTop (mkF m 146 #[.val (.int (25 : Int32))] [(.int (15 : Int32)), (.int (25 : Int32))])) _
    refine XS.icmpYes X0.here hx rfl (pc0 := 146) (pc' := 153) rfl (hb hby d1_146) rfl (feq (by decide : ¬ ((25 : Int32) = (15 : Int32)))).2 (by decide) (by decide) ?_
    show Steps p.tables e below (s₁.setTop (mkF m 153 #[.val (.int (25 : Int32))] [])) _
    refine XS.iloadN X0.here hx rfl (hb hby d1_153) rfl ?_
    show Steps p.tables e below (s₁.setTop (mkF m 154 #[.val (.int (25 : Int32))] [(.int (25 : Int32))])) _
    refine XS.bipush X0.here hx rfl (hb hby d1_154) ?_
    show Steps p.tables e below (s₁.setTop (mkF m 156 #[.val (.int (25 : Int32))] [(.int (16 : Int32)), (.int (25 : Int32))])) _
    refine XS.icmpYes X0.here hx rfl (pc0 := 156) (pc' := 163) rfl (hb hby d1_156) rfl (feq (by decide : ¬ ((25 : Int32) = (16 : Int32)))).2 (by decide) (by decide) ?_
    show Steps p.tables e below (s₁.setTop (mkF m 163 #[.val (.int (25 : Int32))] [])) _
    refine XS.iloadN X0.here hx rfl (hb hby d1_163) rfl ?_
    show Steps p.tables e below (s₁.setTop (mkF m 164 #[.val (.int (25 : Int32))] [(.int (25 : Int32))])) _
    refine XS.bipush X0.here hx rfl (hb hby d1_164) ?_
    show Steps p.tables e below (s₁.setTop (mkF m 166 #[.val (.int (25 : Int32))] [(.int (17 : Int32)), (.int (25 : Int32))])) _
    refine XS.icmpYes X0.here hx rfl (pc0 := 166) (pc' := 173) rfl (hb hby d1_166) rfl (feq (by decide : ¬ ((25 : Int32) = (17 : Int32)))).2 (by decide) (by decide) ?_
    show Steps p.tables e below (s₁.setTop (mkF m 173 #[.val (.int (25 : Int32))] [])) _
    refine XS.iloadN X0.here hx rfl (hb hby d1_173) rfl ?_
    show Steps p.tables e below (s₁.setTop (mkF m 174 #[.val (.int (25 : Int32))] [(.int (25 : Int32))])) _
    refine XS.bipush X0.here hx rfl (hb hby d1_174) ?_
    show Steps p.tables e below (s₁.setTop (mkF m 176 #[.val (.int (25 : Int32))] [(.int (18 : Int32)), (.int (25 : Int32))])) _
    refine XS.icmpYes X0.here hx rfl (pc0 := 176) (pc' := 183) rfl (hb hby d1_176) rfl (feq (by decide : ¬ ((25 : Int32) = (18 : Int32)))).2 (by decide) (by decide) ?_
    show Steps p.tables e below (s₁.setTop (mkF m 183 #[.val (.int (25 : Int32))] [])) _
    refine XS.iloadN X0.here hx rfl (hb hby d1_183) rfl ?_
    show Steps p.tables e below (s₁.setTop (mkF m 184 #[.val (.int (25 : Int32))] [(.int (25 : Int32))])) _
    refine XS.bipush X0.here hx rfl (hb hby d1_184) ?_
    show Steps p.tables e below (s₁.setTop (mkF m 186 #[.val (.int (25 : Int32))] [(.int (19 : Int32)), (.int (25 : Int32))])) _
    refine XS.icmpYes X0.here hx rfl (pc0 := 186) (pc' := 193) rfl (hb hby d1_186) rfl (feq (by decide : ¬ ((25 : Int32) = (19 : Int32)))).2 (by decide) (by decide) ?_
    show Steps p.tables e below (s₁.setTop (mkF m 193 #[.val (.int (25 : Int32))] [])) _
    refine XS.iloadN X0.here hx rfl (hb hby d1_193) rfl ?_
    show Steps p.tables e below (s₁.setTop (mkF m 194 #[.val (.int (25 : Int32))] [(.int (25 : Int32))])) _
    refine XS.bipush X0.here hx rfl (hb hby d1_194) ?_
    show Steps p.tables e below (s₁.setTop (mkF m 196 #[.val (.int (25 : Int32))] [(.int (20 : Int32)), (.int (25 : Int32))])) _
    refine XS.icmpYes X0.here hx rfl (pc0 := 196) (pc' := 203) rfl (hb hby d1_196) rfl (feq (by decide : ¬ ((25 : Int32) = (20 : Int32)))).2 (by decide) (by decide) ?_
    show Steps p.tables e below (s₁.setTop (mkF m 203 #[.val (.int (25 : Int32))] [])) _
    refine XS.iloadN X0.here hx rfl (hb hby d1_203) rfl ?_
    show Steps p.tables e below (s₁.setTop (mkF m 204 #[.val (.int (25 : Int32))] [(.int (25 : Int32))])) _
    refine XS.bipush X0.here hx rfl (hb hby d1_204) ?_
    show Steps p.tables e below (s₁.setTop (mkF m 206 #[.val (.int (25 : Int32))] [(.int (21 : Int32)), (.int (25 : Int32))])) _
    refine XS.icmpYes X0.here hx rfl (pc0 := 206) (pc' := 213) rfl (hb hby d1_206) rfl (feq (by decide : ¬ ((25 : Int32) = (21 : Int32)))).2 (by decide) (by decide) ?_
    show Steps p.tables e below (s₁.setTop (mkF m 213 #[.val (.int (25 : Int32))] [])) _
    refine XS.iloadN X0.here hx rfl (hb hby d1_213) rfl ?_
    show Steps p.tables e below (s₁.setTop (mkF m 214 #[.val (.int (25 : Int32))] [(.int (25 : Int32))])) _
    refine XS.bipush X0.here hx rfl (hb hby d1_214) ?_
    show Steps p.tables e below (s₁.setTop (mkF m 216 #[.val (.int (25 : Int32))] [(.int (22 : Int32)), (.int (25 : Int32))])) _
    refine XS.icmpYes X0.here hx rfl (pc0 := 216) (pc' := 223) rfl (hb hby d1_216) rfl (feq (by decide : ¬ ((25 : Int32) = (22 : Int32)))).2 (by decide) (by decide) ?_
    show Steps p.tables e below (s₁.setTop (mkF m 223 #[.val (.int (25 : Int32))] [])) _
    refine XS.iloadN X0.here hx rfl (hb hby d1_223) rfl ?_
    show Steps p.tables e below (s₁.setTop (mkF m 224 #[.val (.int (25 : Int32))] [(.int (25 : Int32))])) _
    refine XS.bipush X0.here hx rfl (hb hby d1_224) ?_
    show Steps p.tables e below (s₁.setTop (mkF m 226 #[.val (.int (25 : Int32))] [(.int (23 : Int32)), (.int (25 : Int32))])) _
    refine XS.icmpYes X0.here hx rfl (pc0 := 226) (pc' := 233) rfl (hb hby d1_226) rfl (feq (by decide : ¬ ((25 : Int32) = (23 : Int32)))).2 (by decide) (by decide) ?_
    show Steps p.tables e below (s₁.setTop (mkF m 233 #[.val (.int (25 : Int32))] [])) _
    refine XS.iloadN X0.here hx rfl (hb hby d1_233) rfl ?_
    show Steps p.tables e below (s₁.setTop (mkF m 234 #[.val (.int (25 : Int32))] [(.int (25 : Int32))])) _
    refine XS.bipush X0.here hx rfl (hb hby d1_234) ?_
    show Steps p.tables e below (s₁.setTop (mkF m 236 #[.val (.int (25 : Int32))] [(.int (24 : Int32)), (.int (25 : Int32))])) _
    refine XS.icmpYes X0.here hx rfl (pc0 := 236) (pc' := 243) rfl (hb hby d1_236) rfl (feq (by decide : ¬ ((25 : Int32) = (24 : Int32)))).2 (by decide) (by decide) ?_
    show Steps p.tables e below (s₁.setTop (mkF m 243 #[.val (.int (25 : Int32))] [])) _
    refine XS.iloadN X0.here hx rfl (hb hby d1_243) rfl ?_
    show Steps p.tables e below (s₁.setTop (mkF m 244 #[.val (.int (25 : Int32))] [(.int (25 : Int32))])) _
    refine XS.bipush X0.here hx rfl (hb hby d1_244) ?_
    show Steps p.tables e below (s₁.setTop (mkF m 246 #[.val (.int (25 : Int32))] [(.int (25 : Int32)), (.int (25 : Int32))])) _
    refine XS.icmpNo X0.here hx rfl (hb hby d1_246) rfl (teq (by decide : (25 : Int32) = (25 : Int32))).2 ?_
    show Steps p.tables e below (s₁.setTop (mkF m 249 #[.val (.int (25 : Int32))] [])) _
    refine st1 _ ?_
    show Steps p.tables e below (T1.setTop (mkF m 252 #[.val (.int (25 : Int32))] [(.ref a1)])) _
    exact retOut X1 hx Bd.returns rfl (Or.inr (Or.inr (Or.inr (Or.inr ⟨rfl, rfl, rfl⟩)))) (hb hby d1_252) hr
  · show Q1_26 Z a1 h0 n0 _ T1.heap _
    rw [e1]
    exact ⟨rfl, N0, rfl⟩
theorem ef1_27 (m : MethodId) : entryFrame m #[(.int (26 : Int32))] 1 = mkF m 0 #[.val (.int (26 : Int32))] [] := by first | (simp [entryFrame, mkF, argsToLocals, Value.category]; done) | rfl
def Q1_27 (Z : State) (a1 : Addr) (h0 : Heap) (n0 : Nat) (v : Option Value) (h : Heap) (L : List Loc) : Prop := v = some (.ref a1) ∧ Fr n0 L ∧ h = h0
set_option maxRecDepth 65536 in
set_option maxHeartbeats 40000000 in
theorem rm1_27 (l : Launch) (Z : State) (a0 : Array Value) (hw : ∀ d ∈ tables_1, d.before a0 Z = true) (ws : List Jvm.Cond) (a1 : Addr) (h0 : Heap) (n0 : Nat) (Z0 : n0 ≤ h0.size) (S_ResultCode_COMMAND_FAILED : Sta Z h0 "com/example/delehat/delehat/protocols/epp/ResultCode" "COMMAND_FAILED" "Lcom/example/delehat/delehat/protocols/epp/ResultCode;" (.ref a1)) :
    MetFree l (⟨"com/example/delehat/delehat/protocols/epp/PayloadOfPinLaw", "pick", "(I)Lcom/example/delehat/delehat/protocols/epp/ResultCode;"⟩ : MethodName) (head1 (Jvm.Cond.code (⟨"com/example/delehat/delehat/protocols/epp/PayloadOfPinLaw", "pick", "(I)Lcom/example/delehat/delehat/protocols/epp/ResultCode;"⟩ : MethodName) method_2_code 1 (some (.object "com/example/delehat/delehat/protocols/epp/ResultCode")) :: ws) ({ frames := 0, cells := 0, slots := 0, locals := 0 } : Room)) (fun a U => a = #[(.int (26 : Int32))] ∧ Z.Warmed39 U.vm ∧ U.heap = h0) (fun _ _ _ _ _ => True) (fun _ U o U' => ∃ v L, o = .returned v ∧ Q1_27 Z a1 h0 n0 v U'.heap L ∧ FrameEnd U o U' L ({ frames := 0, cells := 0, slots := 0, locals := 0 } : Room).cells ({ frames := 0, cells := 0, slots := 0, locals := 0 } : Room).slots) := by
  refine MetFree.of_bodySF (plainFor_of_name pn_com_example_delehat_delehat_protocols_epp_PayloadOfPinLaw) hisR ?_
  intro p e s m args below meth c s₁ Bd hml0 hP hK
  obtain ⟨rfl, hZ, hh⟩ := hP
  have hx := Bd.exec
  have hby := Bd.bytes
  have hml : c.maxLocals = 1 := hml0
  have hown : s.vm.findClass "com/example/delehat/delehat/protocols/epp/PayloadOfPinLaw" = some m.cls := findClass_of_methodNamed Bd.named
  have hnm := (name_of_methodNamed Bd.named Bd.method).1
  have X0 : Stand p l e ({ frames := 0, cells := 0, slots := 0, locals := 0 } : Room) s m #[(.int (26 : Int32))] below meth c s₁ [] 0 0 := Stand.of_body Bd
  have e0 : s₁.heap = h0 := by rw [← hh, Bd.state]; rfl
  have N0 := Fr.nil n0
  have pre0 : ∀ t, Steps p.tables e below (s₁.setTop (mkF m 0 #[.val (.int (26 : Int32))] [])) t → Steps p.tables e below (s₁.setTop (entryFrame m #[(.int (26 : Int32))] 1)) t := fun t k => castTop (ef1_27 m) k
  obtain ⟨T1, X1, e1, st1⟩ := getS2 X0 hx hZ hown (host := "") (Or.inl (own_w55 hw)) Via.refl e0 S_ResultCode_COMMAND_FAILED (g := (mkF m 259 #[.val (.int (26 : Int32))] [])) rfl (hb hby d1_259)
  obtain ⟨fs, hr, hrun, hended, hW, hsame⟩ := X1.leave (v := some (.ref a1)) (fun h => by rw [Bd.returns] at h; cases h)
  refine ⟨_, _, pre0 _ ?_, hrun, hended, _, _, rfl, ?_, ⟨_, rfl⟩, hW, hsame.mono (by decide) (by decide)⟩
  · show Steps p.tables e below (s₁.setTop (mkF m 0 #[.val (.int (26 : Int32))] [])) _
    refine XS.iloadN X0.here hx rfl (hb hby d1_0) rfl ?_
    show Steps p.tables e below (s₁.setTop (mkF m 1 #[.val (.int (26 : Int32))] [(.int (26 : Int32))])) _
    refine XS.ifYes X0.here hx rfl (pc0 := 1) (pc' := 8) rfl (hb hby d1_1) rfl ((if0 _ _).trans (feq (by decide : ¬ ((26 : Int32) = (0 : Int32)))).2) (by decide) (by decide) ?_
    show Steps p.tables e below (s₁.setTop (mkF m 8 #[.val (.int (26 : Int32))] [])) _
    refine XS.iloadN X0.here hx rfl (hb hby d1_8) rfl ?_
    show Steps p.tables e below (s₁.setTop (mkF m 9 #[.val (.int (26 : Int32))] [(.int (26 : Int32))])) _
    refine XS.iconst X0.here hx rfl (hb hby d1_9) ?_
    show Steps p.tables e below (s₁.setTop (mkF m 10 #[.val (.int (26 : Int32))] [(.int (1 : Int32)), (.int (26 : Int32))])) _
    refine XS.icmpYes X0.here hx rfl (pc0 := 10) (pc' := 17) rfl (hb hby d1_10) rfl (feq (by decide : ¬ ((26 : Int32) = (1 : Int32)))).2 (by decide) (by decide) ?_
    show Steps p.tables e below (s₁.setTop (mkF m 17 #[.val (.int (26 : Int32))] [])) _
    refine XS.iloadN X0.here hx rfl (hb hby d1_17) rfl ?_
    show Steps p.tables e below (s₁.setTop (mkF m 18 #[.val (.int (26 : Int32))] [(.int (26 : Int32))])) _
    refine XS.iconst X0.here hx rfl (hb hby d1_18) ?_
    show Steps p.tables e below (s₁.setTop (mkF m 19 #[.val (.int (26 : Int32))] [(.int (2 : Int32)), (.int (26 : Int32))])) _
    refine XS.icmpYes X0.here hx rfl (pc0 := 19) (pc' := 26) rfl (hb hby d1_19) rfl (feq (by decide : ¬ ((26 : Int32) = (2 : Int32)))).2 (by decide) (by decide) ?_
    show Steps p.tables e below (s₁.setTop (mkF m 26 #[.val (.int (26 : Int32))] [])) _
    refine XS.iloadN X0.here hx rfl (hb hby d1_26) rfl ?_
    show Steps p.tables e below (s₁.setTop (mkF m 27 #[.val (.int (26 : Int32))] [(.int (26 : Int32))])) _
    refine XS.iconst X0.here hx rfl (hb hby d1_27) ?_
    show Steps p.tables e below (s₁.setTop (mkF m 28 #[.val (.int (26 : Int32))] [(.int (3 : Int32)), (.int (26 : Int32))])) _
    refine XS.icmpYes X0.here hx rfl (pc0 := 28) (pc' := 35) rfl (hb hby d1_28) rfl (feq (by decide : ¬ ((26 : Int32) = (3 : Int32)))).2 (by decide) (by decide) ?_
    show Steps p.tables e below (s₁.setTop (mkF m 35 #[.val (.int (26 : Int32))] [])) _
    refine XS.iloadN X0.here hx rfl (hb hby d1_35) rfl ?_
    show Steps p.tables e below (s₁.setTop (mkF m 36 #[.val (.int (26 : Int32))] [(.int (26 : Int32))])) _
    refine XS.iconst X0.here hx rfl (hb hby d1_36) ?_
    show Steps p.tables e below (s₁.setTop (mkF m 37 #[.val (.int (26 : Int32))] [(.int (4 : Int32)), (.int (26 : Int32))])) _
    refine XS.icmpYes X0.here hx rfl (pc0 := 37) (pc' := 44) rfl (hb hby d1_37) rfl (feq (by decide : ¬ ((26 : Int32) = (4 : Int32)))).2 (by decide) (by decide) ?_
    show Steps p.tables e below (s₁.setTop (mkF m 44 #[.val (.int (26 : Int32))] [])) _
    refine XS.iloadN X0.here hx rfl (hb hby d1_44) rfl ?_
    show Steps p.tables e below (s₁.setTop (mkF m 45 #[.val (.int (26 : Int32))] [(.int (26 : Int32))])) _
    refine XS.iconst X0.here hx rfl (hb hby d1_45) ?_
    show Steps p.tables e below (s₁.setTop (mkF m 46 #[.val (.int (26 : Int32))] [(.int (5 : Int32)), (.int (26 : Int32))])) _
    refine XS.icmpYes X0.here hx rfl (pc0 := 46) (pc' := 53) rfl (hb hby d1_46) rfl (feq (by decide : ¬ ((26 : Int32) = (5 : Int32)))).2 (by decide) (by decide) ?_
    show Steps p.tables e below (s₁.setTop (mkF m 53 #[.val (.int (26 : Int32))] [])) _
    refine XS.iloadN X0.here hx rfl (hb hby d1_53) rfl ?_
    show Steps p.tables e below (s₁.setTop (mkF m 54 #[.val (.int (26 : Int32))] [(.int (26 : Int32))])) _
    refine XS.bipush X0.here hx rfl (hb hby d1_54) ?_
    show Steps p.tables e below (s₁.setTop (mkF m 56 #[.val (.int (26 : Int32))] [(.int (6 : Int32)), (.int (26 : Int32))])) _
    refine XS.icmpYes X0.here hx rfl (pc0 := 56) (pc' := 63) rfl (hb hby d1_56) rfl (feq (by decide : ¬ ((26 : Int32) = (6 : Int32)))).2 (by decide) (by decide) ?_
    show Steps p.tables e below (s₁.setTop (mkF m 63 #[.val (.int (26 : Int32))] [])) _
    refine XS.iloadN X0.here hx rfl (hb hby d1_63) rfl ?_
    show Steps p.tables e below (s₁.setTop (mkF m 64 #[.val (.int (26 : Int32))] [(.int (26 : Int32))])) _
    refine XS.bipush X0.here hx rfl (hb hby d1_64) ?_
    show Steps p.tables e below (s₁.setTop (mkF m 66 #[.val (.int (26 : Int32))] [(.int (7 : Int32)), (.int (26 : Int32))])) _
    refine XS.icmpYes X0.here hx rfl (pc0 := 66) (pc' := 73) rfl (hb hby d1_66) rfl (feq (by decide : ¬ ((26 : Int32) = (7 : Int32)))).2 (by decide) (by decide) ?_
    show Steps p.tables e below (s₁.setTop (mkF m 73 #[.val (.int (26 : Int32))] [])) _
    refine XS.iloadN X0.here hx rfl (hb hby d1_73) rfl ?_
    show Steps p.tables e below (s₁.setTop (mkF m 74 #[.val (.int (26 : Int32))] [(.int (26 : Int32))])) _
    refine XS.bipush X0.here hx rfl (hb hby d1_74) ?_
    show Steps p.tables e below (s₁.setTop (mkF m 76 #[.val (.int (26 : Int32))] [(.int (8 : Int32)), (.int (26 : Int32))])) _
    refine XS.icmpYes X0.here hx rfl (pc0 := 76) (pc' := 83) rfl (hb hby d1_76) rfl (feq (by decide : ¬ ((26 : Int32) = (8 : Int32)))).2 (by decide) (by decide) ?_
    show Steps p.tables e below (s₁.setTop (mkF m 83 #[.val (.int (26 : Int32))] [])) _
    refine XS.iloadN X0.here hx rfl (hb hby d1_83) rfl ?_
    show Steps p.tables e below (s₁.setTop (mkF m 84 #[.val (.int (26 : Int32))] [(.int (26 : Int32))])) _
    refine XS.bipush X0.here hx rfl (hb hby d1_84) ?_
    show Steps p.tables e below (s₁.setTop (mkF m 86 #[.val (.int (26 : Int32))] [(.int (9 : Int32)), (.int (26 : Int32))])) _
    refine XS.icmpYes X0.here hx rfl (pc0 := 86) (pc' := 93) rfl (hb hby d1_86) rfl (feq (by decide : ¬ ((26 : Int32) = (9 : Int32)))).2 (by decide) (by decide) ?_
    show Steps p.tables e below (s₁.setTop (mkF m 93 #[.val (.int (26 : Int32))] [])) _
    refine XS.iloadN X0.here hx rfl (hb hby d1_93) rfl ?_
    show Steps p.tables e below (s₁.setTop (mkF m 94 #[.val (.int (26 : Int32))] [(.int (26 : Int32))])) _
    refine XS.bipush X0.here hx rfl (hb hby d1_94) ?_
    show Steps p.tables e below (s₁.setTop (mkF m 96 #[.val (.int (26 : Int32))] [(.int (10 : Int32)), (.int (26 : Int32))])) _
    refine XS.icmpYes X0.here hx rfl (pc0 := 96) (pc' := 103) rfl (hb hby d1_96) rfl (feq (by decide : ¬ ((26 : Int32) = (10 : Int32)))).2 (by decide) (by decide) ?_
    show Steps p.tables e below (s₁.setTop (mkF m 103 #[.val (.int (26 : Int32))] [])) _
    refine XS.iloadN X0.here hx rfl (hb hby d1_103) rfl ?_
    show Steps p.tables e below (s₁.setTop (mkF m 104 #[.val (.int (26 : Int32))] [(.int (26 : Int32))])) _
    refine XS.bipush X0.here hx rfl (hb hby d1_104) ?_
    show Steps p.tables e below (s₁.setTop (mkF m 106 #[.val (.int (26 : Int32))] [(.int (11 : Int32)), (.int (26 : Int32))])) _
    refine XS.icmpYes X0.here hx rfl (pc0 := 106) (pc' := 113) rfl (hb hby d1_106) rfl (feq (by decide : ¬ ((26 : Int32) = (11 : Int32)))).2 (by decide) (by decide) ?_
    show Steps p.tables e below (s₁.setTop (mkF m 113 #[.val (.int (26 : Int32))] [])) _
    refine XS.iloadN X0.here hx rfl (hb hby d1_113) rfl ?_
    show Steps p.tables e below (s₁.setTop (mkF m 114 #[.val (.int (26 : Int32))] [(.int (26 : Int32))])) _
    refine XS.bipush X0.here hx rfl (hb hby d1_114) ?_
    show Steps p.tables e below (s₁.setTop (mkF m 116 #[.val (.int (26 : Int32))] [(.int (12 : Int32)), (.int (26 : Int32))])) _
    refine XS.icmpYes X0.here hx rfl (pc0 := 116) (pc' := 123) rfl (hb hby d1_116) rfl (feq (by decide : ¬ ((26 : Int32) = (12 : Int32)))).2 (by decide) (by decide) ?_
    show Steps p.tables e below (s₁.setTop (mkF m 123 #[.val (.int (26 : Int32))] [])) _
    refine XS.iloadN X0.here hx rfl (hb hby d1_123) rfl ?_
    show Steps p.tables e below (s₁.setTop (mkF m 124 #[.val (.int (26 : Int32))] [(.int (26 : Int32))])) _
    refine XS.bipush X0.here hx rfl (hb hby d1_124) ?_
    show Steps p.tables e below (s₁.setTop (mkF m 126 #[.val (.int (26 : Int32))] [(.int (13 : Int32)), (.int (26 : Int32))])) _
    refine XS.icmpYes X0.here hx rfl (pc0 := 126) (pc' := 133) rfl (hb hby d1_126) rfl (feq (by decide : ¬ ((26 : Int32) = (13 : Int32)))).2 (by decide) (by decide) ?_
    show Steps p.tables e below (s₁.setTop (mkF m 133 #[.val (.int (26 : Int32))] [])) _
    refine XS.iloadN X0.here hx rfl (hb hby d1_133) rfl ?_
    show Steps p.tables e below (s₁.setTop (mkF m 134 #[.val (.int (26 : Int32))] [(.int (26 : Int32))])) _
    refine XS.bipush X0.here hx rfl (hb hby d1_134) ?_
    show Steps p.tables e below (s₁.setTop (mkF m 136 #[.val (.int (26 : Int32))] [(.int (14 : Int32)), (.int (26 : Int32))])) _
    refine XS.icmpYes X0.here hx rfl (pc0 := 136) (pc' := 143) rfl (hb hby d1_136) rfl (feq (by decide : ¬ ((26 : Int32) = (14 : Int32)))).2 (by decide) (by decide) ?_
    show Steps p.tables e below (s₁.setTop (mkF m 143 #[.val (.int (26 : Int32))] [])) _
    refine XS.iloadN X0.here hx rfl (hb hby d1_143) rfl ?_
    show Steps p.tables e below (s₁.setTop (mkF m 144 #[.val (.int (26 : Int32))] [(.int (26 : Int32))])) _
    refine XS.bipush X0.here hx rfl (hb hby d1_144) ?_
    show Steps p.tables e below (s₁.setTop (mkF m 146 #[.val (.int (26 : Int32))] [(.int (15 : Int32)), (.int (26 : Int32))])) _
    refine XS.icmpYes X0.here hx rfl (pc0 := 146) (pc' := 153) rfl (hb hby d1_146) rfl (feq (by decide : ¬ ((26 : Int32) = (15 : Int32)))).2 (by decide) (by decide) ?_
    show Steps p.tables e below (s₁.setTop (mkF m 153 #[.val (.int (26 : Int32))] [])) _
    refine XS.iloadN X0.here hx rfl (hb hby d1_153) rfl ?_
    show Steps p.tables e below (s₁.setTop (mkF m 154 #[.val (.int (26 : Int32))] [(.int (26 : Int32))])) _
    refine XS.bipush X0.here hx rfl (hb hby d1_154) ?_
    show Steps p.tables e below (s₁.setTop (mkF m 156 #[.val (.int (26 : Int32))] [(.int (16 : Int32)), (.int (26 : Int32))])) _
    refine XS.icmpYes X0.here hx rfl (pc0 := 156) (pc' := 163) rfl (hb hby d1_156) rfl (feq (by decide : ¬ ((26 : Int32) = (16 : Int32)))).2 (by decide) (by decide) ?_
    show Steps p.tables e below (s₁.setTop (mkF m 163 #[.val (.int (26 : Int32))] [])) _
    refine XS.iloadN X0.here hx rfl (hb hby d1_163) rfl ?_
    show Steps p.tables e below (s₁.setTop (mkF m 164 #[.val (.int (26 : Int32))] [(.int (26 : Int32))])) _
    refine XS.bipush X0.here hx rfl (hb hby d1_164) ?_
    show Steps p.tables e below (s₁.setTop (mkF m 166 #[.val (.int (26 : Int32))] [(.int (17 : Int32)), (.int (26 : Int32))])) _
    refine XS.icmpYes X0.here hx rfl (pc0 := 166) (pc' := 173) rfl (hb hby d1_166) rfl (feq (by decide : ¬ ((26 : Int32) = (17 : Int32)))).2 (by decide) (by decide) ?_
    show Steps p.tables e below (s₁.setTop (mkF m 173 #[.val (.int (26 : Int32))] [])) _
    refine XS.iloadN X0.here hx rfl (hb hby d1_173) rfl ?_
    show Steps p.tables e below (s₁.setTop (mkF m 174 #[.val (.int (26 : Int32))] [(.int (26 : Int32))])) _
    refine XS.bipush X0.here hx rfl (hb hby d1_174) ?_
    show Steps p.tables e below (s₁.setTop (mkF m 176 #[.val (.int (26 : Int32))] [(.int (18 : Int32)), (.int (26 : Int32))])) _
    refine XS.icmpYes X0.here hx rfl (pc0 := 176) (pc' := 183) rfl (hb hby d1_176) rfl (feq (by decide : ¬ ((26 : Int32) = (18 : Int32)))).2 (by decide) (by decide) ?_
    show Steps p.tables e below (s₁.setTop (mkF m 183 #[.val (.int (26 : Int32))] [])) _
    refine XS.iloadN X0.here hx rfl (hb hby d1_183) rfl ?_
    show Steps p.tables e below (s₁.setTop (mkF m 184 #[.val (.int (26 : Int32))] [(.int (26 : Int32))])) _
    refine XS.bipush X0.here hx rfl (hb hby d1_184) ?_
    show Steps p.tables e below (s₁.setTop (mkF m 186 #[.val (.int (26 : Int32))] [(.int (19 : Int32)), (.int (26 : Int32))])) _
    refine XS.icmpYes X0.here hx rfl (pc0 := 186) (pc' := 193) rfl (hb hby d1_186) rfl (feq (by decide : ¬ ((26 : Int32) = (19 : Int32)))).2 (by decide) (by decide) ?_
    show Steps p.tables e below (s₁.setTop (mkF m 193 #[.val (.int (26 : Int32))] [])) _
    refine XS.iloadN X0.here hx rfl (hb hby d1_193) rfl ?_
    show Steps p.tables e below (s₁.setTop (mkF m 194 #[.val (.int (26 : Int32))] [(.int (26 : Int32))])) _
    refine XS.bipush X0.here hx rfl (hb hby d1_194) ?_
    show Steps p.tables e below (s₁.setTop (mkF m 196 #[.val (.int (26 : Int32))] [(.int (20 : Int32)), (.int (26 : Int32))])) _
    refine XS.icmpYes X0.here hx rfl (pc0 := 196) (pc' := 203) rfl (hb hby d1_196) rfl (feq (by decide : ¬ ((26 : Int32) = (20 : Int32)))).2 (by decide) (by decide) ?_
    show Steps p.tables e below (s₁.setTop (mkF m 203 #[.val (.int (26 : Int32))] [])) _
    refine XS.iloadN X0.here hx rfl (hb hby d1_203) rfl ?_
    show Steps p.tables e below (s₁.setTop (mkF m 204 #[.val (.int (26 : Int32))] [(.int (26 : Int32))])) _
    refine XS.bipush X0.here hx rfl (hb hby d1_204) ?_
    show Steps p.tables e below (s₁.setTop (mkF m 206 #[.val (.int (26 : Int32))] [(.int (21 : Int32)), (.int (26 : Int32))])) _
    refine XS.icmpYes X0.here hx rfl (pc0 := 206) (pc' := 213) rfl (hb hby d1_206) rfl (feq (by decide : ¬ ((26 : Int32) = (21 : Int32)))).2 (by decide) (by decide) ?_
    show Steps p.tables e below (s₁.setTop (mkF m 213 #[.val (.int (26 : Int32))] [])) _
    refine XS.iloadN X0.here hx rfl (hb hby d1_213) rfl ?_
    show Steps p.tables e below (s₁.setTop (mkF m 214 #[.val (.int (26 : Int32))] [(.int (26 : Int32))])) _
    refine XS.bipush X0.here hx rfl (hb hby d1_214) ?_
    show Steps p.tables e below (s₁.setTop (mkF m 216 #[.val (.int (26 : Int32))] [(.int (22 : Int32)), (.int (26 : Int32))])) _
    refine XS.icmpYes X0.here hx rfl (pc0 := 216) (pc' := 223) rfl (hb hby d1_216) rfl (feq (by decide : ¬ ((26 : Int32) = (22 : Int32)))).2 (by decide) (by decide) ?_
    show Steps p.tables e below (s₁.setTop (mkF m 223 #[.val (.int (26 : Int32))] [])) _
    refine XS.iloadN X0.here hx rfl (hb hby d1_223) rfl ?_
    show Steps p.tables e below (s₁.setTop (mkF m 224 #[.val (.int (26 : Int32))] [(.int (26 : Int32))])) _
    refine XS.bipush X0.here hx rfl (hb hby d1_224) ?_
    show Steps p.tables e below (s₁.setTop (mkF m 226 #[.val (.int (26 : Int32))] [(.int (23 : Int32)), (.int (26 : Int32))])) _
    refine XS.icmpYes X0.here hx rfl (pc0 := 226) (pc' := 233) rfl (hb hby d1_226) rfl (feq (by decide : ¬ ((26 : Int32) = (23 : Int32)))).2 (by decide) (by decide) ?_
    show Steps p.tables e below (s₁.setTop (mkF m 233 #[.val (.int (26 : Int32))] [])) _
    refine XS.iloadN X0.here hx rfl (hb hby d1_233) rfl ?_
    show Steps p.tables e below (s₁.setTop (mkF m 234 #[.val (.int (26 : Int32))] [(.int (26 : Int32))])) _
    refine XS.bipush X0.here hx rfl (hb hby d1_234) ?_
    show Steps p.tables e below (s₁.setTop (mkF m 236 #[.val (.int (26 : Int32))] [(.int (24 : Int32)), (.int (26 : Int32))])) _
    refine XS.icmpYes X0.here hx rfl (pc0 := 236) (pc' := 243) rfl (hb hby d1_236) rfl (feq (by decide : ¬ ((26 : Int32) = (24 : Int32)))).2 (by decide) (by decide) ?_
    show Steps p.tables e below (s₁.setTop (mkF m 243 #[.val (.int (26 : Int32))] [])) _
    refine XS.iloadN X0.here hx rfl (hb hby d1_243) rfl ?_
    show Steps p.tables e below (s₁.setTop (mkF m 244 #[.val (.int (26 : Int32))] [(.int (26 : Int32))])) _
    refine XS.bipush X0.here hx rfl (hb hby d1_244) ?_
    show Steps p.tables e below (s₁.setTop (mkF m 246 #[.val (.int (26 : Int32))] [(.int (25 : Int32)), (.int (26 : Int32))])) _
    refine XS.icmpYes X0.here hx rfl (pc0 := 246) (pc' := 253) rfl (hb hby d1_246) rfl (feq (by decide : ¬ ((26 : Int32) = (25 : Int32)))).2 (by decide) (by decide) ?_
    show Steps p.tables e below (s₁.setTop (mkF m 253 #[.val (.int (26 : Int32))] [])) _
    refine XS.iloadN X0.here hx rfl (hb hby d1_253) rfl ?_
    show Steps p.tables e below (s₁.setTop (mkF m 254 #[.val (.int (26 : Int32))] [(.int (26 : Int32))])) _
    refine XS.bipush X0.here hx rfl (hb hby d1_254) ?_
    show Steps p.tables e below (s₁.setTop (mkF m 256 #[.val (.int (26 : Int32))] [(.int (26 : Int32)), (.int (26 : Int32))])) _
    refine XS.icmpNo X0.here hx rfl (hb hby d1_256) rfl (teq (by decide : (26 : Int32) = (26 : Int32))).2 ?_
    show Steps p.tables e below (s₁.setTop (mkF m 259 #[.val (.int (26 : Int32))] [])) _
    refine st1 _ ?_
    show Steps p.tables e below (T1.setTop (mkF m 262 #[.val (.int (26 : Int32))] [(.ref a1)])) _
    exact retOut X1 hx Bd.returns rfl (Or.inr (Or.inr (Or.inr (Or.inr ⟨rfl, rfl, rfl⟩)))) (hb hby d1_262) hr
  · show Q1_27 Z a1 h0 n0 _ T1.heap _
    rw [e1]
    exact ⟨rfl, N0, rfl⟩
theorem ef1_28 (m : MethodId) : entryFrame m #[(.int (27 : Int32))] 1 = mkF m 0 #[.val (.int (27 : Int32))] [] := by first | (simp [entryFrame, mkF, argsToLocals, Value.category]; done) | rfl
def Q1_28 (Z : State) (a1 : Addr) (h0 : Heap) (n0 : Nat) (v : Option Value) (h : Heap) (L : List Loc) : Prop := v = some (.ref a1) ∧ Fr n0 L ∧ h = h0
set_option maxRecDepth 65536 in
set_option maxHeartbeats 40000000 in
theorem rm1_28 (l : Launch) (Z : State) (a0 : Array Value) (hw : ∀ d ∈ tables_1, d.before a0 Z = true) (ws : List Jvm.Cond) (a1 : Addr) (h0 : Heap) (n0 : Nat) (Z0 : n0 ≤ h0.size) (S_ResultCode_AUTHENTICATION_ERROR_CLOSING : Sta Z h0 "com/example/delehat/delehat/protocols/epp/ResultCode" "AUTHENTICATION_ERROR_CLOSING" "Lcom/example/delehat/delehat/protocols/epp/ResultCode;" (.ref a1)) :
    MetFree l (⟨"com/example/delehat/delehat/protocols/epp/PayloadOfPinLaw", "pick", "(I)Lcom/example/delehat/delehat/protocols/epp/ResultCode;"⟩ : MethodName) (head1 (Jvm.Cond.code (⟨"com/example/delehat/delehat/protocols/epp/PayloadOfPinLaw", "pick", "(I)Lcom/example/delehat/delehat/protocols/epp/ResultCode;"⟩ : MethodName) method_2_code 1 (some (.object "com/example/delehat/delehat/protocols/epp/ResultCode")) :: ws) ({ frames := 0, cells := 0, slots := 0, locals := 0 } : Room)) (fun a U => a = #[(.int (27 : Int32))] ∧ Z.Warmed39 U.vm ∧ U.heap = h0) (fun _ _ _ _ _ => True) (fun _ U o U' => ∃ v L, o = .returned v ∧ Q1_28 Z a1 h0 n0 v U'.heap L ∧ FrameEnd U o U' L ({ frames := 0, cells := 0, slots := 0, locals := 0 } : Room).cells ({ frames := 0, cells := 0, slots := 0, locals := 0 } : Room).slots) := by
  refine MetFree.of_bodySF (plainFor_of_name pn_com_example_delehat_delehat_protocols_epp_PayloadOfPinLaw) hisR ?_
  intro p e s m args below meth c s₁ Bd hml0 hP hK
  obtain ⟨rfl, hZ, hh⟩ := hP
  have hx := Bd.exec
  have hby := Bd.bytes
  have hml : c.maxLocals = 1 := hml0
  have hown : s.vm.findClass "com/example/delehat/delehat/protocols/epp/PayloadOfPinLaw" = some m.cls := findClass_of_methodNamed Bd.named
  have hnm := (name_of_methodNamed Bd.named Bd.method).1
  have X0 : Stand p l e ({ frames := 0, cells := 0, slots := 0, locals := 0 } : Room) s m #[(.int (27 : Int32))] below meth c s₁ [] 0 0 := Stand.of_body Bd
  have e0 : s₁.heap = h0 := by rw [← hh, Bd.state]; rfl
  have N0 := Fr.nil n0
  have pre0 : ∀ t, Steps p.tables e below (s₁.setTop (mkF m 0 #[.val (.int (27 : Int32))] [])) t → Steps p.tables e below (s₁.setTop (entryFrame m #[(.int (27 : Int32))] 1)) t := fun t k => castTop (ef1_28 m) k
  obtain ⟨T1, X1, e1, st1⟩ := getS2 X0 hx hZ hown (host := "") (Or.inl (own_w57 hw)) Via.refl e0 S_ResultCode_AUTHENTICATION_ERROR_CLOSING (g := (mkF m 263 #[.val (.int (27 : Int32))] [])) rfl (hb hby d1_263)
  obtain ⟨fs, hr, hrun, hended, hW, hsame⟩ := X1.leave (v := some (.ref a1)) (fun h => by rw [Bd.returns] at h; cases h)
  refine ⟨_, _, pre0 _ ?_, hrun, hended, _, _, rfl, ?_, ⟨_, rfl⟩, hW, hsame.mono (by decide) (by decide)⟩
  · show Steps p.tables e below (s₁.setTop (mkF m 0 #[.val (.int (27 : Int32))] [])) _
    refine XS.iloadN X0.here hx rfl (hb hby d1_0) rfl ?_
    show Steps p.tables e below (s₁.setTop (mkF m 1 #[.val (.int (27 : Int32))] [(.int (27 : Int32))])) _
    refine XS.ifYes X0.here hx rfl (pc0 := 1) (pc' := 8) rfl (hb hby d1_1) rfl ((if0 _ _).trans (feq (by decide : ¬ ((27 : Int32) = (0 : Int32)))).2) (by decide) (by decide) ?_
    show Steps p.tables e below (s₁.setTop (mkF m 8 #[.val (.int (27 : Int32))] [])) _
    refine XS.iloadN X0.here hx rfl (hb hby d1_8) rfl ?_
    show Steps p.tables e below (s₁.setTop (mkF m 9 #[.val (.int (27 : Int32))] [(.int (27 : Int32))])) _
    refine XS.iconst X0.here hx rfl (hb hby d1_9) ?_
    show Steps p.tables e below (s₁.setTop (mkF m 10 #[.val (.int (27 : Int32))] [(.int (1 : Int32)), (.int (27 : Int32))])) _
    refine XS.icmpYes X0.here hx rfl (pc0 := 10) (pc' := 17) rfl (hb hby d1_10) rfl (feq (by decide : ¬ ((27 : Int32) = (1 : Int32)))).2 (by decide) (by decide) ?_
    show Steps p.tables e below (s₁.setTop (mkF m 17 #[.val (.int (27 : Int32))] [])) _
    refine XS.iloadN X0.here hx rfl (hb hby d1_17) rfl ?_
    show Steps p.tables e below (s₁.setTop (mkF m 18 #[.val (.int (27 : Int32))] [(.int (27 : Int32))])) _
    refine XS.iconst X0.here hx rfl (hb hby d1_18) ?_
    show Steps p.tables e below (s₁.setTop (mkF m 19 #[.val (.int (27 : Int32))] [(.int (2 : Int32)), (.int (27 : Int32))])) _
    refine XS.icmpYes X0.here hx rfl (pc0 := 19) (pc' := 26) rfl (hb hby d1_19) rfl (feq (by decide : ¬ ((27 : Int32) = (2 : Int32)))).2 (by decide) (by decide) ?_
    show Steps p.tables e below (s₁.setTop (mkF m 26 #[.val (.int (27 : Int32))] [])) _
    refine XS.iloadN X0.here hx rfl (hb hby d1_26) rfl ?_
    show Steps p.tables e below (s₁.setTop (mkF m 27 #[.val (.int (27 : Int32))] [(.int (27 : Int32))])) _
    refine XS.iconst X0.here hx rfl (hb hby d1_27) ?_
    show Steps p.tables e below (s₁.setTop (mkF m 28 #[.val (.int (27 : Int32))] [(.int (3 : Int32)), (.int (27 : Int32))])) _
    refine XS.icmpYes X0.here hx rfl (pc0 := 28) (pc' := 35) rfl (hb hby d1_28) rfl (feq (by decide : ¬ ((27 : Int32) = (3 : Int32)))).2 (by decide) (by decide) ?_
    show Steps p.tables e below (s₁.setTop (mkF m 35 #[.val (.int (27 : Int32))] [])) _
    refine XS.iloadN X0.here hx rfl (hb hby d1_35) rfl ?_
    show Steps p.tables e below (s₁.setTop (mkF m 36 #[.val (.int (27 : Int32))] [(.int (27 : Int32))])) _
    refine XS.iconst X0.here hx rfl (hb hby d1_36) ?_
    show Steps p.tables e below (s₁.setTop (mkF m 37 #[.val (.int (27 : Int32))] [(.int (4 : Int32)), (.int (27 : Int32))])) _
    refine XS.icmpYes X0.here hx rfl (pc0 := 37) (pc' := 44) rfl (hb hby d1_37) rfl (feq (by decide : ¬ ((27 : Int32) = (4 : Int32)))).2 (by decide) (by decide) ?_
    show Steps p.tables e below (s₁.setTop (mkF m 44 #[.val (.int (27 : Int32))] [])) _
    refine XS.iloadN X0.here hx rfl (hb hby d1_44) rfl ?_
    show Steps p.tables e below (s₁.setTop (mkF m 45 #[.val (.int (27 : Int32))] [(.int (27 : Int32))])) _
    refine XS.iconst X0.here hx rfl (hb hby d1_45) ?_
    show Steps p.tables e below (s₁.setTop (mkF m 46 #[.val (.int (27 : Int32))] [(.int (5 : Int32)), (.int (27 : Int32))])) _
    refine XS.icmpYes X0.here hx rfl (pc0 := 46) (pc' := 53) rfl (hb hby d1_46) rfl (feq (by decide : ¬ ((27 : Int32) = (5 : Int32)))).2 (by decide) (by decide) ?_
    show Steps p.tables e below (s₁.setTop (mkF m 53 #[.val (.int (27 : Int32))] [])) _
    refine XS.iloadN X0.here hx rfl (hb hby d1_53) rfl ?_
    show Steps p.tables e below (s₁.setTop (mkF m 54 #[.val (.int (27 : Int32))] [(.int (27 : Int32))])) _
    refine XS.bipush X0.here hx rfl (hb hby d1_54) ?_
    show Steps p.tables e below (s₁.setTop (mkF m 56 #[.val (.int (27 : Int32))] [(.int (6 : Int32)), (.int (27 : Int32))])) _
    refine XS.icmpYes X0.here hx rfl (pc0 := 56) (pc' := 63) rfl (hb hby d1_56) rfl (feq (by decide : ¬ ((27 : Int32) = (6 : Int32)))).2 (by decide) (by decide) ?_
    show Steps p.tables e below (s₁.setTop (mkF m 63 #[.val (.int (27 : Int32))] [])) _
    refine XS.iloadN X0.here hx rfl (hb hby d1_63) rfl ?_
    show Steps p.tables e below (s₁.setTop (mkF m 64 #[.val (.int (27 : Int32))] [(.int (27 : Int32))])) _
    refine XS.bipush X0.here hx rfl (hb hby d1_64) ?_
    show Steps p.tables e below (s₁.setTop (mkF m 66 #[.val (.int (27 : Int32))] [(.int (7 : Int32)), (.int (27 : Int32))])) _
    refine XS.icmpYes X0.here hx rfl (pc0 := 66) (pc' := 73) rfl (hb hby d1_66) rfl (feq (by decide : ¬ ((27 : Int32) = (7 : Int32)))).2 (by decide) (by decide) ?_
    show Steps p.tables e below (s₁.setTop (mkF m 73 #[.val (.int (27 : Int32))] [])) _
    refine XS.iloadN X0.here hx rfl (hb hby d1_73) rfl ?_
    show Steps p.tables e below (s₁.setTop (mkF m 74 #[.val (.int (27 : Int32))] [(.int (27 : Int32))])) _
    refine XS.bipush X0.here hx rfl (hb hby d1_74) ?_
    show Steps p.tables e below (s₁.setTop (mkF m 76 #[.val (.int (27 : Int32))] [(.int (8 : Int32)), (.int (27 : Int32))])) _
    refine XS.icmpYes X0.here hx rfl (pc0 := 76) (pc' := 83) rfl (hb hby d1_76) rfl (feq (by decide : ¬ ((27 : Int32) = (8 : Int32)))).2 (by decide) (by decide) ?_
    show Steps p.tables e below (s₁.setTop (mkF m 83 #[.val (.int (27 : Int32))] [])) _
    refine XS.iloadN X0.here hx rfl (hb hby d1_83) rfl ?_
    show Steps p.tables e below (s₁.setTop (mkF m 84 #[.val (.int (27 : Int32))] [(.int (27 : Int32))])) _
    refine XS.bipush X0.here hx rfl (hb hby d1_84) ?_
    show Steps p.tables e below (s₁.setTop (mkF m 86 #[.val (.int (27 : Int32))] [(.int (9 : Int32)), (.int (27 : Int32))])) _
    refine XS.icmpYes X0.here hx rfl (pc0 := 86) (pc' := 93) rfl (hb hby d1_86) rfl (feq (by decide : ¬ ((27 : Int32) = (9 : Int32)))).2 (by decide) (by decide) ?_
    show Steps p.tables e below (s₁.setTop (mkF m 93 #[.val (.int (27 : Int32))] [])) _
    refine XS.iloadN X0.here hx rfl (hb hby d1_93) rfl ?_
    show Steps p.tables e below (s₁.setTop (mkF m 94 #[.val (.int (27 : Int32))] [(.int (27 : Int32))])) _
    refine XS.bipush X0.here hx rfl (hb hby d1_94) ?_
    show Steps p.tables e below (s₁.setTop (mkF m 96 #[.val (.int (27 : Int32))] [(.int (10 : Int32)), (.int (27 : Int32))])) _
    refine XS.icmpYes X0.here hx rfl (pc0 := 96) (pc' := 103) rfl (hb hby d1_96) rfl (feq (by decide : ¬ ((27 : Int32) = (10 : Int32)))).2 (by decide) (by decide) ?_
    show Steps p.tables e below (s₁.setTop (mkF m 103 #[.val (.int (27 : Int32))] [])) _
    refine XS.iloadN X0.here hx rfl (hb hby d1_103) rfl ?_
    show Steps p.tables e below (s₁.setTop (mkF m 104 #[.val (.int (27 : Int32))] [(.int (27 : Int32))])) _
    refine XS.bipush X0.here hx rfl (hb hby d1_104) ?_
    show Steps p.tables e below (s₁.setTop (mkF m 106 #[.val (.int (27 : Int32))] [(.int (11 : Int32)), (.int (27 : Int32))])) _
    refine XS.icmpYes X0.here hx rfl (pc0 := 106) (pc' := 113) rfl (hb hby d1_106) rfl (feq (by decide : ¬ ((27 : Int32) = (11 : Int32)))).2 (by decide) (by decide) ?_
    show Steps p.tables e below (s₁.setTop (mkF m 113 #[.val (.int (27 : Int32))] [])) _
    refine XS.iloadN X0.here hx rfl (hb hby d1_113) rfl ?_
    show Steps p.tables e below (s₁.setTop (mkF m 114 #[.val (.int (27 : Int32))] [(.int (27 : Int32))])) _
    refine XS.bipush X0.here hx rfl (hb hby d1_114) ?_
    show Steps p.tables e below (s₁.setTop (mkF m 116 #[.val (.int (27 : Int32))] [(.int (12 : Int32)), (.int (27 : Int32))])) _
    refine XS.icmpYes X0.here hx rfl (pc0 := 116) (pc' := 123) rfl (hb hby d1_116) rfl (feq (by decide : ¬ ((27 : Int32) = (12 : Int32)))).2 (by decide) (by decide) ?_
    show Steps p.tables e below (s₁.setTop (mkF m 123 #[.val (.int (27 : Int32))] [])) _
    refine XS.iloadN X0.here hx rfl (hb hby d1_123) rfl ?_
    show Steps p.tables e below (s₁.setTop (mkF m 124 #[.val (.int (27 : Int32))] [(.int (27 : Int32))])) _
    refine XS.bipush X0.here hx rfl (hb hby d1_124) ?_
    show Steps p.tables e below (s₁.setTop (mkF m 126 #[.val (.int (27 : Int32))] [(.int (13 : Int32)), (.int (27 : Int32))])) _
    refine XS.icmpYes X0.here hx rfl (pc0 := 126) (pc' := 133) rfl (hb hby d1_126) rfl (feq (by decide : ¬ ((27 : Int32) = (13 : Int32)))).2 (by decide) (by decide) ?_
    show Steps p.tables e below (s₁.setTop (mkF m 133 #[.val (.int (27 : Int32))] [])) _
    refine XS.iloadN X0.here hx rfl (hb hby d1_133) rfl ?_
    show Steps p.tables e below (s₁.setTop (mkF m 134 #[.val (.int (27 : Int32))] [(.int (27 : Int32))])) _
    refine XS.bipush X0.here hx rfl (hb hby d1_134) ?_
    show Steps p.tables e below (s₁.setTop (mkF m 136 #[.val (.int (27 : Int32))] [(.int (14 : Int32)), (.int (27 : Int32))])) _
    refine XS.icmpYes X0.here hx rfl (pc0 := 136) (pc' := 143) rfl (hb hby d1_136) rfl (feq (by decide : ¬ ((27 : Int32) = (14 : Int32)))).2 (by decide) (by decide) ?_
    show Steps p.tables e below (s₁.setTop (mkF m 143 #[.val (.int (27 : Int32))] [])) _
    refine XS.iloadN X0.here hx rfl (hb hby d1_143) rfl ?_
    show Steps p.tables e below (s₁.setTop (mkF m 144 #[.val (.int (27 : Int32))] [(.int (27 : Int32))])) _
    refine XS.bipush X0.here hx rfl (hb hby d1_144) ?_
    show Steps p.tables e below (s₁.setTop (mkF m 146 #[.val (.int (27 : Int32))] [(.int (15 : Int32)), (.int (27 : Int32))])) _
    refine XS.icmpYes X0.here hx rfl (pc0 := 146) (pc' := 153) rfl (hb hby d1_146) rfl (feq (by decide : ¬ ((27 : Int32) = (15 : Int32)))).2 (by decide) (by decide) ?_
    show Steps p.tables e below (s₁.setTop (mkF m 153 #[.val (.int (27 : Int32))] [])) _
    refine XS.iloadN X0.here hx rfl (hb hby d1_153) rfl ?_
    show Steps p.tables e below (s₁.setTop (mkF m 154 #[.val (.int (27 : Int32))] [(.int (27 : Int32))])) _
    refine XS.bipush X0.here hx rfl (hb hby d1_154) ?_
    show Steps p.tables e below (s₁.setTop (mkF m 156 #[.val (.int (27 : Int32))] [(.int (16 : Int32)), (.int (27 : Int32))])) _
    refine XS.icmpYes X0.here hx rfl (pc0 := 156) (pc' := 163) rfl (hb hby d1_156) rfl (feq (by decide : ¬ ((27 : Int32) = (16 : Int32)))).2 (by decide) (by decide) ?_
    show Steps p.tables e below (s₁.setTop (mkF m 163 #[.val (.int (27 : Int32))] [])) _
    refine XS.iloadN X0.here hx rfl (hb hby d1_163) rfl ?_
    show Steps p.tables e below (s₁.setTop (mkF m 164 #[.val (.int (27 : Int32))] [(.int (27 : Int32))])) _
    refine XS.bipush X0.here hx rfl (hb hby d1_164) ?_
    show Steps p.tables e below (s₁.setTop (mkF m 166 #[.val (.int (27 : Int32))] [(.int (17 : Int32)), (.int (27 : Int32))])) _
    refine XS.icmpYes X0.here hx rfl (pc0 := 166) (pc' := 173) rfl (hb hby d1_166) rfl (feq (by decide : ¬ ((27 : Int32) = (17 : Int32)))).2 (by decide) (by decide) ?_
    show Steps p.tables e below (s₁.setTop (mkF m 173 #[.val (.int (27 : Int32))] [])) _
    refine XS.iloadN X0.here hx rfl (hb hby d1_173) rfl ?_
    show Steps p.tables e below (s₁.setTop (mkF m 174 #[.val (.int (27 : Int32))] [(.int (27 : Int32))])) _
    refine XS.bipush X0.here hx rfl (hb hby d1_174) ?_
    show Steps p.tables e below (s₁.setTop (mkF m 176 #[.val (.int (27 : Int32))] [(.int (18 : Int32)), (.int (27 : Int32))])) _
    refine XS.icmpYes X0.here hx rfl (pc0 := 176) (pc' := 183) rfl (hb hby d1_176) rfl (feq (by decide : ¬ ((27 : Int32) = (18 : Int32)))).2 (by decide) (by decide) ?_
    show Steps p.tables e below (s₁.setTop (mkF m 183 #[.val (.int (27 : Int32))] [])) _
    refine XS.iloadN X0.here hx rfl (hb hby d1_183) rfl ?_
    show Steps p.tables e below (s₁.setTop (mkF m 184 #[.val (.int (27 : Int32))] [(.int (27 : Int32))])) _
    refine XS.bipush X0.here hx rfl (hb hby d1_184) ?_
    show Steps p.tables e below (s₁.setTop (mkF m 186 #[.val (.int (27 : Int32))] [(.int (19 : Int32)), (.int (27 : Int32))])) _
    refine XS.icmpYes X0.here hx rfl (pc0 := 186) (pc' := 193) rfl (hb hby d1_186) rfl (feq (by decide : ¬ ((27 : Int32) = (19 : Int32)))).2 (by decide) (by decide) ?_
    show Steps p.tables e below (s₁.setTop (mkF m 193 #[.val (.int (27 : Int32))] [])) _
    refine XS.iloadN X0.here hx rfl (hb hby d1_193) rfl ?_
    show Steps p.tables e below (s₁.setTop (mkF m 194 #[.val (.int (27 : Int32))] [(.int (27 : Int32))])) _
    refine XS.bipush X0.here hx rfl (hb hby d1_194) ?_
    show Steps p.tables e below (s₁.setTop (mkF m 196 #[.val (.int (27 : Int32))] [(.int (20 : Int32)), (.int (27 : Int32))])) _
    refine XS.icmpYes X0.here hx rfl (pc0 := 196) (pc' := 203) rfl (hb hby d1_196) rfl (feq (by decide : ¬ ((27 : Int32) = (20 : Int32)))).2 (by decide) (by decide) ?_
    show Steps p.tables e below (s₁.setTop (mkF m 203 #[.val (.int (27 : Int32))] [])) _
    refine XS.iloadN X0.here hx rfl (hb hby d1_203) rfl ?_
    show Steps p.tables e below (s₁.setTop (mkF m 204 #[.val (.int (27 : Int32))] [(.int (27 : Int32))])) _
    refine XS.bipush X0.here hx rfl (hb hby d1_204) ?_
    show Steps p.tables e below (s₁.setTop (mkF m 206 #[.val (.int (27 : Int32))] [(.int (21 : Int32)), (.int (27 : Int32))])) _
    refine XS.icmpYes X0.here hx rfl (pc0 := 206) (pc' := 213) rfl (hb hby d1_206) rfl (feq (by decide : ¬ ((27 : Int32) = (21 : Int32)))).2 (by decide) (by decide) ?_
    show Steps p.tables e below (s₁.setTop (mkF m 213 #[.val (.int (27 : Int32))] [])) _
    refine XS.iloadN X0.here hx rfl (hb hby d1_213) rfl ?_
    show Steps p.tables e below (s₁.setTop (mkF m 214 #[.val (.int (27 : Int32))] [(.int (27 : Int32))])) _
    refine XS.bipush X0.here hx rfl (hb hby d1_214) ?_
    show Steps p.tables e below (s₁.setTop (mkF m 216 #[.val (.int (27 : Int32))] [(.int (22 : Int32)), (.int (27 : Int32))])) _
    refine XS.icmpYes X0.here hx rfl (pc0 := 216) (pc' := 223) rfl (hb hby d1_216) rfl (feq (by decide : ¬ ((27 : Int32) = (22 : Int32)))).2 (by decide) (by decide) ?_
    show Steps p.tables e below (s₁.setTop (mkF m 223 #[.val (.int (27 : Int32))] [])) _
    refine XS.iloadN X0.here hx rfl (hb hby d1_223) rfl ?_
    show Steps p.tables e below (s₁.setTop (mkF m 224 #[.val (.int (27 : Int32))] [(.int (27 : Int32))])) _
    refine XS.bipush X0.here hx rfl (hb hby d1_224) ?_
    show Steps p.tables e below (s₁.setTop (mkF m 226 #[.val (.int (27 : Int32))] [(.int (23 : Int32)), (.int (27 : Int32))])) _
    refine XS.icmpYes X0.here hx rfl (pc0 := 226) (pc' := 233) rfl (hb hby d1_226) rfl (feq (by decide : ¬ ((27 : Int32) = (23 : Int32)))).2 (by decide) (by decide) ?_
    show Steps p.tables e below (s₁.setTop (mkF m 233 #[.val (.int (27 : Int32))] [])) _
    refine XS.iloadN X0.here hx rfl (hb hby d1_233) rfl ?_
    show Steps p.tables e below (s₁.setTop (mkF m 234 #[.val (.int (27 : Int32))] [(.int (27 : Int32))])) _
    refine XS.bipush X0.here hx rfl (hb hby d1_234) ?_
    show Steps p.tables e below (s₁.setTop (mkF m 236 #[.val (.int (27 : Int32))] [(.int (24 : Int32)), (.int (27 : Int32))])) _
    refine XS.icmpYes X0.here hx rfl (pc0 := 236) (pc' := 243) rfl (hb hby d1_236) rfl (feq (by decide : ¬ ((27 : Int32) = (24 : Int32)))).2 (by decide) (by decide) ?_
    show Steps p.tables e below (s₁.setTop (mkF m 243 #[.val (.int (27 : Int32))] [])) _
    refine XS.iloadN X0.here hx rfl (hb hby d1_243) rfl ?_
    show Steps p.tables e below (s₁.setTop (mkF m 244 #[.val (.int (27 : Int32))] [(.int (27 : Int32))])) _
    refine XS.bipush X0.here hx rfl (hb hby d1_244) ?_
    show Steps p.tables e below (s₁.setTop (mkF m 246 #[.val (.int (27 : Int32))] [(.int (25 : Int32)), (.int (27 : Int32))])) _
    refine XS.icmpYes X0.here hx rfl (pc0 := 246) (pc' := 253) rfl (hb hby d1_246) rfl (feq (by decide : ¬ ((27 : Int32) = (25 : Int32)))).2 (by decide) (by decide) ?_
    show Steps p.tables e below (s₁.setTop (mkF m 253 #[.val (.int (27 : Int32))] [])) _
    refine XS.iloadN X0.here hx rfl (hb hby d1_253) rfl ?_
    show Steps p.tables e below (s₁.setTop (mkF m 254 #[.val (.int (27 : Int32))] [(.int (27 : Int32))])) _
    refine XS.bipush X0.here hx rfl (hb hby d1_254) ?_
    show Steps p.tables e below (s₁.setTop (mkF m 256 #[.val (.int (27 : Int32))] [(.int (26 : Int32)), (.int (27 : Int32))])) _
    refine XS.icmpYes X0.here hx rfl (pc0 := 256) (pc' := 263) rfl (hb hby d1_256) rfl (feq (by decide : ¬ ((27 : Int32) = (26 : Int32)))).2 (by decide) (by decide) ?_
    show Steps p.tables e below (s₁.setTop (mkF m 263 #[.val (.int (27 : Int32))] [])) _
    refine st1 _ ?_
    show Steps p.tables e below (T1.setTop (mkF m 266 #[.val (.int (27 : Int32))] [(.ref a1)])) _
    exact retOut X1 hx Bd.returns rfl (Or.inr (Or.inr (Or.inr (Or.inr ⟨rfl, rfl, rfl⟩)))) (hb hby d1_266) hr
  · show Q1_28 Z a1 h0 n0 _ T1.heap _
    rw [e1]
    exact ⟨rfl, N0, rfl⟩
def QrmJ1 (h0 : Heap) (n0 : Nat) (v : Option Value) (h : Heap) (L : List Loc) : Prop := ∃ r : Addr, v = some (.ref r) ∧ Fr n0 L ∧ h = h0
set_option maxRecDepth 65536 in
set_option maxHeartbeats 40000000 in
theorem rmJ1 (l : Launch) (Z : State) (a0 : Array Value) (hw : ∀ d ∈ tables_1, d.before a0 Z = true) (ws : List Jvm.Cond) (pj : Int32) (j0 : Addr) (j1 : Addr) (j2 : Addr) (j3 : Addr) (j4 : Addr) (j5 : Addr) (j6 : Addr) (j7 : Addr) (j8 : Addr) (j9 : Addr) (j10 : Addr) (j11 : Addr) (j12 : Addr) (j13 : Addr) (j14 : Addr) (j15 : Addr) (j16 : Addr) (j17 : Addr) (j18 : Addr) (j19 : Addr) (j20 : Addr) (j21 : Addr) (j22 : Addr) (j23 : Addr) (j24 : Addr) (j25 : Addr) (j26 : Addr) (j27 : Addr) (h0 : Heap) (n0 : Nat) (Z0 : n0 ≤ h0.size) (hk : pj = (0 : Int32) ∨ pj = (1 : Int32) ∨ pj = (2 : Int32) ∨ pj = (3 : Int32) ∨ pj = (4 : Int32) ∨ pj = (5 : Int32) ∨ pj = (6 : Int32) ∨ pj = (7 : Int32) ∨ pj = (8 : Int32) ∨ pj = (9 : Int32) ∨ pj = (10 : Int32) ∨ pj = (11 : Int32) ∨ pj = (12 : Int32) ∨ pj = (13 : Int32) ∨ pj = (14 : Int32) ∨ pj = (15 : Int32) ∨ pj = (16 : Int32) ∨ pj = (17 : Int32) ∨ pj = (18 : Int32) ∨ pj = (19 : Int32) ∨ pj = (20 : Int32) ∨ pj = (21 : Int32) ∨ pj = (22 : Int32) ∨ pj = (23 : Int32) ∨ pj = (24 : Int32) ∨ pj = (25 : Int32) ∨ pj = (26 : Int32) ∨ pj = (27 : Int32)) (u0 : Sta Z h0 "com/example/delehat/delehat/protocols/epp/ResultCode" "SUCCESS" "Lcom/example/delehat/delehat/protocols/epp/ResultCode;" (.ref j0)) (u1 : Sta Z h0 "com/example/delehat/delehat/protocols/epp/ResultCode" "SUCCESS_PENDING" "Lcom/example/delehat/delehat/protocols/epp/ResultCode;" (.ref j1)) (u2 : Sta Z h0 "com/example/delehat/delehat/protocols/epp/ResultCode" "SUCCESS_NO_MESSAGES" "Lcom/example/delehat/delehat/protocols/epp/ResultCode;" (.ref j2)) (u3 : Sta Z h0 "com/example/delehat/delehat/protocols/epp/ResultCode" "SUCCESS_ACK_TO_DEQUEUE" "Lcom/example/delehat/delehat/protocols/epp/ResultCode;" (.ref j3)) (u4 : Sta Z h0 "com/example/delehat/delehat/protocols/epp/ResultCode" "SUCCESS_ENDING_SESSION" "Lcom/example/delehat/delehat/protocols/epp/ResultCode;" (.ref j4)) (u5 : Sta Z h0 "com/example/delehat/delehat/protocols/epp/ResultCode" "COMMAND_SYNTAX_ERROR" "Lcom/example/delehat/delehat/protocols/epp/ResultCode;" (.ref j5)) (u6 : Sta Z h0 "com/example/delehat/delehat/protocols/epp/ResultCode" "COMMAND_USE_ERROR" "Lcom/example/delehat/delehat/protocols/epp/ResultCode;" (.ref j6)) (u7 : Sta Z h0 "com/example/delehat/delehat/protocols/epp/ResultCode" "REQUIRED_PARAMETER_MISSING" "Lcom/example/delehat/delehat/protocols/epp/ResultCode;" (.ref j7)) (u8 : Sta Z h0 "com/example/delehat/delehat/protocols/epp/ResultCode" "PARAMETER_VALUE_RANGE_ERROR" "Lcom/example/delehat/delehat/protocols/epp/ResultCode;" (.ref j8)) (u9 : Sta Z h0 "com/example/delehat/delehat/protocols/epp/ResultCode" "PARAMETER_VALUE_SYNTAX_ERROR" "Lcom/example/delehat/delehat/protocols/epp/ResultCode;" (.ref j9)) (u10 : Sta Z h0 "com/example/delehat/delehat/protocols/epp/ResultCode" "UNIMPLEMENTED_PROTOCOL_VERSION" "Lcom/example/delehat/delehat/protocols/epp/ResultCode;" (.ref j10)) (u11 : Sta Z h0 "com/example/delehat/delehat/protocols/epp/ResultCode" "UNIMPLEMENTED_COMMAND" "Lcom/example/delehat/delehat/protocols/epp/ResultCode;" (.ref j11)) (u12 : Sta Z h0 "com/example/delehat/delehat/protocols/epp/ResultCode" "UNIMPLEMENTED_OPTION" "Lcom/example/delehat/delehat/protocols/epp/ResultCode;" (.ref j12)) (u13 : Sta Z h0 "com/example/delehat/delehat/protocols/epp/ResultCode" "UNIMPLEMENTED_EXTENSION" "Lcom/example/delehat/delehat/protocols/epp/ResultCode;" (.ref j13)) (u14 : Sta Z h0 "com/example/delehat/delehat/protocols/epp/ResultCode" "OBJECT_NOT_ELIGIBLE_FOR_TRANSFER" "Lcom/example/delehat/delehat/protocols/epp/ResultCode;" (.ref j14)) (u15 : Sta Z h0 "com/example/delehat/delehat/protocols/epp/ResultCode" "AUTHENTICATION_ERROR" "Lcom/example/delehat/delehat/protocols/epp/ResultCode;" (.ref j15)) (u16 : Sta Z h0 "com/example/delehat/delehat/protocols/epp/ResultCode" "AUTHORIZATION_ERROR" "Lcom/example/delehat/delehat/protocols/epp/ResultCode;" (.ref j16)) (u17 : Sta Z h0 "com/example/delehat/delehat/protocols/epp/ResultCode" "INVALID_AUTHORIZATION_INFORMATION" "Lcom/example/delehat/delehat/protocols/epp/ResultCode;" (.ref j17)) (u18 : Sta Z h0 "com/example/delehat/delehat/protocols/epp/ResultCode" "OBJECT_PENDING_TRANSFER" "Lcom/example/delehat/delehat/protocols/epp/ResultCode;" (.ref j18)) (u19 : Sta Z h0 "com/example/delehat/delehat/protocols/epp/ResultCode" "OBJECT_NOT_PENDING_TRANSFER" "Lcom/example/delehat/delehat/protocols/epp/ResultCode;" (.ref j19)) (u20 : Sta Z h0 "com/example/delehat/delehat/protocols/epp/ResultCode" "OBJECT_EXISTS" "Lcom/example/delehat/delehat/protocols/epp/ResultCode;" (.ref j20)) (u21 : Sta Z h0 "com/example/delehat/delehat/protocols/epp/ResultCode" "OBJECT_DOES_NOT_EXIST" "Lcom/example/delehat/delehat/protocols/epp/ResultCode;" (.ref j21)) (u22 : Sta Z h0 "com/example/delehat/delehat/protocols/epp/ResultCode" "OBJECT_STATUS_PROHIBITS_OPERATION" "Lcom/example/delehat/delehat/protocols/epp/ResultCode;" (.ref j22)) (u23 : Sta Z h0 "com/example/delehat/delehat/protocols/epp/ResultCode" "OBJECT_ASSOCIATION_PROHIBITS_OPERATION" "Lcom/example/delehat/delehat/protocols/epp/ResultCode;" (.ref j23)) (u24 : Sta Z h0 "com/example/delehat/delehat/protocols/epp/ResultCode" "PARAMETER_VALUE_POLICY_ERROR" "Lcom/example/delehat/delehat/protocols/epp/ResultCode;" (.ref j24)) (u25 : Sta Z h0 "com/example/delehat/delehat/protocols/epp/ResultCode" "UNIMPLEMENTED_OBJECT_SERVICE" "Lcom/example/delehat/delehat/protocols/epp/ResultCode;" (.ref j25)) (u26 : Sta Z h0 "com/example/delehat/delehat/protocols/epp/ResultCode" "COMMAND_FAILED" "Lcom/example/delehat/delehat/protocols/epp/ResultCode;" (.ref j26)) (u27 : Sta Z h0 "com/example/delehat/delehat/protocols/epp/ResultCode" "AUTHENTICATION_ERROR_CLOSING" "Lcom/example/delehat/delehat/protocols/epp/ResultCode;" (.ref j27)) :
    MetFree l (⟨"com/example/delehat/delehat/protocols/epp/PayloadOfPinLaw", "pick", "(I)Lcom/example/delehat/delehat/protocols/epp/ResultCode;"⟩ : MethodName) (head1 (Jvm.Cond.code (⟨"com/example/delehat/delehat/protocols/epp/PayloadOfPinLaw", "pick", "(I)Lcom/example/delehat/delehat/protocols/epp/ResultCode;"⟩ : MethodName) method_2_code 1 (some (.object "com/example/delehat/delehat/protocols/epp/ResultCode")) :: ws) ({ frames := 0, cells := 0, slots := 0, locals := 0 } : Room)) (fun a U => a = #[(.int pj)] ∧ Z.Warmed39 U.vm ∧ U.heap = h0) (fun _ _ _ _ _ => True) (fun _ U o U' => ∃ v L, o = .returned v ∧ QrmJ1 h0 n0 v U'.heap L ∧ FrameEnd U o U' L ({ frames := 0, cells := 0, slots := 0, locals := 0 } : Room).cells ({ frames := 0, cells := 0, slots := 0, locals := 0 } : Room).slots) := by
  rcases hk with rfl | rfl | rfl | rfl | rfl | rfl | rfl | rfl | rfl | rfl | rfl | rfl | rfl | rfl | rfl | rfl | rfl | rfl | rfl | rfl | rfl | rfl | rfl | rfl | rfl | rfl | rfl | rfl
  · exact (rm1_1 l Z a0 hw ws j0 h0 n0 Z0 u0).mono (fun _ _ h => h) (fun _ _ _ _ _ h => h) (fun _ _ _ _ _ ⟨v, L, ho, hQ, hF⟩ => ⟨v, L, ho, ⟨_, hQ⟩, hF⟩)
  · exact (rm1_2 l Z a0 hw ws j1 h0 n0 Z0 u1).mono (fun _ _ h => h) (fun _ _ _ _ _ h => h) (fun _ _ _ _ _ ⟨v, L, ho, hQ, hF⟩ => ⟨v, L, ho, ⟨_, hQ⟩, hF⟩)
  · exact (rm1_3 l Z a0 hw ws j2 h0 n0 Z0 u2).mono (fun _ _ h => h) (fun _ _ _ _ _ h => h) (fun _ _ _ _ _ ⟨v, L, ho, hQ, hF⟩ => ⟨v, L, ho, ⟨_, hQ⟩, hF⟩)
  · exact (rm1_4 l Z a0 hw ws j3 h0 n0 Z0 u3).mono (fun _ _ h => h) (fun _ _ _ _ _ h => h) (fun _ _ _ _ _ ⟨v, L, ho, hQ, hF⟩ => ⟨v, L, ho, ⟨_, hQ⟩, hF⟩)
  · exact (rm1_5 l Z a0 hw ws j4 h0 n0 Z0 u4).mono (fun _ _ h => h) (fun _ _ _ _ _ h => h) (fun _ _ _ _ _ ⟨v, L, ho, hQ, hF⟩ => ⟨v, L, ho, ⟨_, hQ⟩, hF⟩)
  · exact (rm1_6 l Z a0 hw ws j5 h0 n0 Z0 u5).mono (fun _ _ h => h) (fun _ _ _ _ _ h => h) (fun _ _ _ _ _ ⟨v, L, ho, hQ, hF⟩ => ⟨v, L, ho, ⟨_, hQ⟩, hF⟩)
  · exact (rm1_7 l Z a0 hw ws j6 h0 n0 Z0 u6).mono (fun _ _ h => h) (fun _ _ _ _ _ h => h) (fun _ _ _ _ _ ⟨v, L, ho, hQ, hF⟩ => ⟨v, L, ho, ⟨_, hQ⟩, hF⟩)
  · exact (rm1_8 l Z a0 hw ws j7 h0 n0 Z0 u7).mono (fun _ _ h => h) (fun _ _ _ _ _ h => h) (fun _ _ _ _ _ ⟨v, L, ho, hQ, hF⟩ => ⟨v, L, ho, ⟨_, hQ⟩, hF⟩)
  · exact (rm1_9 l Z a0 hw ws j8 h0 n0 Z0 u8).mono (fun _ _ h => h) (fun _ _ _ _ _ h => h) (fun _ _ _ _ _ ⟨v, L, ho, hQ, hF⟩ => ⟨v, L, ho, ⟨_, hQ⟩, hF⟩)
  · exact (rm1_10 l Z a0 hw ws j9 h0 n0 Z0 u9).mono (fun _ _ h => h) (fun _ _ _ _ _ h => h) (fun _ _ _ _ _ ⟨v, L, ho, hQ, hF⟩ => ⟨v, L, ho, ⟨_, hQ⟩, hF⟩)
  · exact (rm1_11 l Z a0 hw ws j10 h0 n0 Z0 u10).mono (fun _ _ h => h) (fun _ _ _ _ _ h => h) (fun _ _ _ _ _ ⟨v, L, ho, hQ, hF⟩ => ⟨v, L, ho, ⟨_, hQ⟩, hF⟩)
  · exact (rm1_12 l Z a0 hw ws j11 h0 n0 Z0 u11).mono (fun _ _ h => h) (fun _ _ _ _ _ h => h) (fun _ _ _ _ _ ⟨v, L, ho, hQ, hF⟩ => ⟨v, L, ho, ⟨_, hQ⟩, hF⟩)
  · exact (rm1_13 l Z a0 hw ws j12 h0 n0 Z0 u12).mono (fun _ _ h => h) (fun _ _ _ _ _ h => h) (fun _ _ _ _ _ ⟨v, L, ho, hQ, hF⟩ => ⟨v, L, ho, ⟨_, hQ⟩, hF⟩)
  · exact (rm1_14 l Z a0 hw ws j13 h0 n0 Z0 u13).mono (fun _ _ h => h) (fun _ _ _ _ _ h => h) (fun _ _ _ _ _ ⟨v, L, ho, hQ, hF⟩ => ⟨v, L, ho, ⟨_, hQ⟩, hF⟩)
  · exact (rm1_15 l Z a0 hw ws j14 h0 n0 Z0 u14).mono (fun _ _ h => h) (fun _ _ _ _ _ h => h) (fun _ _ _ _ _ ⟨v, L, ho, hQ, hF⟩ => ⟨v, L, ho, ⟨_, hQ⟩, hF⟩)
  · exact (rm1_16 l Z a0 hw ws j15 h0 n0 Z0 u15).mono (fun _ _ h => h) (fun _ _ _ _ _ h => h) (fun _ _ _ _ _ ⟨v, L, ho, hQ, hF⟩ => ⟨v, L, ho, ⟨_, hQ⟩, hF⟩)
  · exact (rm1_17 l Z a0 hw ws j16 h0 n0 Z0 u16).mono (fun _ _ h => h) (fun _ _ _ _ _ h => h) (fun _ _ _ _ _ ⟨v, L, ho, hQ, hF⟩ => ⟨v, L, ho, ⟨_, hQ⟩, hF⟩)
  · exact (rm1_18 l Z a0 hw ws j17 h0 n0 Z0 u17).mono (fun _ _ h => h) (fun _ _ _ _ _ h => h) (fun _ _ _ _ _ ⟨v, L, ho, hQ, hF⟩ => ⟨v, L, ho, ⟨_, hQ⟩, hF⟩)
  · exact (rm1_19 l Z a0 hw ws j18 h0 n0 Z0 u18).mono (fun _ _ h => h) (fun _ _ _ _ _ h => h) (fun _ _ _ _ _ ⟨v, L, ho, hQ, hF⟩ => ⟨v, L, ho, ⟨_, hQ⟩, hF⟩)
  · exact (rm1_20 l Z a0 hw ws j19 h0 n0 Z0 u19).mono (fun _ _ h => h) (fun _ _ _ _ _ h => h) (fun _ _ _ _ _ ⟨v, L, ho, hQ, hF⟩ => ⟨v, L, ho, ⟨_, hQ⟩, hF⟩)
  · exact (rm1_21 l Z a0 hw ws j20 h0 n0 Z0 u20).mono (fun _ _ h => h) (fun _ _ _ _ _ h => h) (fun _ _ _ _ _ ⟨v, L, ho, hQ, hF⟩ => ⟨v, L, ho, ⟨_, hQ⟩, hF⟩)
  · exact (rm1_22 l Z a0 hw ws j21 h0 n0 Z0 u21).mono (fun _ _ h => h) (fun _ _ _ _ _ h => h) (fun _ _ _ _ _ ⟨v, L, ho, hQ, hF⟩ => ⟨v, L, ho, ⟨_, hQ⟩, hF⟩)
  · exact (rm1_23 l Z a0 hw ws j22 h0 n0 Z0 u22).mono (fun _ _ h => h) (fun _ _ _ _ _ h => h) (fun _ _ _ _ _ ⟨v, L, ho, hQ, hF⟩ => ⟨v, L, ho, ⟨_, hQ⟩, hF⟩)
  · exact (rm1_24 l Z a0 hw ws j23 h0 n0 Z0 u23).mono (fun _ _ h => h) (fun _ _ _ _ _ h => h) (fun _ _ _ _ _ ⟨v, L, ho, hQ, hF⟩ => ⟨v, L, ho, ⟨_, hQ⟩, hF⟩)
  · exact (rm1_25 l Z a0 hw ws j24 h0 n0 Z0 u24).mono (fun _ _ h => h) (fun _ _ _ _ _ h => h) (fun _ _ _ _ _ ⟨v, L, ho, hQ, hF⟩ => ⟨v, L, ho, ⟨_, hQ⟩, hF⟩)
  · exact (rm1_26 l Z a0 hw ws j25 h0 n0 Z0 u25).mono (fun _ _ h => h) (fun _ _ _ _ _ h => h) (fun _ _ _ _ _ ⟨v, L, ho, hQ, hF⟩ => ⟨v, L, ho, ⟨_, hQ⟩, hF⟩)
  · exact (rm1_27 l Z a0 hw ws j26 h0 n0 Z0 u26).mono (fun _ _ h => h) (fun _ _ _ _ _ h => h) (fun _ _ _ _ _ ⟨v, L, ho, hQ, hF⟩ => ⟨v, L, ho, ⟨_, hQ⟩, hF⟩)
  · exact (rm1_28 l Z a0 hw ws j27 h0 n0 Z0 u27).mono (fun _ _ h => h) (fun _ _ _ _ _ h => h) (fun _ _ _ _ _ ⟨v, L, ho, hQ, hF⟩ => ⟨v, L, ho, ⟨_, hQ⟩, hF⟩)
theorem ef4_29 (m : MethodId) (a1 : Addr) : entryFrame m #[(.ref a1)] 1 = mkF m 0 #[.val (.ref a1)] [] := by first | (simp [entryFrame, mkF, argsToLocals, Value.category]; done) | rfl
def Q4_29 (Z : State) (a1 : Addr) (h0 : Heap) (n0 : Nat) (v : Option Value) (h : Heap) (L : List Loc) : Prop := v = none ∧ Fr n0 L ∧ h = h0
set_option maxRecDepth 65536 in
set_option maxHeartbeats 40000000 in
theorem rm4_29 (l : Launch) (Z : State) (a0 : Array Value) (hw : ∀ d ∈ tables_1, d.before a0 Z = true) (ws : List Jvm.Cond) (a1 : Addr) (h0 : Heap) (n0 : Nat) (Z0 : n0 ≤ h0.size) :
    MetFree l (⟨"java/lang/Record", "<init>", "()V"⟩ : MethodName) (head1 (Jvm.Cond.code (⟨"java/lang/Record", "<init>", "()V"⟩ : MethodName) jdk_30_method_1_code 1 none :: ws) ({ frames := 1, cells := 0, slots := 0, locals := 12 } : Room)) (fun a U => a = #[(.ref a1)] ∧ Z.Warmed39 U.vm ∧ U.heap = h0) (fun _ _ _ _ _ => True) (fun _ U o U' => ∃ v L, o = .returned v ∧ Q4_29 Z a1 h0 n0 v U'.heap L ∧ FrameEnd U o U' L ({ frames := 1, cells := 0, slots := 0, locals := 12 } : Room).cells ({ frames := 1, cells := 0, slots := 0, locals := 12 } : Room).slots) := by
  refine MetFree.of_bodySF (plainFor_of_name pn_java_lang_Record) hisR ?_
  intro p e s m args below meth c s₁ Bd hml0 hP hK
  obtain ⟨rfl, hZ, hh⟩ := hP
  have hx := Bd.exec
  have hby := Bd.bytes
  have hml : c.maxLocals = 1 := hml0
  have hown : s.vm.findClass "java/lang/Record" = some m.cls := findClass_of_methodNamed Bd.named
  have hnm := (name_of_methodNamed Bd.named Bd.method).1
  have X0 : Stand p l e ({ frames := 1, cells := 0, slots := 0, locals := 12 } : Room) s m #[(.ref a1)] below meth c s₁ [] 0 0 := Stand.of_body Bd
  have e0 : s₁.heap = h0 := by rw [← hh, Bd.state]; rfl
  have N0 := Fr.nil n0
  have pre0 : ∀ t, Steps p.tables e below (s₁.setTop (mkF m 0 #[.val (.ref a1)] [])) t → Steps p.tables e below (s₁.setTop (entryFrame m #[(.ref a1)] 1)) t := fun t k => castTop (ef4_29 m a1) k
  obtain ⟨T1, X1, e1, st1⟩ := initO X0 hx hZ hown (own_w22 hw) (own_w23 hw) (own_w24 hw) e0 (g := (mkF m 1 #[.val (.ref a1)] [(.ref a1)])) rfl (by rw [hml]; rfl) rfl (hb hby d4_1) (by decide) (W := 0) (by show 2 * 0 + _ ≤ _; exact Nat.le_of_eq rfl) (by decide)
  obtain ⟨fs, hr, hrun, hended, hW, hsame⟩ := X1.leave (v := none) (fun _ => rfl)
  refine ⟨_, _, pre0 _ ?_, hrun, hended, _, _, rfl, ?_, ⟨_, rfl⟩, hW, hsame.mono (by decide) (by decide)⟩
  · show Steps p.tables e below (s₁.setTop (mkF m 0 #[.val (.ref a1)] [])) _
    refine XS.aloadN X0.here hx rfl (hb hby d4_0) rfl rfl ?_
    show Steps p.tables e below (s₁.setTop (mkF m 1 #[.val (.ref a1)] [(.ref a1)])) _
    refine st1 _ ?_
    show Steps p.tables e below (T1.setTop (mkF m 4 #[.val (.ref a1)] [])) _
    exact X1.returnOut hx Bd.returns (hb hby d4_4) hr
  · show Q4_29 Z a1 h0 n0 _ T1.heap _
    rw [e1]
    exact ⟨rfl, N0, rfl⟩
theorem ef3_30 (m : MethodId) (a1 : Addr) (a2 : Addr) : entryFrame m #[(.ref a1), (.ref a2), .null, .null, .null] 5 = mkF m 0 #[.val (.ref a1), .val (.ref a2), .val .null, .val .null, .val .null] [] := by first | (simp [entryFrame, mkF, argsToLocals, Value.category]; done) | rfl
def Q3_30 (Z : State) (a1 : Addr) (a2 : Addr) (h0 : Heap) (n0 : Nat) (v : Option Value) (h : Heap) (L : List Loc) : Prop := v = none ∧ Fr n0 L ∧ Keep h0 h [a1] ∧ Exa Z h a1 "com/example/delehat/delehat/protocols/epp/Responses$Payload" ∧ Fld Z h a1 "com/example/delehat/delehat/protocols/epp/Responses$Payload" "code" "Lcom/example/delehat/delehat/protocols/epp/ResultCode;" (.ref a2) ∧ Fld Z h a1 "com/example/delehat/delehat/protocols/epp/Responses$Payload" "msgQ" "Lcom/example/delehat/delehat/protocols/epp/Responses$ElementWriter;" .null ∧ Fld Z h a1 "com/example/delehat/delehat/protocols/epp/Responses$Payload" "resData" "Lcom/example/delehat/delehat/protocols/epp/Responses$ElementWriter;" .null ∧ Fld Z h a1 "com/example/delehat/delehat/protocols/epp/Responses$Payload" "extension" "Lcom/example/delehat/delehat/protocols/epp/Responses$ElementWriter;" .null
set_option maxRecDepth 65536 in
set_option maxHeartbeats 40000000 in
theorem rm3_30 (l : Launch) (Z : State) (a0 : Array Value) (hw : ∀ d ∈ tables_1, d.before a0 Z = true) (ws : List Jvm.Cond) (a1 : Addr) (a2 : Addr) (h0 : Heap) (n0 : Nat) (Z0 : n0 ≤ h0.size) (E_a1 : Exa Z h0 a1 "com/example/delehat/delehat/protocols/epp/Responses$Payload") (F_a1_code : Fld Z h0 a1 "com/example/delehat/delehat/protocols/epp/Responses$Payload" "code" "Lcom/example/delehat/delehat/protocols/epp/ResultCode;" .null) (g_a1 : n0 ≤ a1) (F_a1_msgQ : Fld Z h0 a1 "com/example/delehat/delehat/protocols/epp/Responses$Payload" "msgQ" "Lcom/example/delehat/delehat/protocols/epp/Responses$ElementWriter;" .null) (F_a1_resData : Fld Z h0 a1 "com/example/delehat/delehat/protocols/epp/Responses$Payload" "resData" "Lcom/example/delehat/delehat/protocols/epp/Responses$ElementWriter;" .null) (F_a1_extension : Fld Z h0 a1 "com/example/delehat/delehat/protocols/epp/Responses$Payload" "extension" "Lcom/example/delehat/delehat/protocols/epp/Responses$ElementWriter;" .null) :
    MetFree l (⟨"com/example/delehat/delehat/protocols/epp/Responses$Payload", "<init>", "(Lcom/example/delehat/delehat/protocols/epp/ResultCode;Lcom/example/delehat/delehat/protocols/epp/Responses$ElementWriter;Lcom/example/delehat/delehat/protocols/epp/Responses$ElementWriter;Lcom/example/delehat/delehat/protocols/epp/Responses$ElementWriter;)V"⟩ : MethodName) (head1 (Jvm.Cond.code (⟨"com/example/delehat/delehat/protocols/epp/Responses$Payload", "<init>", "(Lcom/example/delehat/delehat/protocols/epp/ResultCode;Lcom/example/delehat/delehat/protocols/epp/Responses$ElementWriter;Lcom/example/delehat/delehat/protocols/epp/Responses$ElementWriter;Lcom/example/delehat/delehat/protocols/epp/Responses$ElementWriter;)V"⟩ : MethodName) prog_83_method_1_code 5 none :: ws) ({ frames := 2, cells := 0, slots := 0, locals := 24 } : Room)) (fun a U => a = #[(.ref a1), (.ref a2), .null, .null, .null] ∧ Z.Warmed39 U.vm ∧ U.heap = h0) (fun _ _ _ _ _ => True) (fun _ U o U' => ∃ v L, o = .returned v ∧ Q3_30 Z a1 a2 h0 n0 v U'.heap L ∧ FrameEnd U o U' L ({ frames := 2, cells := 0, slots := 0, locals := 24 } : Room).cells ({ frames := 2, cells := 0, slots := 0, locals := 24 } : Room).slots) := by
  refine MetFree.of_bodySF (plainFor_of_name pn_com_example_delehat_delehat_protocols_epp_Responses_Payload) hisR ?_
  intro p e s m args below meth c s₁ Bd hml0 hP hK
  obtain ⟨rfl, hZ, hh⟩ := hP
  have hx := Bd.exec
  have hby := Bd.bytes
  have hml : c.maxLocals = 5 := hml0
  have hown : s.vm.findClass "com/example/delehat/delehat/protocols/epp/Responses$Payload" = some m.cls := findClass_of_methodNamed Bd.named
  have hnm := (name_of_methodNamed Bd.named Bd.method).1
  have X0 : Stand p l e ({ frames := 2, cells := 0, slots := 0, locals := 24 } : Room) s m #[(.ref a1), (.ref a2), .null, .null, .null] below meth c s₁ [] 0 0 := Stand.of_body Bd
  have e0 : s₁.heap = h0 := by rw [← hh, Bd.state]; rfl
  have N0 := Fr.nil n0
  have pre0 : ∀ t, Steps p.tables e below (s₁.setTop (mkF m 0 #[.val (.ref a1), .val (.ref a2), .val .null, .val .null, .val .null] [])) t → Steps p.tables e below (s₁.setTop (entryFrame m #[(.ref a1), (.ref a2), .null, .null, .null] 5)) t := fun t k => castTop (ef3_30 m a1 a2) k
  obtain ⟨_, _, ⟨T1, L1, k1, n1⟩, -, X1, ⟨Lc1, hQ1, l1, y1, z1⟩, st1⟩ := X0.specialBack hx (y := (⟨"java/lang/Record", "<init>", "()V"⟩ : MethodName)) rfl hown (mvT hZ (own_w17 hw)) (mvT hZ (own_w18 hw)) (mvT hZ (own_w21 hw)) (by decide) (backOf (W := 0) (rm4_29 l Z a0 hw [] a1 h0 n0 Z0 ) hZ (own_w21 hw) (own_w20 hw) (by decide) (by decide)) (g := (mkF m 1 #[.val (.ref a1), .val (.ref a2), .val .null, .val .null, .val .null] [(.ref a1)])) rfl (by rw [hml]; rfl) (Steps.refl _) (a := a1) (argsL := []) (rest := []) (lenOf pd___V rfl) rfl (by show 2 * 0 + _ ≤ _; exact Nat.le_of_eq rfl) (hb hby d3_1) (fun _ _ => ⟨rfl, e0, (by decide : 0 + 0 ≤ _), (by decide : 0 + 0 ≤ _)⟩)
  dsimp only [Pt.U, Pt.locs, Pt.cells, Pt.slots] at X1 l1 y1 z1 st1 hQ1
  subst l1 y1 z1
  obtain ⟨rfl, N1q, e1⟩ := hQ1
  have N1 := Fr.app N0 N1q
  obtain ⟨T2, h2, X2, e2, W2, st2⟩ := putF X1 hx hZ hown (host := "") (Or.inl (own_w25 hw)) Via.refl e1 F_a1_code E_a1 (Or.inr ⟨(own_w26 hw), rfl, hnm⟩) (own_w13 hw) (ty := (.object "com/example/delehat/delehat/protocols/epp/ResultCode")) (by decide) rfl rfl (g := (mkF m 6 #[.val (.ref a1), .val (.ref a2), .val .null, .val .null, .val .null] [(.ref a2), (.ref a1)])) rfl rfl (hb hby d3_6)
  have KC3 : Keep h0 h2 [a1] := (Keep.refl h0 [a1]).wr W2 (Or.inl (List.mem_of_getElem? (i := 0) rfl))
  have Fw2 := F_a1_code.same W2
  have N2 := Fr.snoc X2 N1 g_a1
  have c4 := E_a1.wr W2
  have c5 := F_a1_msgQ.other W2 (Or.inr (slot_ne (C := "com/example/delehat/delehat/protocols/epp/Responses$Payload") (Or.inr (own_w28 hw)) (Or.inr (own_w26 hw)) (by decide) (t := (.object "com/example/delehat/delehat/protocols/epp/Responses$ElementWriter")) (t' := (.object "com/example/delehat/delehat/protocols/epp/ResultCode")) (by decide) (by decide)))
  obtain ⟨T6, h6, X6, e6, W6, st6⟩ := putF X2 hx hZ hown (host := "") (Or.inl (own_w27 hw)) Via.refl e2 c5 c4 (Or.inr ⟨(own_w28 hw), rfl, hnm⟩) (own_w13 hw) (ty := (.object "com/example/delehat/delehat/protocols/epp/Responses$ElementWriter")) (by decide) rfl rfl (g := (mkF m 11 #[.val (.ref a1), .val (.ref a2), .val .null, .val .null, .val .null] [.null, (.ref a1)])) rfl rfl (hb hby d3_11)
  have KC7 : Keep h0 h6 [a1] := KC3.wr W6 (Or.inl (List.mem_of_getElem? (i := 0) rfl))
  have Fw6 := c5.same W6
  have N6 := Fr.snoc X6 N2 g_a1
  have c8 := c4.wr W6
  have c9 := F_a1_resData.other W2 (Or.inr (slot_ne (C := "com/example/delehat/delehat/protocols/epp/Responses$Payload") (Or.inr (own_w30 hw)) (Or.inr (own_w26 hw)) (by decide) (t := (.object "com/example/delehat/delehat/protocols/epp/Responses$ElementWriter")) (t' := (.object "com/example/delehat/delehat/protocols/epp/ResultCode")) (by decide) (by decide)))
  have c10 := c9.other W6 (Or.inr (slot_ne (C := "com/example/delehat/delehat/protocols/epp/Responses$Payload") (Or.inr (own_w30 hw)) (Or.inr (own_w28 hw)) (by decide) (t := (.object "com/example/delehat/delehat/protocols/epp/Responses$ElementWriter")) (t' := (.object "com/example/delehat/delehat/protocols/epp/Responses$ElementWriter")) (by decide) (by decide)))
  obtain ⟨T11, h11, X11, e11, W11, st11⟩ := putF X6 hx hZ hown (host := "") (Or.inl (own_w29 hw)) Via.refl e6 c10 c8 (Or.inr ⟨(own_w30 hw), rfl, hnm⟩) (own_w13 hw) (ty := (.object "com/example/delehat/delehat/protocols/epp/Responses$ElementWriter")) (by decide) rfl rfl (g := (mkF m 16 #[.val (.ref a1), .val (.ref a2), .val .null, .val .null, .val .null] [.null, (.ref a1)])) rfl rfl (hb hby d3_16)
  have KC12 : Keep h0 h11 [a1] := KC7.wr W11 (Or.inl (List.mem_of_getElem? (i := 0) rfl))
  have Fw11 := c10.same W11
  have N11 := Fr.snoc X11 N6 g_a1
  have c13 := c8.wr W11
  have c14 := F_a1_extension.other W2 (Or.inr (slot_ne (C := "com/example/delehat/delehat/protocols/epp/Responses$Payload") (Or.inr (own_w32 hw)) (Or.inr (own_w26 hw)) (by decide) (t := (.object "com/example/delehat/delehat/protocols/epp/Responses$ElementWriter")) (t' := (.object "com/example/delehat/delehat/protocols/epp/ResultCode")) (by decide) (by decide)))
  have c15 := c14.other W6 (Or.inr (slot_ne (C := "com/example/delehat/delehat/protocols/epp/Responses$Payload") (Or.inr (own_w32 hw)) (Or.inr (own_w28 hw)) (by decide) (t := (.object "com/example/delehat/delehat/protocols/epp/Responses$ElementWriter")) (t' := (.object "com/example/delehat/delehat/protocols/epp/Responses$ElementWriter")) (by decide) (by decide)))
  have c16 := c15.other W11 (Or.inr (slot_ne (C := "com/example/delehat/delehat/protocols/epp/Responses$Payload") (Or.inr (own_w32 hw)) (Or.inr (own_w30 hw)) (by decide) (t := (.object "com/example/delehat/delehat/protocols/epp/Responses$ElementWriter")) (t' := (.object "com/example/delehat/delehat/protocols/epp/Responses$ElementWriter")) (by decide) (by decide)))
  obtain ⟨T17, h17, X17, e17, W17, st17⟩ := putF X11 hx hZ hown (host := "") (Or.inl (own_w31 hw)) Via.refl e11 c16 c13 (Or.inr ⟨(own_w32 hw), rfl, hnm⟩) (own_w13 hw) (ty := (.object "com/example/delehat/delehat/protocols/epp/Responses$ElementWriter")) (by decide) rfl rfl (g := (mkF m 22 #[.val (.ref a1), .val (.ref a2), .val .null, .val .null, .val .null] [.null, (.ref a1)])) rfl rfl (hb hby d3_22)
  have KC18 : Keep h0 h17 [a1] := KC12.wr W17 (Or.inl (List.mem_of_getElem? (i := 0) rfl))
  have Fw17 := c16.same W17
  have N17 := Fr.snoc X17 N11 g_a1
  have c19 := c13.wr W17
  have c20 := Fw2.other W6 (Or.inr (slot_ne (C := "com/example/delehat/delehat/protocols/epp/Responses$Payload") (Or.inr (own_w26 hw)) (Or.inr (own_w28 hw)) (by decide) (t := (.object "com/example/delehat/delehat/protocols/epp/ResultCode")) (t' := (.object "com/example/delehat/delehat/protocols/epp/Responses$ElementWriter")) (by decide) (by decide)))
  have c21 := c20.other W11 (Or.inr (slot_ne (C := "com/example/delehat/delehat/protocols/epp/Responses$Payload") (Or.inr (own_w26 hw)) (Or.inr (own_w30 hw)) (by decide) (t := (.object "com/example/delehat/delehat/protocols/epp/ResultCode")) (t' := (.object "com/example/delehat/delehat/protocols/epp/Responses$ElementWriter")) (by decide) (by decide)))
  have c22 := c21.other W17 (Or.inr (slot_ne (C := "com/example/delehat/delehat/protocols/epp/Responses$Payload") (Or.inr (own_w26 hw)) (Or.inr (own_w32 hw)) (by decide) (t := (.object "com/example/delehat/delehat/protocols/epp/ResultCode")) (t' := (.object "com/example/delehat/delehat/protocols/epp/Responses$ElementWriter")) (by decide) (by decide)))
  have c23 := Fw6.other W11 (Or.inr (slot_ne (C := "com/example/delehat/delehat/protocols/epp/Responses$Payload") (Or.inr (own_w28 hw)) (Or.inr (own_w30 hw)) (by decide) (t := (.object "com/example/delehat/delehat/protocols/epp/Responses$ElementWriter")) (t' := (.object "com/example/delehat/delehat/protocols/epp/Responses$ElementWriter")) (by decide) (by decide)))
  have c24 := c23.other W17 (Or.inr (slot_ne (C := "com/example/delehat/delehat/protocols/epp/Responses$Payload") (Or.inr (own_w28 hw)) (Or.inr (own_w32 hw)) (by decide) (t := (.object "com/example/delehat/delehat/protocols/epp/Responses$ElementWriter")) (t' := (.object "com/example/delehat/delehat/protocols/epp/Responses$ElementWriter")) (by decide) (by decide)))
  have c25 := Fw11.other W17 (Or.inr (slot_ne (C := "com/example/delehat/delehat/protocols/epp/Responses$Payload") (Or.inr (own_w30 hw)) (Or.inr (own_w32 hw)) (by decide) (t := (.object "com/example/delehat/delehat/protocols/epp/Responses$ElementWriter")) (t' := (.object "com/example/delehat/delehat/protocols/epp/Responses$ElementWriter")) (by decide) (by decide)))
  obtain ⟨fs, hr, hrun, hended, hW, hsame⟩ := X17.leave (v := none) (fun _ => rfl)
  refine ⟨_, _, pre0 _ ?_, hrun, hended, _, _, rfl, ?_, ⟨_, rfl⟩, hW, hsame.mono (by decide) (by decide)⟩
  · show Steps p.tables e below (s₁.setTop (mkF m 0 #[.val (.ref a1), .val (.ref a2), .val .null, .val .null, .val .null] [])) _
    refine XS.aloadN X0.here hx rfl (hb hby d3_0) rfl rfl ?_
    show Steps p.tables e below (s₁.setTop (mkF m 1 #[.val (.ref a1), .val (.ref a2), .val .null, .val .null, .val .null] [(.ref a1)])) _
    refine st1.trans ?_
    show Steps p.tables e below (T1.setTop (mkF m 4 #[.val (.ref a1), .val (.ref a2), .val .null, .val .null, .val .null] [])) _
    refine XS.aloadN X1.here hx rfl (hb hby d3_4) rfl rfl ?_
    show Steps p.tables e below (T1.setTop (mkF m 5 #[.val (.ref a1), .val (.ref a2), .val .null, .val .null, .val .null] [(.ref a1)])) _
    refine XS.aloadN X1.here hx rfl (hb hby d3_5) rfl rfl ?_
    show Steps p.tables e below (T1.setTop (mkF m 6 #[.val (.ref a1), .val (.ref a2), .val .null, .val .null, .val .null] [(.ref a2), (.ref a1)])) _
    refine st2 _ ?_
    show Steps p.tables e below (T2.setTop (mkF m 9 #[.val (.ref a1), .val (.ref a2), .val .null, .val .null, .val .null] [])) _
    refine XS.aloadN X2.here hx rfl (hb hby d3_9) rfl rfl ?_
    show Steps p.tables e below (T2.setTop (mkF m 10 #[.val (.ref a1), .val (.ref a2), .val .null, .val .null, .val .null] [(.ref a1)])) _
    refine XS.aloadN X2.here hx rfl (hb hby d3_10) rfl rfl ?_
    show Steps p.tables e below (T2.setTop (mkF m 11 #[.val (.ref a1), .val (.ref a2), .val .null, .val .null, .val .null] [.null, (.ref a1)])) _
    refine st6 _ ?_
    show Steps p.tables e below (T6.setTop (mkF m 14 #[.val (.ref a1), .val (.ref a2), .val .null, .val .null, .val .null] [])) _
    refine XS.aloadN X6.here hx rfl (hb hby d3_14) rfl rfl ?_
    show Steps p.tables e below (T6.setTop (mkF m 15 #[.val (.ref a1), .val (.ref a2), .val .null, .val .null, .val .null] [(.ref a1)])) _
    refine XS.aloadN X6.here hx rfl (hb hby d3_15) rfl rfl ?_
    show Steps p.tables e below (T6.setTop (mkF m 16 #[.val (.ref a1), .val (.ref a2), .val .null, .val .null, .val .null] [.null, (.ref a1)])) _
    refine st11 _ ?_
    show Steps p.tables e below (T11.setTop (mkF m 19 #[.val (.ref a1), .val (.ref a2), .val .null, .val .null, .val .null] [])) _
    refine XS.aloadN X11.here hx rfl (hb hby d3_19) rfl rfl ?_
    show Steps p.tables e below (T11.setTop (mkF m 20 #[.val (.ref a1), .val (.ref a2), .val .null, .val .null, .val .null] [(.ref a1)])) _
    refine XS.aload X11.here hx rfl (hb hby d3_20) rfl rfl ?_
    show Steps p.tables e below (T11.setTop (mkF m 22 #[.val (.ref a1), .val (.ref a2), .val .null, .val .null, .val .null] [.null, (.ref a1)])) _
    refine st17 _ ?_
    show Steps p.tables e below (T17.setTop (mkF m 25 #[.val (.ref a1), .val (.ref a2), .val .null, .val .null, .val .null] [])) _
    exact X17.returnOut hx Bd.returns (hb hby d3_25) hr
  · show Q3_30 Z a1 a2 h0 n0 _ T17.heap _
    rw [e17]
    exact ⟨rfl, N17, KC18, c19, c22, c24, c25, Fw17⟩
theorem ef2_31 (m : MethodId) (a1 : Addr) : entryFrame m #[(.ref a1)] 1 = mkF m 0 #[.val (.ref a1)] [] := by first | (simp [entryFrame, mkF, argsToLocals, Value.category]; done) | rfl
def Q2_31 (Z : State) (a1 : Addr) (h0 : Heap) (n0 : Nat) (v : Option Value) (h : Heap) (L : List Loc) : Prop := ∃ b1 : Addr, v = some (.ref b1) ∧ Fr n0 L ∧ Keep h0 h [] ∧ h0.size ≤ b1 ∧ Exa Z h b1 "com/example/delehat/delehat/protocols/epp/Responses$Payload" ∧ Fld Z h b1 "com/example/delehat/delehat/protocols/epp/Responses$Payload" "code" "Lcom/example/delehat/delehat/protocols/epp/ResultCode;" (.ref a1) ∧ Fld Z h b1 "com/example/delehat/delehat/protocols/epp/Responses$Payload" "msgQ" "Lcom/example/delehat/delehat/protocols/epp/Responses$ElementWriter;" .null ∧ Fld Z h b1 "com/example/delehat/delehat/protocols/epp/Responses$Payload" "resData" "Lcom/example/delehat/delehat/protocols/epp/Responses$ElementWriter;" .null ∧ Fld Z h b1 "com/example/delehat/delehat/protocols/epp/Responses$Payload" "extension" "Lcom/example/delehat/delehat/protocols/epp/Responses$ElementWriter;" .null
set_option maxRecDepth 65536 in
set_option maxHeartbeats 40000000 in
theorem rm2_31 (l : Launch) (Z : State) (a0 : Array Value) (hw : ∀ d ∈ tables_1, d.before a0 Z = true) (ws : List Jvm.Cond) (a1 : Addr) (h0 : Heap) (n0 : Nat) (Z0 : n0 ≤ h0.size) :
    MetFree l (⟨"com/example/delehat/delehat/protocols/epp/Responses$Payload", "of", "(Lcom/example/delehat/delehat/protocols/epp/ResultCode;)Lcom/example/delehat/delehat/protocols/epp/Responses$Payload;"⟩ : MethodName) (head1 (Jvm.Cond.code (⟨"com/example/delehat/delehat/protocols/epp/Responses$Payload", "of", "(Lcom/example/delehat/delehat/protocols/epp/ResultCode;)Lcom/example/delehat/delehat/protocols/epp/Responses$Payload;"⟩ : MethodName) prog_83_method_2_code 1 (some (.object "com/example/delehat/delehat/protocols/epp/Responses$Payload")) :: ws) ({ frames := 3, cells := 1, slots := 4, locals := 41 } : Room)) (fun a U => a = #[(.ref a1)] ∧ Z.Warmed39 U.vm ∧ U.heap = h0) (fun _ _ _ _ _ => True) (fun _ U o U' => ∃ v L, o = .returned v ∧ Q2_31 Z a1 h0 n0 v U'.heap L ∧ FrameEnd U o U' L ({ frames := 3, cells := 1, slots := 4, locals := 41 } : Room).cells ({ frames := 3, cells := 1, slots := 4, locals := 41 } : Room).slots) := by
  refine MetFree.of_bodySF (plainFor_of_name pn_com_example_delehat_delehat_protocols_epp_Responses_Payload) hisR ?_
  intro p e s m args below meth c s₁ Bd hml0 hP hK
  obtain ⟨rfl, hZ, hh⟩ := hP
  have hx := Bd.exec
  have hby := Bd.bytes
  have hml : c.maxLocals = 1 := hml0
  have hown : s.vm.findClass "com/example/delehat/delehat/protocols/epp/Responses$Payload" = some m.cls := findClass_of_methodNamed Bd.named
  have hnm := (name_of_methodNamed Bd.named Bd.method).1
  have X0 : Stand p l e ({ frames := 3, cells := 1, slots := 4, locals := 41 } : Room) s m #[(.ref a1)] below meth c s₁ [] 0 0 := Stand.of_body Bd
  have e0 : s₁.heap = h0 := by rw [← hh, Bd.state]; rfl
  have N0 := Fr.nil n0
  have pre0 : ∀ t, Steps p.tables e below (s₁.setTop (mkF m 0 #[.val (.ref a1)] [])) t → Steps p.tables e below (s₁.setTop (entryFrame m #[(.ref a1)] 1)) t := fun t k => castTop (ef2_31 m a1) k
  obtain ⟨T1, h1, X1, e1, E1, A1, D1, -, st1⟩ := newO X0 hx hZ hown (own_w12 hw) (own_w13 hw) (own_w10 hw) e0 (g := (mkF m 0 #[.val (.ref a1)] [])) rfl (hb hby d2_0) (by decide) (by decide)
  obtain ⟨b1, q1⟩ : ∃ z, z = h0.size := ⟨_, rfl⟩
  rw [← q1] at A1 D1 st1
  have sz_b1 : h0.size ≤ b1 := Nat.le_of_eq q1.symm
  have sz0_b1 : h0.size ≤ b1 := sz_b1
  have g_b1 : n0 ≤ b1 := Nat.le_trans Z0 sz0_b1
  have KC2 : Keep h0 h1 [] := (Keep.refl h0 []).ext E1
  have F1_code : Fld Z h1 b1 "com/example/delehat/delehat/protocols/epp/Responses$Payload" "code" "Lcom/example/delehat/delehat/protocols/epp/ResultCode;" .null := D1 (Or.inr (own_w26 hw)) (ty := (.object "com/example/delehat/delehat/protocols/epp/ResultCode")) (by decide)
  have F1_msgQ : Fld Z h1 b1 "com/example/delehat/delehat/protocols/epp/Responses$Payload" "msgQ" "Lcom/example/delehat/delehat/protocols/epp/Responses$ElementWriter;" .null := D1 (Or.inr (own_w28 hw)) (ty := (.object "com/example/delehat/delehat/protocols/epp/Responses$ElementWriter")) (by decide)
  have F1_resData : Fld Z h1 b1 "com/example/delehat/delehat/protocols/epp/Responses$Payload" "resData" "Lcom/example/delehat/delehat/protocols/epp/Responses$ElementWriter;" .null := D1 (Or.inr (own_w30 hw)) (ty := (.object "com/example/delehat/delehat/protocols/epp/Responses$ElementWriter")) (by decide)
  have F1_extension : Fld Z h1 b1 "com/example/delehat/delehat/protocols/epp/Responses$Payload" "extension" "Lcom/example/delehat/delehat/protocols/epp/Responses$ElementWriter;" .null := D1 (Or.inr (own_w32 hw)) (ty := (.object "com/example/delehat/delehat/protocols/epp/Responses$ElementWriter")) (by decide)
  obtain ⟨_, _, ⟨T3, L3, k3, n3⟩, -, X3, ⟨Lc3, hQ3, l3, y3, z3⟩, st3⟩ := X1.specialBack hx (y := (⟨"com/example/delehat/delehat/protocols/epp/Responses$Payload", "<init>", "(Lcom/example/delehat/delehat/protocols/epp/ResultCode;Lcom/example/delehat/delehat/protocols/epp/Responses$ElementWriter;Lcom/example/delehat/delehat/protocols/epp/Responses$ElementWriter;Lcom/example/delehat/delehat/protocols/epp/Responses$ElementWriter;)V"⟩ : MethodName)) rfl hown (mvT hZ (own_w14 hw)) (mvT hZ (own_w15 hw)) (mvT hZ (own_w16 hw)) (by decide) (backOf (W := 1) (rm3_30 l Z a0 hw [] b1 a1 h1 n0 (Nat.le_trans Z0 KC2.1) A1 F1_code g_b1 F1_msgQ F1_resData F1_extension) hZ (own_w16 hw) (own_w10 hw) (by decide) (by decide)) (g := (mkF m 8 #[.val (.ref a1)] [.null, .null, .null, (.ref a1), (.ref b1), (.ref b1)])) rfl (by rw [hml]; rfl) (Steps.refl _) (a := b1) (argsL := [(.ref a1), .null, .null, .null]) (rest := [(.ref b1)]) (lenOf pd__Lcom_example_delehat_delehat_protocols_epp_ResultCode_Lcom_example_delehat_delehat_protocols_epp_Responses_ElementWriter_Lcom_example_delehat_delehat_protocols_epp_Responses_ElementWriter_Lcom_example_delehat_delehat_protocols_epp_Responses_ElementWriter__V rfl) rfl (by show 2 * 0 + _ ≤ _; exact Nat.le_of_eq rfl) (hb hby d2_8) (fun _ _ => ⟨rfl, e1, (by decide : 1 + 0 ≤ _), (by decide : 4 + 0 ≤ _)⟩)
  dsimp only [Pt.U, Pt.locs, Pt.cells, Pt.slots] at X3 l3 y3 z3 st3 hQ3
  subst l3 y3 z3
  obtain ⟨rfl, N3q, K3, f3_0, f3_1, f3_2, f3_3, f3_4⟩ := hQ3
  have N3 := Fr.app N0 N3q
  have KC4 : Keep h0 T3.heap [] := KC2.trans K3 (allS (Or.inr sz0_b1) all0)
  obtain ⟨fs, hr, hrun, hended, hW, hsame⟩ := X3.leave (v := some (.ref b1)) (fun h => by rw [Bd.returns] at h; cases h)
  refine ⟨_, _, pre0 _ ?_, hrun, hended, _, _, rfl, ?_, ⟨_, rfl⟩, hW, hsame.mono (by decide) (by decide)⟩
  · show Steps p.tables e below (s₁.setTop (mkF m 0 #[.val (.ref a1)] [])) _
    refine st1 _ ?_
    show Steps p.tables e below (T1.setTop (mkF m 3 #[.val (.ref a1)] [(.ref b1)])) _
    refine XS.dup X1.here hx rfl (hb hby d2_3) rfl rfl ?_
    show Steps p.tables e below (T1.setTop (mkF m 4 #[.val (.ref a1)] [(.ref b1), (.ref b1)])) _
    refine XS.aloadN X1.here hx rfl (hb hby d2_4) rfl rfl ?_
    show Steps p.tables e below (T1.setTop (mkF m 5 #[.val (.ref a1)] [(.ref a1), (.ref b1), (.ref b1)])) _
    refine XS.aconstNull X1.here hx rfl (hb hby d2_5) ?_
    show Steps p.tables e below (T1.setTop (mkF m 6 #[.val (.ref a1)] [.null, (.ref a1), (.ref b1), (.ref b1)])) _
    refine XS.aconstNull X1.here hx rfl (hb hby d2_6) ?_
    show Steps p.tables e below (T1.setTop (mkF m 7 #[.val (.ref a1)] [.null, .null, (.ref a1), (.ref b1), (.ref b1)])) _
    refine XS.aconstNull X1.here hx rfl (hb hby d2_7) ?_
    show Steps p.tables e below (T1.setTop (mkF m 8 #[.val (.ref a1)] [.null, .null, .null, (.ref a1), (.ref b1), (.ref b1)])) _
    refine st3.trans ?_
    show Steps p.tables e below (T3.setTop (mkF m 11 #[.val (.ref a1)] [(.ref b1)])) _
    exact retOut X3 hx Bd.returns rfl (Or.inr (Or.inr (Or.inr (Or.inr ⟨rfl, rfl, rfl⟩)))) (hb hby d2_11) hr
  · show Q2_31 Z a1 h0 n0 _ T3.heap _
    exact ⟨b1, rfl, N3, KC4, sz0_b1, f3_0, f3_1, f3_2, f3_3, f3_4⟩
theorem ef6_32 (m : MethodId) (a1 : Addr) : entryFrame m #[(.ref a1)] 1 = mkF m 0 #[.val (.ref a1)] [] := by first | (simp [entryFrame, mkF, argsToLocals, Value.category]; done) | rfl
def Q6_32 (Z : State) (a1 : Addr) (a2 : Addr) (h0 : Heap) (n0 : Nat) (v : Option Value) (h : Heap) (L : List Loc) : Prop := v = some (.ref a2) ∧ Fr n0 L ∧ h = h0
set_option maxRecDepth 65536 in
set_option maxHeartbeats 40000000 in
theorem rm6_32 (l : Launch) (Z : State) (a0 : Array Value) (hw : ∀ d ∈ tables_1, d.before a0 Z = true) (ws : List Jvm.Cond) (a1 : Addr) (a2 : Addr) (h0 : Heap) (n0 : Nat) (Z0 : n0 ≤ h0.size) (F_a1_code : Fld Z h0 a1 "com/example/delehat/delehat/protocols/epp/Responses$Payload" "code" "Lcom/example/delehat/delehat/protocols/epp/ResultCode;" (.ref a2)) :
    MetFree l (⟨"com/example/delehat/delehat/protocols/epp/Responses$Payload", "code", "()Lcom/example/delehat/delehat/protocols/epp/ResultCode;"⟩ : MethodName) (head1 (Jvm.Cond.code (⟨"com/example/delehat/delehat/protocols/epp/Responses$Payload", "code", "()Lcom/example/delehat/delehat/protocols/epp/ResultCode;"⟩ : MethodName) prog_83_method_9_code 1 (some (.object "com/example/delehat/delehat/protocols/epp/ResultCode")) :: ws) ({ frames := 0, cells := 0, slots := 0, locals := 0 } : Room)) (fun a U => a = #[(.ref a1)] ∧ Z.Warmed39 U.vm ∧ U.heap = h0) (fun _ _ _ _ _ => True) (fun _ U o U' => ∃ v L, o = .returned v ∧ Q6_32 Z a1 a2 h0 n0 v U'.heap L ∧ FrameEnd U o U' L ({ frames := 0, cells := 0, slots := 0, locals := 0 } : Room).cells ({ frames := 0, cells := 0, slots := 0, locals := 0 } : Room).slots) := by
  refine MetFree.of_bodySF (plainFor_of_name pn_com_example_delehat_delehat_protocols_epp_Responses_Payload) hisR ?_
  intro p e s m args below meth c s₁ Bd hml0 hP hK
  obtain ⟨rfl, hZ, hh⟩ := hP
  have hx := Bd.exec
  have hby := Bd.bytes
  have hml : c.maxLocals = 1 := hml0
  have hown : s.vm.findClass "com/example/delehat/delehat/protocols/epp/Responses$Payload" = some m.cls := findClass_of_methodNamed Bd.named
  have hnm := (name_of_methodNamed Bd.named Bd.method).1
  have X0 : Stand p l e ({ frames := 0, cells := 0, slots := 0, locals := 0 } : Room) s m #[(.ref a1)] below meth c s₁ [] 0 0 := Stand.of_body Bd
  have e0 : s₁.heap = h0 := by rw [← hh, Bd.state]; rfl
  have N0 := Fr.nil n0
  have pre0 : ∀ t, Steps p.tables e below (s₁.setTop (mkF m 0 #[.val (.ref a1)] [])) t → Steps p.tables e below (s₁.setTop (entryFrame m #[(.ref a1)] 1)) t := fun t k => castTop (ef6_32 m a1) k
  obtain ⟨T1, X1, e1, st1⟩ := getF X0 hx hZ hown (host := "") (Or.inl (own_w25 hw)) Via.refl e0 F_a1_code (g := (mkF m 1 #[.val (.ref a1)] [(.ref a1)])) rfl rfl (hb hby d6_1)
  obtain ⟨fs, hr, hrun, hended, hW, hsame⟩ := X1.leave (v := some (.ref a2)) (fun h => by rw [Bd.returns] at h; cases h)
  refine ⟨_, _, pre0 _ ?_, hrun, hended, _, _, rfl, ?_, ⟨_, rfl⟩, hW, hsame.mono (by decide) (by decide)⟩
  · show Steps p.tables e below (s₁.setTop (mkF m 0 #[.val (.ref a1)] [])) _
    refine XS.aloadN X0.here hx rfl (hb hby d6_0) rfl rfl ?_
    show Steps p.tables e below (s₁.setTop (mkF m 1 #[.val (.ref a1)] [(.ref a1)])) _
    refine st1 _ ?_
    show Steps p.tables e below (T1.setTop (mkF m 4 #[.val (.ref a1)] [(.ref a2)])) _
    exact retOut X1 hx Bd.returns rfl (Or.inr (Or.inr (Or.inr (Or.inr ⟨rfl, rfl, rfl⟩)))) (hb hby d6_4) hr
  · show Q6_32 Z a1 a2 h0 n0 _ T1.heap _
    rw [e1]
    exact ⟨rfl, N0, rfl⟩
theorem ef7_33 (m : MethodId) (a1 : Addr) : entryFrame m #[(.ref a1)] 1 = mkF m 0 #[.val (.ref a1)] [] := by first | (simp [entryFrame, mkF, argsToLocals, Value.category]; done) | rfl
def Q7_33 (Z : State) (a1 : Addr) (h0 : Heap) (n0 : Nat) (v : Option Value) (h : Heap) (L : List Loc) : Prop := v = some .null ∧ Fr n0 L ∧ h = h0
set_option maxRecDepth 65536 in
set_option maxHeartbeats 40000000 in
theorem rm7_33 (l : Launch) (Z : State) (a0 : Array Value) (hw : ∀ d ∈ tables_1, d.before a0 Z = true) (ws : List Jvm.Cond) (a1 : Addr) (h0 : Heap) (n0 : Nat) (Z0 : n0 ≤ h0.size) (F_a1_msgQ : Fld Z h0 a1 "com/example/delehat/delehat/protocols/epp/Responses$Payload" "msgQ" "Lcom/example/delehat/delehat/protocols/epp/Responses$ElementWriter;" .null) :
    MetFree l (⟨"com/example/delehat/delehat/protocols/epp/Responses$Payload", "msgQ", "()Lcom/example/delehat/delehat/protocols/epp/Responses$ElementWriter;"⟩ : MethodName) (head1 (Jvm.Cond.code (⟨"com/example/delehat/delehat/protocols/epp/Responses$Payload", "msgQ", "()Lcom/example/delehat/delehat/protocols/epp/Responses$ElementWriter;"⟩ : MethodName) prog_83_method_10_code 1 (some (.object "com/example/delehat/delehat/protocols/epp/Responses$ElementWriter")) :: ws) ({ frames := 0, cells := 0, slots := 0, locals := 0 } : Room)) (fun a U => a = #[(.ref a1)] ∧ Z.Warmed39 U.vm ∧ U.heap = h0) (fun _ _ _ _ _ => True) (fun _ U o U' => ∃ v L, o = .returned v ∧ Q7_33 Z a1 h0 n0 v U'.heap L ∧ FrameEnd U o U' L ({ frames := 0, cells := 0, slots := 0, locals := 0 } : Room).cells ({ frames := 0, cells := 0, slots := 0, locals := 0 } : Room).slots) := by
  refine MetFree.of_bodySF (plainFor_of_name pn_com_example_delehat_delehat_protocols_epp_Responses_Payload) hisR ?_
  intro p e s m args below meth c s₁ Bd hml0 hP hK
  obtain ⟨rfl, hZ, hh⟩ := hP
  have hx := Bd.exec
  have hby := Bd.bytes
  have hml : c.maxLocals = 1 := hml0
  have hown : s.vm.findClass "com/example/delehat/delehat/protocols/epp/Responses$Payload" = some m.cls := findClass_of_methodNamed Bd.named
  have hnm := (name_of_methodNamed Bd.named Bd.method).1
  have X0 : Stand p l e ({ frames := 0, cells := 0, slots := 0, locals := 0 } : Room) s m #[(.ref a1)] below meth c s₁ [] 0 0 := Stand.of_body Bd
  have e0 : s₁.heap = h0 := by rw [← hh, Bd.state]; rfl
  have N0 := Fr.nil n0
  have pre0 : ∀ t, Steps p.tables e below (s₁.setTop (mkF m 0 #[.val (.ref a1)] [])) t → Steps p.tables e below (s₁.setTop (entryFrame m #[(.ref a1)] 1)) t := fun t k => castTop (ef7_33 m a1) k
  obtain ⟨T1, X1, e1, st1⟩ := getF X0 hx hZ hown (host := "") (Or.inl (own_w27 hw)) Via.refl e0 F_a1_msgQ (g := (mkF m 1 #[.val (.ref a1)] [(.ref a1)])) rfl rfl (hb hby d7_1)
  obtain ⟨fs, hr, hrun, hended, hW, hsame⟩ := X1.leave (v := some .null) (fun h => by rw [Bd.returns] at h; cases h)
  refine ⟨_, _, pre0 _ ?_, hrun, hended, _, _, rfl, ?_, ⟨_, rfl⟩, hW, hsame.mono (by decide) (by decide)⟩
  · show Steps p.tables e below (s₁.setTop (mkF m 0 #[.val (.ref a1)] [])) _
    refine XS.aloadN X0.here hx rfl (hb hby d7_0) rfl rfl ?_
    show Steps p.tables e below (s₁.setTop (mkF m 1 #[.val (.ref a1)] [(.ref a1)])) _
    refine st1 _ ?_
    show Steps p.tables e below (T1.setTop (mkF m 4 #[.val (.ref a1)] [.null])) _
    exact retOut X1 hx Bd.returns rfl (Or.inr (Or.inr (Or.inr (Or.inr ⟨rfl, rfl, rfl⟩)))) (hb hby d7_4) hr
  · show Q7_33 Z a1 h0 n0 _ T1.heap _
    rw [e1]
    exact ⟨rfl, N0, rfl⟩
theorem ef8_34 (m : MethodId) (a1 : Addr) : entryFrame m #[(.ref a1)] 1 = mkF m 0 #[.val (.ref a1)] [] := by first | (simp [entryFrame, mkF, argsToLocals, Value.category]; done) | rfl
def Q8_34 (Z : State) (a1 : Addr) (h0 : Heap) (n0 : Nat) (v : Option Value) (h : Heap) (L : List Loc) : Prop := v = some .null ∧ Fr n0 L ∧ h = h0
set_option maxRecDepth 65536 in
set_option maxHeartbeats 40000000 in
theorem rm8_34 (l : Launch) (Z : State) (a0 : Array Value) (hw : ∀ d ∈ tables_1, d.before a0 Z = true) (ws : List Jvm.Cond) (a1 : Addr) (h0 : Heap) (n0 : Nat) (Z0 : n0 ≤ h0.size) (F_a1_resData : Fld Z h0 a1 "com/example/delehat/delehat/protocols/epp/Responses$Payload" "resData" "Lcom/example/delehat/delehat/protocols/epp/Responses$ElementWriter;" .null) :
    MetFree l (⟨"com/example/delehat/delehat/protocols/epp/Responses$Payload", "resData", "()Lcom/example/delehat/delehat/protocols/epp/Responses$ElementWriter;"⟩ : MethodName) (head1 (Jvm.Cond.code (⟨"com/example/delehat/delehat/protocols/epp/Responses$Payload", "resData", "()Lcom/example/delehat/delehat/protocols/epp/Responses$ElementWriter;"⟩ : MethodName) prog_83_method_11_code 1 (some (.object "com/example/delehat/delehat/protocols/epp/Responses$ElementWriter")) :: ws) ({ frames := 0, cells := 0, slots := 0, locals := 0 } : Room)) (fun a U => a = #[(.ref a1)] ∧ Z.Warmed39 U.vm ∧ U.heap = h0) (fun _ _ _ _ _ => True) (fun _ U o U' => ∃ v L, o = .returned v ∧ Q8_34 Z a1 h0 n0 v U'.heap L ∧ FrameEnd U o U' L ({ frames := 0, cells := 0, slots := 0, locals := 0 } : Room).cells ({ frames := 0, cells := 0, slots := 0, locals := 0 } : Room).slots) := by
  refine MetFree.of_bodySF (plainFor_of_name pn_com_example_delehat_delehat_protocols_epp_Responses_Payload) hisR ?_
  intro p e s m args below meth c s₁ Bd hml0 hP hK
  obtain ⟨rfl, hZ, hh⟩ := hP
  have hx := Bd.exec
  have hby := Bd.bytes
  have hml : c.maxLocals = 1 := hml0
  have hown : s.vm.findClass "com/example/delehat/delehat/protocols/epp/Responses$Payload" = some m.cls := findClass_of_methodNamed Bd.named
  have hnm := (name_of_methodNamed Bd.named Bd.method).1
  have X0 : Stand p l e ({ frames := 0, cells := 0, slots := 0, locals := 0 } : Room) s m #[(.ref a1)] below meth c s₁ [] 0 0 := Stand.of_body Bd
  have e0 : s₁.heap = h0 := by rw [← hh, Bd.state]; rfl
  have N0 := Fr.nil n0
  have pre0 : ∀ t, Steps p.tables e below (s₁.setTop (mkF m 0 #[.val (.ref a1)] [])) t → Steps p.tables e below (s₁.setTop (entryFrame m #[(.ref a1)] 1)) t := fun t k => castTop (ef8_34 m a1) k
  obtain ⟨T1, X1, e1, st1⟩ := getF X0 hx hZ hown (host := "") (Or.inl (own_w29 hw)) Via.refl e0 F_a1_resData (g := (mkF m 1 #[.val (.ref a1)] [(.ref a1)])) rfl rfl (hb hby d8_1)
  obtain ⟨fs, hr, hrun, hended, hW, hsame⟩ := X1.leave (v := some .null) (fun h => by rw [Bd.returns] at h; cases h)
  refine ⟨_, _, pre0 _ ?_, hrun, hended, _, _, rfl, ?_, ⟨_, rfl⟩, hW, hsame.mono (by decide) (by decide)⟩
  · show Steps p.tables e below (s₁.setTop (mkF m 0 #[.val (.ref a1)] [])) _
    refine XS.aloadN X0.here hx rfl (hb hby d8_0) rfl rfl ?_
    show Steps p.tables e below (s₁.setTop (mkF m 1 #[.val (.ref a1)] [(.ref a1)])) _
    refine st1 _ ?_
    show Steps p.tables e below (T1.setTop (mkF m 4 #[.val (.ref a1)] [.null])) _
    exact retOut X1 hx Bd.returns rfl (Or.inr (Or.inr (Or.inr (Or.inr ⟨rfl, rfl, rfl⟩)))) (hb hby d8_4) hr
  · show Q8_34 Z a1 h0 n0 _ T1.heap _
    rw [e1]
    exact ⟨rfl, N0, rfl⟩
theorem ef9_35 (m : MethodId) (a1 : Addr) : entryFrame m #[(.ref a1)] 1 = mkF m 0 #[.val (.ref a1)] [] := by first | (simp [entryFrame, mkF, argsToLocals, Value.category]; done) | rfl
def Q9_35 (Z : State) (a1 : Addr) (h0 : Heap) (n0 : Nat) (v : Option Value) (h : Heap) (L : List Loc) : Prop := v = some .null ∧ Fr n0 L ∧ h = h0
set_option maxRecDepth 65536 in
set_option maxHeartbeats 40000000 in
theorem rm9_35 (l : Launch) (Z : State) (a0 : Array Value) (hw : ∀ d ∈ tables_1, d.before a0 Z = true) (ws : List Jvm.Cond) (a1 : Addr) (h0 : Heap) (n0 : Nat) (Z0 : n0 ≤ h0.size) (F_a1_extension : Fld Z h0 a1 "com/example/delehat/delehat/protocols/epp/Responses$Payload" "extension" "Lcom/example/delehat/delehat/protocols/epp/Responses$ElementWriter;" .null) :
    MetFree l (⟨"com/example/delehat/delehat/protocols/epp/Responses$Payload", "extension", "()Lcom/example/delehat/delehat/protocols/epp/Responses$ElementWriter;"⟩ : MethodName) (head1 (Jvm.Cond.code (⟨"com/example/delehat/delehat/protocols/epp/Responses$Payload", "extension", "()Lcom/example/delehat/delehat/protocols/epp/Responses$ElementWriter;"⟩ : MethodName) prog_83_method_12_code 1 (some (.object "com/example/delehat/delehat/protocols/epp/Responses$ElementWriter")) :: ws) ({ frames := 0, cells := 0, slots := 0, locals := 0 } : Room)) (fun a U => a = #[(.ref a1)] ∧ Z.Warmed39 U.vm ∧ U.heap = h0) (fun _ _ _ _ _ => True) (fun _ U o U' => ∃ v L, o = .returned v ∧ Q9_35 Z a1 h0 n0 v U'.heap L ∧ FrameEnd U o U' L ({ frames := 0, cells := 0, slots := 0, locals := 0 } : Room).cells ({ frames := 0, cells := 0, slots := 0, locals := 0 } : Room).slots) := by
  refine MetFree.of_bodySF (plainFor_of_name pn_com_example_delehat_delehat_protocols_epp_Responses_Payload) hisR ?_
  intro p e s m args below meth c s₁ Bd hml0 hP hK
  obtain ⟨rfl, hZ, hh⟩ := hP
  have hx := Bd.exec
  have hby := Bd.bytes
  have hml : c.maxLocals = 1 := hml0
  have hown : s.vm.findClass "com/example/delehat/delehat/protocols/epp/Responses$Payload" = some m.cls := findClass_of_methodNamed Bd.named
  have hnm := (name_of_methodNamed Bd.named Bd.method).1
  have X0 : Stand p l e ({ frames := 0, cells := 0, slots := 0, locals := 0 } : Room) s m #[(.ref a1)] below meth c s₁ [] 0 0 := Stand.of_body Bd
  have e0 : s₁.heap = h0 := by rw [← hh, Bd.state]; rfl
  have N0 := Fr.nil n0
  have pre0 : ∀ t, Steps p.tables e below (s₁.setTop (mkF m 0 #[.val (.ref a1)] [])) t → Steps p.tables e below (s₁.setTop (entryFrame m #[(.ref a1)] 1)) t := fun t k => castTop (ef9_35 m a1) k
  obtain ⟨T1, X1, e1, st1⟩ := getF X0 hx hZ hown (host := "") (Or.inl (own_w31 hw)) Via.refl e0 F_a1_extension (g := (mkF m 1 #[.val (.ref a1)] [(.ref a1)])) rfl rfl (hb hby d9_1)
  obtain ⟨fs, hr, hrun, hended, hW, hsame⟩ := X1.leave (v := some .null) (fun h => by rw [Bd.returns] at h; cases h)
  refine ⟨_, _, pre0 _ ?_, hrun, hended, _, _, rfl, ?_, ⟨_, rfl⟩, hW, hsame.mono (by decide) (by decide)⟩
  · show Steps p.tables e below (s₁.setTop (mkF m 0 #[.val (.ref a1)] [])) _
    refine XS.aloadN X0.here hx rfl (hb hby d9_0) rfl rfl ?_
    show Steps p.tables e below (s₁.setTop (mkF m 1 #[.val (.ref a1)] [(.ref a1)])) _
    refine st1 _ ?_
    show Steps p.tables e below (T1.setTop (mkF m 4 #[.val (.ref a1)] [.null])) _
    exact retOut X1 hx Bd.returns rfl (Or.inr (Or.inr (Or.inr (Or.inr ⟨rfl, rfl, rfl⟩)))) (hb hby d9_4) hr
  · show Q9_35 Z a1 h0 n0 _ T1.heap _
    rw [e1]
    exact ⟨rfl, N0, rfl⟩
theorem ef0 (m : MethodId) (i0 : Int32) : entryFrame m #[(.int i0)] maxLocals = mkF m 0 #[.val (.int i0), .unset, .unset] [] := by first | (simp [entryFrame, mkF, argsToLocals, Value.category, maxLocals]; done) | rfl
set_option maxRecDepth 65536 in
set_option maxHeartbeats 400000000 in
theorem rm0 (l : Launch) (Z : State) (a0 : Array Value) (hw : ∀ d ∈ tables_1, d.before a0 Z = true) (ws : List Jvm.Cond) (i0 : Int32) (o_SUCCESS : Addr) (o_SUCCESS_ACK_TO_DEQUEUE : Addr) (o_COMMAND_FAILED : Addr) (o_AUTHENTICATION_ERROR_CLOSING : Addr) (o_OBJECT_PENDING_TRANSFER : Addr) (o_REQUIRED_PARAMETER_MISSING : Addr) (o_SUCCESS_NO_MESSAGES : Addr) (o_UNIMPLEMENTED_COMMAND : Addr) (o_PARAMETER_VALUE_POLICY_ERROR : Addr) (o_PARAMETER_VALUE_RANGE_ERROR : Addr) (o_SUCCESS_PENDING : Addr) (o_UNIMPLEMENTED_PROTOCOL_VERSION : Addr) (o_PARAMETER_VALUE_SYNTAX_ERROR : Addr) (o_OBJECT_NOT_PENDING_TRANSFER : Addr) (o_AUTHORIZATION_ERROR : Addr) (o_AUTHENTICATION_ERROR : Addr) (o_COMMAND_USE_ERROR : Addr) (o_OBJECT_EXISTS : Addr) (o_OBJECT_ASSOCIATION_PROHIBITS_OPERATION : Addr) (o_UNIMPLEMENTED_EXTENSION : Addr) (o_SUCCESS_ENDING_SESSION : Addr) (o_OBJECT_STATUS_PROHIBITS_OPERATION : Addr) (o_INVALID_AUTHORIZATION_INFORMATION : Addr) (o_OBJECT_NOT_ELIGIBLE_FOR_TRANSFER : Addr) (o_COMMAND_SYNTAX_ERROR : Addr) (o_UNIMPLEMENTED_OPTION : Addr) (o_UNIMPLEMENTED_OBJECT_SERVICE : Addr) (o_OBJECT_DOES_NOT_EXIST : Addr) (h0 : Heap) (n0 : Nat) (Z0 : n0 ≤ h0.size) (S_o_SUCCESS : Sta Z h0 "com/example/delehat/delehat/protocols/epp/ResultCode" "SUCCESS" "Lcom/example/delehat/delehat/protocols/epp/ResultCode;" (.ref o_SUCCESS)) (E_o_SUCCESS : Exa Z h0 o_SUCCESS "com/example/delehat/delehat/protocols/epp/ResultCode") (S_o_SUCCESS_ACK_TO_DEQUEUE : Sta Z h0 "com/example/delehat/delehat/protocols/epp/ResultCode" "SUCCESS_ACK_TO_DEQUEUE" "Lcom/example/delehat/delehat/protocols/epp/ResultCode;" (.ref o_SUCCESS_ACK_TO_DEQUEUE)) (E_o_SUCCESS_ACK_TO_DEQUEUE : Exa Z h0 o_SUCCESS_ACK_TO_DEQUEUE "com/example/delehat/delehat/protocols/epp/ResultCode") (S_o_COMMAND_FAILED : Sta Z h0 "com/example/delehat/delehat/protocols/epp/ResultCode" "COMMAND_FAILED" "Lcom/example/delehat/delehat/protocols/epp/ResultCode;" (.ref o_COMMAND_FAILED)) (E_o_COMMAND_FAILED : Exa Z h0 o_COMMAND_FAILED "com/example/delehat/delehat/protocols/epp/ResultCode") (S_o_AUTHENTICATION_ERROR_CLOSING : Sta Z h0 "com/example/delehat/delehat/protocols/epp/ResultCode" "AUTHENTICATION_ERROR_CLOSING" "Lcom/example/delehat/delehat/protocols/epp/ResultCode;" (.ref o_AUTHENTICATION_ERROR_CLOSING)) (E_o_AUTHENTICATION_ERROR_CLOSING : Exa Z h0 o_AUTHENTICATION_ERROR_CLOSING "com/example/delehat/delehat/protocols/epp/ResultCode") (S_o_OBJECT_PENDING_TRANSFER : Sta Z h0 "com/example/delehat/delehat/protocols/epp/ResultCode" "OBJECT_PENDING_TRANSFER" "Lcom/example/delehat/delehat/protocols/epp/ResultCode;" (.ref o_OBJECT_PENDING_TRANSFER)) (E_o_OBJECT_PENDING_TRANSFER : Exa Z h0 o_OBJECT_PENDING_TRANSFER "com/example/delehat/delehat/protocols/epp/ResultCode") (S_o_REQUIRED_PARAMETER_MISSING : Sta Z h0 "com/example/delehat/delehat/protocols/epp/ResultCode" "REQUIRED_PARAMETER_MISSING" "Lcom/example/delehat/delehat/protocols/epp/ResultCode;" (.ref o_REQUIRED_PARAMETER_MISSING)) (E_o_REQUIRED_PARAMETER_MISSING : Exa Z h0 o_REQUIRED_PARAMETER_MISSING "com/example/delehat/delehat/protocols/epp/ResultCode") (S_o_SUCCESS_NO_MESSAGES : Sta Z h0 "com/example/delehat/delehat/protocols/epp/ResultCode" "SUCCESS_NO_MESSAGES" "Lcom/example/delehat/delehat/protocols/epp/ResultCode;" (.ref o_SUCCESS_NO_MESSAGES)) (E_o_SUCCESS_NO_MESSAGES : Exa Z h0 o_SUCCESS_NO_MESSAGES "com/example/delehat/delehat/protocols/epp/ResultCode") (S_o_UNIMPLEMENTED_COMMAND : Sta Z h0 "com/example/delehat/delehat/protocols/epp/ResultCode" "UNIMPLEMENTED_COMMAND" "Lcom/example/delehat/delehat/protocols/epp/ResultCode;" (.ref o_UNIMPLEMENTED_COMMAND)) (E_o_UNIMPLEMENTED_COMMAND : Exa Z h0 o_UNIMPLEMENTED_COMMAND "com/example/delehat/delehat/protocols/epp/ResultCode") (S_o_PARAMETER_VALUE_POLICY_ERROR : Sta Z h0 "com/example/delehat/delehat/protocols/epp/ResultCode" "PARAMETER_VALUE_POLICY_ERROR" "Lcom/example/delehat/delehat/protocols/epp/ResultCode;" (.ref o_PARAMETER_VALUE_POLICY_ERROR)) (E_o_PARAMETER_VALUE_POLICY_ERROR : Exa Z h0 o_PARAMETER_VALUE_POLICY_ERROR "com/example/delehat/delehat/protocols/epp/ResultCode") (S_o_PARAMETER_VALUE_RANGE_ERROR : Sta Z h0 "com/example/delehat/delehat/protocols/epp/ResultCode" "PARAMETER_VALUE_RANGE_ERROR" "Lcom/example/delehat/delehat/protocols/epp/ResultCode;" (.ref o_PARAMETER_VALUE_RANGE_ERROR)) (E_o_PARAMETER_VALUE_RANGE_ERROR : Exa Z h0 o_PARAMETER_VALUE_RANGE_ERROR "com/example/delehat/delehat/protocols/epp/ResultCode") (S_o_SUCCESS_PENDING : Sta Z h0 "com/example/delehat/delehat/protocols/epp/ResultCode" "SUCCESS_PENDING" "Lcom/example/delehat/delehat/protocols/epp/ResultCode;" (.ref o_SUCCESS_PENDING)) (E_o_SUCCESS_PENDING : Exa Z h0 o_SUCCESS_PENDING "com/example/delehat/delehat/protocols/epp/ResultCode") (S_o_UNIMPLEMENTED_PROTOCOL_VERSION : Sta Z h0 "com/example/delehat/delehat/protocols/epp/ResultCode" "UNIMPLEMENTED_PROTOCOL_VERSION" "Lcom/example/delehat/delehat/protocols/epp/ResultCode;" (.ref o_UNIMPLEMENTED_PROTOCOL_VERSION)) (E_o_UNIMPLEMENTED_PROTOCOL_VERSION : Exa Z h0 o_UNIMPLEMENTED_PROTOCOL_VERSION "com/example/delehat/delehat/protocols/epp/ResultCode") (S_o_PARAMETER_VALUE_SYNTAX_ERROR : Sta Z h0 "com/example/delehat/delehat/protocols/epp/ResultCode" "PARAMETER_VALUE_SYNTAX_ERROR" "Lcom/example/delehat/delehat/protocols/epp/ResultCode;" (.ref o_PARAMETER_VALUE_SYNTAX_ERROR)) (E_o_PARAMETER_VALUE_SYNTAX_ERROR : Exa Z h0 o_PARAMETER_VALUE_SYNTAX_ERROR "com/example/delehat/delehat/protocols/epp/ResultCode") (S_o_OBJECT_NOT_PENDING_TRANSFER : Sta Z h0 "com/example/delehat/delehat/protocols/epp/ResultCode" "OBJECT_NOT_PENDING_TRANSFER" "Lcom/example/delehat/delehat/protocols/epp/ResultCode;" (.ref o_OBJECT_NOT_PENDING_TRANSFER)) (E_o_OBJECT_NOT_PENDING_TRANSFER : Exa Z h0 o_OBJECT_NOT_PENDING_TRANSFER "com/example/delehat/delehat/protocols/epp/ResultCode") (S_o_AUTHORIZATION_ERROR : Sta Z h0 "com/example/delehat/delehat/protocols/epp/ResultCode" "AUTHORIZATION_ERROR" "Lcom/example/delehat/delehat/protocols/epp/ResultCode;" (.ref o_AUTHORIZATION_ERROR)) (E_o_AUTHORIZATION_ERROR : Exa Z h0 o_AUTHORIZATION_ERROR "com/example/delehat/delehat/protocols/epp/ResultCode") (S_o_AUTHENTICATION_ERROR : Sta Z h0 "com/example/delehat/delehat/protocols/epp/ResultCode" "AUTHENTICATION_ERROR" "Lcom/example/delehat/delehat/protocols/epp/ResultCode;" (.ref o_AUTHENTICATION_ERROR)) (E_o_AUTHENTICATION_ERROR : Exa Z h0 o_AUTHENTICATION_ERROR "com/example/delehat/delehat/protocols/epp/ResultCode") (S_o_COMMAND_USE_ERROR : Sta Z h0 "com/example/delehat/delehat/protocols/epp/ResultCode" "COMMAND_USE_ERROR" "Lcom/example/delehat/delehat/protocols/epp/ResultCode;" (.ref o_COMMAND_USE_ERROR)) (E_o_COMMAND_USE_ERROR : Exa Z h0 o_COMMAND_USE_ERROR "com/example/delehat/delehat/protocols/epp/ResultCode") (S_o_OBJECT_EXISTS : Sta Z h0 "com/example/delehat/delehat/protocols/epp/ResultCode" "OBJECT_EXISTS" "Lcom/example/delehat/delehat/protocols/epp/ResultCode;" (.ref o_OBJECT_EXISTS)) (E_o_OBJECT_EXISTS : Exa Z h0 o_OBJECT_EXISTS "com/example/delehat/delehat/protocols/epp/ResultCode") (S_o_OBJECT_ASSOCIATION_PROHIBITS_OPERATION : Sta Z h0 "com/example/delehat/delehat/protocols/epp/ResultCode" "OBJECT_ASSOCIATION_PROHIBITS_OPERATION" "Lcom/example/delehat/delehat/protocols/epp/ResultCode;" (.ref o_OBJECT_ASSOCIATION_PROHIBITS_OPERATION)) (E_o_OBJECT_ASSOCIATION_PROHIBITS_OPERATION : Exa Z h0 o_OBJECT_ASSOCIATION_PROHIBITS_OPERATION "com/example/delehat/delehat/protocols/epp/ResultCode") (S_o_UNIMPLEMENTED_EXTENSION : Sta Z h0 "com/example/delehat/delehat/protocols/epp/ResultCode" "UNIMPLEMENTED_EXTENSION" "Lcom/example/delehat/delehat/protocols/epp/ResultCode;" (.ref o_UNIMPLEMENTED_EXTENSION)) (E_o_UNIMPLEMENTED_EXTENSION : Exa Z h0 o_UNIMPLEMENTED_EXTENSION "com/example/delehat/delehat/protocols/epp/ResultCode") (S_o_SUCCESS_ENDING_SESSION : Sta Z h0 "com/example/delehat/delehat/protocols/epp/ResultCode" "SUCCESS_ENDING_SESSION" "Lcom/example/delehat/delehat/protocols/epp/ResultCode;" (.ref o_SUCCESS_ENDING_SESSION)) (E_o_SUCCESS_ENDING_SESSION : Exa Z h0 o_SUCCESS_ENDING_SESSION "com/example/delehat/delehat/protocols/epp/ResultCode") (S_o_OBJECT_STATUS_PROHIBITS_OPERATION : Sta Z h0 "com/example/delehat/delehat/protocols/epp/ResultCode" "OBJECT_STATUS_PROHIBITS_OPERATION" "Lcom/example/delehat/delehat/protocols/epp/ResultCode;" (.ref o_OBJECT_STATUS_PROHIBITS_OPERATION)) (E_o_OBJECT_STATUS_PROHIBITS_OPERATION : Exa Z h0 o_OBJECT_STATUS_PROHIBITS_OPERATION "com/example/delehat/delehat/protocols/epp/ResultCode") (S_o_INVALID_AUTHORIZATION_INFORMATION : Sta Z h0 "com/example/delehat/delehat/protocols/epp/ResultCode" "INVALID_AUTHORIZATION_INFORMATION" "Lcom/example/delehat/delehat/protocols/epp/ResultCode;" (.ref o_INVALID_AUTHORIZATION_INFORMATION)) (E_o_INVALID_AUTHORIZATION_INFORMATION : Exa Z h0 o_INVALID_AUTHORIZATION_INFORMATION "com/example/delehat/delehat/protocols/epp/ResultCode") (S_o_OBJECT_NOT_ELIGIBLE_FOR_TRANSFER : Sta Z h0 "com/example/delehat/delehat/protocols/epp/ResultCode" "OBJECT_NOT_ELIGIBLE_FOR_TRANSFER" "Lcom/example/delehat/delehat/protocols/epp/ResultCode;" (.ref o_OBJECT_NOT_ELIGIBLE_FOR_TRANSFER)) (E_o_OBJECT_NOT_ELIGIBLE_FOR_TRANSFER : Exa Z h0 o_OBJECT_NOT_ELIGIBLE_FOR_TRANSFER "com/example/delehat/delehat/protocols/epp/ResultCode") (S_o_COMMAND_SYNTAX_ERROR : Sta Z h0 "com/example/delehat/delehat/protocols/epp/ResultCode" "COMMAND_SYNTAX_ERROR" "Lcom/example/delehat/delehat/protocols/epp/ResultCode;" (.ref o_COMMAND_SYNTAX_ERROR)) (E_o_COMMAND_SYNTAX_ERROR : Exa Z h0 o_COMMAND_SYNTAX_ERROR "com/example/delehat/delehat/protocols/epp/ResultCode") (S_o_UNIMPLEMENTED_OPTION : Sta Z h0 "com/example/delehat/delehat/protocols/epp/ResultCode" "UNIMPLEMENTED_OPTION" "Lcom/example/delehat/delehat/protocols/epp/ResultCode;" (.ref o_UNIMPLEMENTED_OPTION)) (E_o_UNIMPLEMENTED_OPTION : Exa Z h0 o_UNIMPLEMENTED_OPTION "com/example/delehat/delehat/protocols/epp/ResultCode") (S_o_UNIMPLEMENTED_OBJECT_SERVICE : Sta Z h0 "com/example/delehat/delehat/protocols/epp/ResultCode" "UNIMPLEMENTED_OBJECT_SERVICE" "Lcom/example/delehat/delehat/protocols/epp/ResultCode;" (.ref o_UNIMPLEMENTED_OBJECT_SERVICE)) (E_o_UNIMPLEMENTED_OBJECT_SERVICE : Exa Z h0 o_UNIMPLEMENTED_OBJECT_SERVICE "com/example/delehat/delehat/protocols/epp/ResultCode") (S_o_OBJECT_DOES_NOT_EXIST : Sta Z h0 "com/example/delehat/delehat/protocols/epp/ResultCode" "OBJECT_DOES_NOT_EXIST" "Lcom/example/delehat/delehat/protocols/epp/ResultCode;" (.ref o_OBJECT_DOES_NOT_EXIST)) (E_o_OBJECT_DOES_NOT_EXIST : Exa Z h0 o_OBJECT_DOES_NOT_EXIST "com/example/delehat/delehat/protocols/epp/ResultCode") :
    MetFree l x (head1 (Jvm.Cond.code x code maxLocals ret :: ws) room_1) (fun a U => a = #[(.int i0)] ∧ Z.Warmed39 U.vm ∧ U.heap = h0) (fun _ _ _ _ _ => True) (fun _ U o U' => ∃ v L, o = .returned v ∧ (v = some (.int (1 : Int32)) ∧ Fr n0 L) ∧ FrameEnd U o U' L room_1.cells room_1.slots) := by
  refine MetFree.of_bodySF (plainFor_of_name pn_com_example_delehat_delehat_protocols_epp_PayloadOfPinLaw) hisR ?_
  intro p e s m args below meth c s₁ Bd hml0 hP hK
  obtain ⟨rfl, hZ, hh⟩ := hP
  have hx := Bd.exec
  have hby := Bd.bytes
  have hml : c.maxLocals = 3 := hml0
  have hown : s.vm.findClass "com/example/delehat/delehat/protocols/epp/PayloadOfPinLaw" = some m.cls := findClass_of_methodNamed Bd.named
  have hnm := (name_of_methodNamed Bd.named Bd.method).1
  have X0 : Stand p l e room_1 s m #[(.int i0)] below meth c s₁ [] 0 0 := Stand.of_body Bd
  have e0 : s₁.heap = h0 := by rw [← hh, Bd.state]; rfl
  have N0 := Fr.nil n0
  have pre0 : ∀ t, Steps p.tables e below (s₁.setTop (mkF m 0 #[.val (.int i0), .unset, .unset] [])) t → Steps p.tables e below (s₁.setTop (entryFrame m #[(.int i0)] maxLocals)) t := fun t k => castTop (ef0 m i0) k
  obtain ⟨_, _, ⟨T1, L1, k1, n1⟩, -, X1, ⟨Lc1, hQ1, l1, y1, z1⟩, st1⟩ := Jvm.LawKit.callS X0 hx (y := (⟨"com/example/delehat/delehat/protocols/epp/PayloadOfPinLaw", "pick", "(I)Lcom/example/delehat/delehat/protocols/epp/ResultCode;"⟩ : MethodName)) hown (mvT hZ (own_w1 hw)) (mvT hZ (own_w2 hw)) (mvT hZ (own_w3 hw)) (mvT hZ (own_w4 hw)) (by decide) (backOf (W := 0) (rmJ1 l Z a0 hw [] ((i0 &&& (2147483647 : Int32)) % (28 : Int32)) o_SUCCESS o_SUCCESS_PENDING o_SUCCESS_NO_MESSAGES o_SUCCESS_ACK_TO_DEQUEUE o_SUCCESS_ENDING_SESSION o_COMMAND_SYNTAX_ERROR o_COMMAND_USE_ERROR o_REQUIRED_PARAMETER_MISSING o_PARAMETER_VALUE_RANGE_ERROR o_PARAMETER_VALUE_SYNTAX_ERROR o_UNIMPLEMENTED_PROTOCOL_VERSION o_UNIMPLEMENTED_COMMAND o_UNIMPLEMENTED_OPTION o_UNIMPLEMENTED_EXTENSION o_OBJECT_NOT_ELIGIBLE_FOR_TRANSFER o_AUTHENTICATION_ERROR o_AUTHORIZATION_ERROR o_INVALID_AUTHORIZATION_INFORMATION o_OBJECT_PENDING_TRANSFER o_OBJECT_NOT_PENDING_TRANSFER o_OBJECT_EXISTS o_OBJECT_DOES_NOT_EXIST o_OBJECT_STATUS_PROHIBITS_OPERATION o_OBJECT_ASSOCIATION_PROHIBITS_OPERATION o_PARAMETER_VALUE_POLICY_ERROR o_UNIMPLEMENTED_OBJECT_SERVICE o_COMMAND_FAILED o_AUTHENTICATION_ERROR_CLOSING h0 n0 Z0 (own_en28 i0) S_o_SUCCESS S_o_SUCCESS_PENDING S_o_SUCCESS_NO_MESSAGES S_o_SUCCESS_ACK_TO_DEQUEUE S_o_SUCCESS_ENDING_SESSION S_o_COMMAND_SYNTAX_ERROR S_o_COMMAND_USE_ERROR S_o_REQUIRED_PARAMETER_MISSING S_o_PARAMETER_VALUE_RANGE_ERROR S_o_PARAMETER_VALUE_SYNTAX_ERROR S_o_UNIMPLEMENTED_PROTOCOL_VERSION S_o_UNIMPLEMENTED_COMMAND S_o_UNIMPLEMENTED_OPTION S_o_UNIMPLEMENTED_EXTENSION S_o_OBJECT_NOT_ELIGIBLE_FOR_TRANSFER S_o_AUTHENTICATION_ERROR S_o_AUTHORIZATION_ERROR S_o_INVALID_AUTHORIZATION_INFORMATION S_o_OBJECT_PENDING_TRANSFER S_o_OBJECT_NOT_PENDING_TRANSFER S_o_OBJECT_EXISTS S_o_OBJECT_DOES_NOT_EXIST S_o_OBJECT_STATUS_PROHIBITS_OPERATION S_o_OBJECT_ASSOCIATION_PROHIBITS_OPERATION S_o_PARAMETER_VALUE_POLICY_ERROR S_o_UNIMPLEMENTED_OBJECT_SERVICE S_o_COMMAND_FAILED S_o_AUTHENTICATION_ERROR_CLOSING) hZ (own_w4 hw) (own_w3 hw) (by decide) (by decide)) (g := (mkF m 7 #[.val (.int i0), .unset, .unset] [(.int ((i0 &&& (2147483647 : Int32)) % (28 : Int32)))])) rfl (by rw [hml]; rfl) (argsL := [(.int ((i0 &&& (2147483647 : Int32)) % (28 : Int32)))]) (rest := []) (lenOf pd__I_Lcom_example_delehat_delehat_protocols_epp_ResultCode_ rfl) rfl (by show 2 * 0 + _ ≤ _; exact Nat.le_of_eq rfl) (hb hby at_7) (fun _ _ => ⟨rfl, e0, (by decide : 0 + 0 ≤ _), (by decide : 0 + 0 ≤ _)⟩)
  dsimp only [Pt.U, Pt.locs, Pt.cells, Pt.slots] at X1 l1 y1 z1 st1 hQ1
  subst l1 y1 z1
  obtain ⟨r1, rfl, N1q, e1⟩ := hQ1
  have N1 := Fr.app N0 N1q
  obtain ⟨_, _, ⟨T2, L2, k2, n2⟩, -, X2, ⟨Lc2, hQ2, l2, y2, z2⟩, st2⟩ := Jvm.LawKit.callS X1 hx (y := (⟨"com/example/delehat/delehat/protocols/epp/Responses$Payload", "of", "(Lcom/example/delehat/delehat/protocols/epp/ResultCode;)Lcom/example/delehat/delehat/protocols/epp/Responses$Payload;"⟩ : MethodName)) hown (mvT hZ (own_w8 hw)) (mvT hZ (own_w9 hw)) (mvT hZ (own_w10 hw)) (mvT hZ (own_w11 hw)) (by decide) (backOf (W := 0) (rm2_31 l Z a0 hw [] r1 h0 n0 Z0 ) hZ (own_w11 hw) (own_w10 hw) (by decide) (by decide)) (g := (mkF m 12 #[.val (.int i0), .val (.ref r1), .unset] [(.ref r1)])) rfl (by rw [hml]; rfl) (argsL := [(.ref r1)]) (rest := []) (lenOf pd__Lcom_example_delehat_delehat_protocols_epp_ResultCode__Lcom_example_delehat_delehat_protocols_epp_Responses_Payload_ rfl) rfl (by show 2 * 0 + _ ≤ _; exact Nat.le_of_eq rfl) (hb hby at_12) (fun _ _ => ⟨rfl, e1, (by decide : 0 + 1 ≤ _), (by decide : 0 + 4 ≤ _)⟩)
  dsimp only [Pt.U, Pt.locs, Pt.cells, Pt.slots] at X2 l2 y2 z2 st2 hQ2
  subst l2 y2 z2
  obtain ⟨b2_0, rfl, N2q, K2, sq2_0, f2_0, f2_1, f2_2, f2_3, f2_4⟩ := hQ2
  have N2 := Fr.app N1 N2q
  have sz_b2_0 : h0.size ≤ b2_0 := sq2_0
  have sz0_b2_0 : h0.size ≤ b2_0 := sz_b2_0
  have g_b2_0 : n0 ≤ b2_0 := Nat.le_trans Z0 sz0_b2_0
  have KC3 : Keep h0 T2.heap [] := (Keep.refl h0 []).trans K2 all0
  obtain ⟨cq4, kq4, q4a, q4b, q4c⟩ := isOf hZ rfl f2_0
  obtain ⟨_, _, ⟨T4, L4, k4, n4⟩, -, X4, ⟨Lc4, hQ4, l4, y4, z4⟩, st4⟩ := X2.virtualBack hx (y := (⟨"com/example/delehat/delehat/protocols/epp/Responses$Payload", "code", "()Lcom/example/delehat/delehat/protocols/epp/ResultCode;"⟩ : MethodName)) (z := (⟨"com/example/delehat/delehat/protocols/epp/Responses$Payload", "code", "()Lcom/example/delehat/delehat/protocols/epp/ResultCode;"⟩ : MethodName)) hown (mvT hZ (own_w33 hw)) (mvT hZ (own_w34 hw)) (notFace_of_selects (args := #[]) (mvT hZ (own_w36 hw))) (mvT hZ (own_w36 hw)) (mvT hZ (own_w35 hw)) (by decide) (backOf (W := 0) (rm6_32 l Z a0 hw [] b2_0 r1 T2.heap n0 (Nat.le_trans Z0 KC3.1) f2_1) hZ (own_w37 hw) (own_w10 hw) (by decide) (by decide)) q4a q4c (g := (mkF m 21 #[.val (.int i0), .val (.ref r1), .val (.ref b2_0)] [(.ref b2_0)])) rfl (by rw [hml]; rfl) (Steps.refl _) (argsL := []) (rest := []) (lenOf pd___Lcom_example_delehat_delehat_protocols_epp_ResultCode_ rfl) rfl (by show 2 * 0 + _ ≤ _; exact Nat.le_of_eq rfl) (hb hby at_21) (fun _ _ => ⟨rfl, rfl, (by decide : 1 + 0 ≤ _), (by decide : 4 + 0 ≤ _)⟩)
  dsimp only [Pt.U, Pt.locs, Pt.cells, Pt.slots] at X4 l4 y4 z4 st4 hQ4
  subst l4 y4 z4
  obtain ⟨rfl, N4q, e4⟩ := hQ4
  have N4 := Fr.app N2 N4q
  obtain ⟨cq5, kq5, q5a, q5b, q5c⟩ := isOf hZ e4 f2_0
  obtain ⟨_, _, ⟨T5, L5, k5, n5⟩, -, X5, ⟨Lc5, hQ5, l5, y5, z5⟩, st5⟩ := X4.virtualBack hx (y := (⟨"com/example/delehat/delehat/protocols/epp/Responses$Payload", "msgQ", "()Lcom/example/delehat/delehat/protocols/epp/Responses$ElementWriter;"⟩ : MethodName)) (z := (⟨"com/example/delehat/delehat/protocols/epp/Responses$Payload", "msgQ", "()Lcom/example/delehat/delehat/protocols/epp/Responses$ElementWriter;"⟩ : MethodName)) hown (mvT hZ (own_w38 hw)) (mvT hZ (own_w39 hw)) (notFace_of_selects (args := #[]) (mvT hZ (own_w41 hw))) (mvT hZ (own_w41 hw)) (mvT hZ (own_w40 hw)) (by decide) (backOf (W := 0) (rm7_33 l Z a0 hw [] b2_0 T2.heap n0 (Nat.le_trans Z0 KC3.1) f2_2) hZ (own_w42 hw) (own_w10 hw) (by decide) (by decide)) q5a q5c (g := (mkF m 29 #[.val (.int i0), .val (.ref r1), .val (.ref b2_0)] [(.ref b2_0)])) rfl (by rw [hml]; rfl) (Steps.refl _) (argsL := []) (rest := []) (lenOf pd___Lcom_example_delehat_delehat_protocols_epp_Responses_ElementWriter_ rfl) rfl (by show 2 * 0 + _ ≤ _; exact Nat.le_of_eq rfl) (hb hby at_29) (fun _ _ => ⟨rfl, e4, (by decide : 1 + 0 ≤ _), (by decide : 4 + 0 ≤ _)⟩)
  dsimp only [Pt.U, Pt.locs, Pt.cells, Pt.slots] at X5 l5 y5 z5 st5 hQ5
  subst l5 y5 z5
  obtain ⟨rfl, N5q, e5⟩ := hQ5
  have N5 := Fr.app N4 N5q
  obtain ⟨cq6, kq6, q6a, q6b, q6c⟩ := isOf hZ e5 f2_0
  obtain ⟨_, _, ⟨T6, L6, k6, n6⟩, -, X6, ⟨Lc6, hQ6, l6, y6, z6⟩, st6⟩ := X5.virtualBack hx (y := (⟨"com/example/delehat/delehat/protocols/epp/Responses$Payload", "resData", "()Lcom/example/delehat/delehat/protocols/epp/Responses$ElementWriter;"⟩ : MethodName)) (z := (⟨"com/example/delehat/delehat/protocols/epp/Responses$Payload", "resData", "()Lcom/example/delehat/delehat/protocols/epp/Responses$ElementWriter;"⟩ : MethodName)) hown (mvT hZ (own_w43 hw)) (mvT hZ (own_w44 hw)) (notFace_of_selects (args := #[]) (mvT hZ (own_w46 hw))) (mvT hZ (own_w46 hw)) (mvT hZ (own_w45 hw)) (by decide) (backOf (W := 0) (rm8_34 l Z a0 hw [] b2_0 T2.heap n0 (Nat.le_trans Z0 KC3.1) f2_3) hZ (own_w47 hw) (own_w10 hw) (by decide) (by decide)) q6a q6c (g := (mkF m 36 #[.val (.int i0), .val (.ref r1), .val (.ref b2_0)] [(.ref b2_0)])) rfl (by rw [hml]; rfl) (Steps.refl _) (argsL := []) (rest := []) (lenOf pd___Lcom_example_delehat_delehat_protocols_epp_Responses_ElementWriter_ rfl) rfl (by show 2 * 0 + _ ≤ _; exact Nat.le_of_eq rfl) (hb hby at_36) (fun _ _ => ⟨rfl, e5, (by decide : 1 + 0 ≤ _), (by decide : 4 + 0 ≤ _)⟩)
  dsimp only [Pt.U, Pt.locs, Pt.cells, Pt.slots] at X6 l6 y6 z6 st6 hQ6
  subst l6 y6 z6
  obtain ⟨rfl, N6q, e6⟩ := hQ6
  have N6 := Fr.app N5 N6q
  obtain ⟨cq7, kq7, q7a, q7b, q7c⟩ := isOf hZ e6 f2_0
  obtain ⟨_, _, ⟨T7, L7, k7, n7⟩, -, X7, ⟨Lc7, hQ7, l7, y7, z7⟩, st7⟩ := X6.virtualBack hx (y := (⟨"com/example/delehat/delehat/protocols/epp/Responses$Payload", "extension", "()Lcom/example/delehat/delehat/protocols/epp/Responses$ElementWriter;"⟩ : MethodName)) (z := (⟨"com/example/delehat/delehat/protocols/epp/Responses$Payload", "extension", "()Lcom/example/delehat/delehat/protocols/epp/Responses$ElementWriter;"⟩ : MethodName)) hown (mvT hZ (own_w48 hw)) (mvT hZ (own_w49 hw)) (notFace_of_selects (args := #[]) (mvT hZ (own_w51 hw))) (mvT hZ (own_w51 hw)) (mvT hZ (own_w50 hw)) (by decide) (backOf (W := 0) (rm9_35 l Z a0 hw [] b2_0 T2.heap n0 (Nat.le_trans Z0 KC3.1) f2_4) hZ (own_w52 hw) (own_w10 hw) (by decide) (by decide)) q7a q7c (g := (mkF m 43 #[.val (.int i0), .val (.ref r1), .val (.ref b2_0)] [(.ref b2_0)])) rfl (by rw [hml]; rfl) (Steps.refl _) (argsL := []) (rest := []) (lenOf pd___Lcom_example_delehat_delehat_protocols_epp_Responses_ElementWriter_ rfl) rfl (by show 2 * 0 + _ ≤ _; exact Nat.le_of_eq rfl) (hb hby at_43) (fun _ _ => ⟨rfl, e6, (by decide : 1 + 0 ≤ _), (by decide : 4 + 0 ≤ _)⟩)
  dsimp only [Pt.U, Pt.locs, Pt.cells, Pt.slots] at X7 l7 y7 z7 st7 hQ7
  subst l7 y7 z7
  obtain ⟨rfl, N7q, e7⟩ := hQ7
  have N7 := Fr.app N6 N7q
  obtain ⟨fs, hr, hrun, hended, hW, hsame⟩ := X7.leave (v := some (.int (1 : Int32))) (fun h => by rw [Bd.returns] at h; cases h)
  refine ⟨_, _, pre0 _ ?_, hrun, hended, _, _, rfl, ⟨rfl, N7⟩, ⟨_, rfl⟩, hW, hsame.mono (by decide) (by decide)⟩
  show Steps p.tables e below (s₁.setTop (mkF m 0 #[.val (.int i0), .unset, .unset] [])) _
  refine XS.iloadN X0.here hx rfl (hb hby at_0) rfl ?_
  show Steps p.tables e below (s₁.setTop (mkF m 1 #[.val (.int i0), .unset, .unset] [(.int i0)])) _
  refine X0.ldcInt hx hown (mvT hZ (own_w0 hw)) (g := (mkF m 1 #[.val (.int i0), .unset, .unset] [(.int i0)])) rfl (hb hby at_1) _ ?_
  show Steps p.tables e below (s₁.setTop (mkF m 3 #[.val (.int i0), .unset, .unset] [(.int (2147483647 : Int32)), (.int i0)])) _
  refine XS.iand X0.here hx rfl (hb hby at_3) rfl ?_
  show Steps p.tables e below (s₁.setTop (mkF m 4 #[.val (.int i0), .unset, .unset] [(.int (i0 &&& (2147483647 : Int32)))])) _
  refine XS.bipush X0.here hx rfl (hb hby at_4) ?_
  show Steps p.tables e below (s₁.setTop (mkF m 6 #[.val (.int i0), .unset, .unset] [(.int (28 : Int32)), (.int (i0 &&& (2147483647 : Int32)))])) _
  refine iremM X0 hx rfl (hb hby at_6) rfl (by decide) ?_
  show Steps p.tables e below (s₁.setTop (mkF m 7 #[.val (.int i0), .unset, .unset] [(.int ((i0 &&& (2147483647 : Int32)) % (28 : Int32)))])) _
  refine st1 _ ?_
  show Steps p.tables e below (T1.setTop (mkF m 10 #[.val (.int i0), .unset, .unset] [(.ref r1)])) _
  refine XS.astoreN X1.here hx rfl (hb hby at_10) rfl rfl (l' := #[.val (.int i0), .val (.ref r1), .unset]) rfl ?_
  show Steps p.tables e below (T1.setTop (mkF m 11 #[.val (.int i0), .val (.ref r1), .unset] [])) _
  refine XS.aloadN X1.here hx rfl (hb hby at_11) rfl rfl ?_
  show Steps p.tables e below (T1.setTop (mkF m 12 #[.val (.int i0), .val (.ref r1), .unset] [(.ref r1)])) _
  refine st2 _ ?_
  show Steps p.tables e below (T2.setTop (mkF m 15 #[.val (.int i0), .val (.ref r1), .unset] [(.ref b2_0)])) _
  refine XS.astoreN X2.here hx rfl (hb hby at_15) rfl rfl (l' := #[.val (.int i0), .val (.ref r1), .val (.ref b2_0)]) rfl ?_
  show Steps p.tables e below (T2.setTop (mkF m 16 #[.val (.int i0), .val (.ref r1), .val (.ref b2_0)] [])) _
  refine XS.aloadN X2.here hx rfl (hb hby at_16) rfl rfl ?_
  show Steps p.tables e below (T2.setTop (mkF m 17 #[.val (.int i0), .val (.ref r1), .val (.ref b2_0)] [(.ref b2_0)])) _
  refine XS.ifnullNo X2.here hx rfl (hb hby at_17) rfl ?_
  show Steps p.tables e below (T2.setTop (mkF m 20 #[.val (.int i0), .val (.ref r1), .val (.ref b2_0)] [])) _
  refine XS.aloadN X2.here hx rfl (hb hby at_20) rfl rfl ?_
  show Steps p.tables e below (T2.setTop (mkF m 21 #[.val (.int i0), .val (.ref r1), .val (.ref b2_0)] [(.ref b2_0)])) _
  refine st4.trans ?_
  show Steps p.tables e below (T4.setTop (mkF m 24 #[.val (.int i0), .val (.ref r1), .val (.ref b2_0)] [(.ref r1)])) _
  refine XS.aloadN X4.here hx rfl (hb hby at_24) rfl rfl ?_
  show Steps p.tables e below (T4.setTop (mkF m 25 #[.val (.int i0), .val (.ref r1), .val (.ref b2_0)] [(.ref r1), (.ref r1)])) _
  refine Jvm.RoadKit.acmp (g := (mkF m 25 #[.val (.int i0), .val (.ref r1), .val (.ref b2_0)] [(.ref r1), (.ref r1)])) X4 hx rfl rfl rfl (pc0 := 25) (pc' := 28) (same := true) rfl (hb hby at_25) rfl (decide_eq_true rfl) (by decide) (by decide) ?_
  show Steps p.tables e below (T4.setTop (mkF m 28 #[.val (.int i0), .val (.ref r1), .val (.ref b2_0)] [])) _
  refine XS.aloadN X4.here hx rfl (hb hby at_28) rfl rfl ?_
  show Steps p.tables e below (T4.setTop (mkF m 29 #[.val (.int i0), .val (.ref r1), .val (.ref b2_0)] [(.ref b2_0)])) _
  refine st5.trans ?_
  show Steps p.tables e below (T5.setTop (mkF m 32 #[.val (.int i0), .val (.ref r1), .val (.ref b2_0)] [.null])) _
  refine XS.ifnonnullNo X5.here hx rfl (hb hby at_32) rfl ?_
  show Steps p.tables e below (T5.setTop (mkF m 35 #[.val (.int i0), .val (.ref r1), .val (.ref b2_0)] [])) _
  refine XS.aloadN X5.here hx rfl (hb hby at_35) rfl rfl ?_
  show Steps p.tables e below (T5.setTop (mkF m 36 #[.val (.int i0), .val (.ref r1), .val (.ref b2_0)] [(.ref b2_0)])) _
  refine st6.trans ?_
  show Steps p.tables e below (T6.setTop (mkF m 39 #[.val (.int i0), .val (.ref r1), .val (.ref b2_0)] [.null])) _
  refine XS.ifnonnullNo X6.here hx rfl (hb hby at_39) rfl ?_
  show Steps p.tables e below (T6.setTop (mkF m 42 #[.val (.int i0), .val (.ref r1), .val (.ref b2_0)] [])) _
  refine XS.aloadN X6.here hx rfl (hb hby at_42) rfl rfl ?_
  show Steps p.tables e below (T6.setTop (mkF m 43 #[.val (.int i0), .val (.ref r1), .val (.ref b2_0)] [(.ref b2_0)])) _
  refine st7.trans ?_
  show Steps p.tables e below (T7.setTop (mkF m 46 #[.val (.int i0), .val (.ref r1), .val (.ref b2_0)] [.null])) _
  refine XS.ifnonnullNo X7.here hx rfl (hb hby at_46) rfl ?_
  show Steps p.tables e below (T7.setTop (mkF m 49 #[.val (.int i0), .val (.ref r1), .val (.ref b2_0)] [])) _
  refine XS.iconst X7.here hx rfl (hb hby at_49) ?_
  show Steps p.tables e below (T7.setTop (mkF m 50 #[.val (.int i0), .val (.ref r1), .val (.ref b2_0)] [(.int (1 : Int32))])) _
  refine XS.goto X7.here hx rfl (pc0 := 50) (pc' := 54) rfl (hb hby at_50) (by decide) (by decide) ?_
  show Steps p.tables e below (T7.setTop (mkF m 54 #[.val (.int i0), .val (.ref r1), .val (.ref b2_0)] [(.int (1 : Int32))])) _
  exact retN X7 hx (t := .boolean) Bd.returns (by simp) (hb hby at_54) hr
set_option maxRecDepth 65536 in
set_option maxHeartbeats 40000000 in
theorem comes_1 {Post : Tables → Env → Array Value → State → Outcome → State → Prop} (hpost : ∀ tb e args s v u, (limb_1_1.after args s (.returned v) u = true ∧ limb_1_2.after args s (.returned v) u = true ∧ True) → FrameEnd s (.returned v) u (Jvm.fieldLocs frame_1_writes args s ++ Jvm.arrayLocs frame_1_arrays args s ++ Jvm.staticLocs frame_1_statics s) 16 128 → Post tb e args s (.returned v) u) :
    ArmFor flags0 classFile x code maxLocals ret World_1 tables_1 room_1 Calls_1 rest_1 Pre_1 Post := by
  intro l hfl _ _ p e ha hc hk s m args below hf hA hF happ hP
  obtain ⟨hcalls, hrest, hpre⟩ := hP
  obtain ⟨-, -, -, hnamed, -, -, -, hat⟩ := (Spec.applies_iff hf).mp happ
  obtain ⟨hg, hn⟩ := and_e (Cond.before_iff.mp (show (Jvm.Cond.and given_1 narrow_1).before args s = true from hpre))
  obtain ⟨hg_1a, hg_1b⟩ := and_e hg
  obtain ⟨w0, rfl⟩ : ∃ w0 : Value, args = #[w0] := by
    have hs : args.size = 1 := by simpa [Cond.value, given_1] using hg_1a
    obtain ⟨L⟩ := args
    match L, hs with
    | [w0], _ => exact ⟨w0, rfl⟩
  have hw := fun d (hd : d ∈ tables_1) => atoms_spec (ws := Jvm.Cond.code x code maxLocals ret :: tables_1) hat d (List.mem_cons_of_mem _ hd)
  have hfit : Fit s := fun {y c} hc i hi => by
    obtain ⟨ha, rfl⟩ := Array.getElem?_eq_some_iff.mp hc
    have q := List.all_eq_true.mp ((Array.all_eq_true_iff_forall_mem.mp hF) _ (Array.getElem_mem ha)) i (List.mem_range.mpr hi)
    simpa [Array.getElem?_eq_getElem hi] using q
  obtain ⟨i0, ei0⟩ := is_v hg_1b
  obtain rfl : w0 = (.int i0) := Option.some.inj ei0
  obtain ⟨hn_1a, hn_1b⟩ := and_e hn
  obtain ⟨hn_2a, hn_2b⟩ := and_e hn_1b
  obtain ⟨hn_3a, hn_3b⟩ := and_e hn_2b
  obtain ⟨hn_4a, hn_4b⟩ := and_e hn_3b
  obtain ⟨hn_5a, hn_5b⟩ := and_e hn_4b
  obtain ⟨hn_6a, hn_6b⟩ := and_e hn_5b
  obtain ⟨hn_7a, hn_7b⟩ := and_e hn_6b
  obtain ⟨hn_8a, hn_8b⟩ := and_e hn_7b
  obtain ⟨hn_9a, hn_9b⟩ := and_e hn_8b
  obtain ⟨hn_10a, hn_10b⟩ := and_e hn_9b
  obtain ⟨hn_11a, hn_11b⟩ := and_e hn_10b
  obtain ⟨hn_12a, hn_12b⟩ := and_e hn_11b
  obtain ⟨hn_13a, hn_13b⟩ := and_e hn_12b
  obtain ⟨hn_14a, hn_14b⟩ := and_e hn_13b
  obtain ⟨hn_15a, hn_15b⟩ := and_e hn_14b
  obtain ⟨hn_16a, hn_16b⟩ := and_e hn_15b
  obtain ⟨hn_17a, hn_17b⟩ := and_e hn_16b
  obtain ⟨hn_18a, hn_18b⟩ := and_e hn_17b
  obtain ⟨hn_19a, hn_19b⟩ := and_e hn_18b
  obtain ⟨hn_20a, hn_20b⟩ := and_e hn_19b
  obtain ⟨hn_21a, hn_21b⟩ := and_e hn_20b
  obtain ⟨hn_22a, hn_22b⟩ := and_e hn_21b
  obtain ⟨hn_23a, hn_23b⟩ := and_e hn_22b
  obtain ⟨hn_24a, hn_24b⟩ := and_e hn_23b
  obtain ⟨hn_25a, hn_25b⟩ := and_e hn_24b
  obtain ⟨hn_26a, hn_26b⟩ := and_e hn_25b
  obtain ⟨hn_27a, hn_27b⟩ := and_e hn_26b
  obtain ⟨o_SUCCESS, ev_o_SUCCESS⟩ := exa_v hn_1a
  have S_o_SUCCESS := Sta.start ev_o_SUCCESS (Or.inr ⟨(own_w6 hw), (own_w7 hw)⟩)
  have E_o_SUCCESS := Exa.start ev_o_SUCCESS hn_1a
  obtain ⟨o_SUCCESS_ACK_TO_DEQUEUE, ev_o_SUCCESS_ACK_TO_DEQUEUE⟩ := exa_v hn_2a
  have S_o_SUCCESS_ACK_TO_DEQUEUE := Sta.start ev_o_SUCCESS_ACK_TO_DEQUEUE (Or.inr ⟨(own_w6 hw), (own_w54 hw)⟩)
  have E_o_SUCCESS_ACK_TO_DEQUEUE := Exa.start ev_o_SUCCESS_ACK_TO_DEQUEUE hn_2a
  obtain ⟨o_COMMAND_FAILED, ev_o_COMMAND_FAILED⟩ := exa_v hn_3a
  have S_o_COMMAND_FAILED := Sta.start ev_o_COMMAND_FAILED (Or.inr ⟨(own_w6 hw), (own_w56 hw)⟩)
  have E_o_COMMAND_FAILED := Exa.start ev_o_COMMAND_FAILED hn_3a
  obtain ⟨o_AUTHENTICATION_ERROR_CLOSING, ev_o_AUTHENTICATION_ERROR_CLOSING⟩ := exa_v hn_4a
  have S_o_AUTHENTICATION_ERROR_CLOSING := Sta.start ev_o_AUTHENTICATION_ERROR_CLOSING (Or.inr ⟨(own_w6 hw), (own_w58 hw)⟩)
  have E_o_AUTHENTICATION_ERROR_CLOSING := Exa.start ev_o_AUTHENTICATION_ERROR_CLOSING hn_4a
  obtain ⟨o_OBJECT_PENDING_TRANSFER, ev_o_OBJECT_PENDING_TRANSFER⟩ := exa_v hn_5a
  have S_o_OBJECT_PENDING_TRANSFER := Sta.start ev_o_OBJECT_PENDING_TRANSFER (Or.inr ⟨(own_w6 hw), (own_w60 hw)⟩)
  have E_o_OBJECT_PENDING_TRANSFER := Exa.start ev_o_OBJECT_PENDING_TRANSFER hn_5a
  obtain ⟨o_REQUIRED_PARAMETER_MISSING, ev_o_REQUIRED_PARAMETER_MISSING⟩ := exa_v hn_6a
  have S_o_REQUIRED_PARAMETER_MISSING := Sta.start ev_o_REQUIRED_PARAMETER_MISSING (Or.inr ⟨(own_w6 hw), (own_w62 hw)⟩)
  have E_o_REQUIRED_PARAMETER_MISSING := Exa.start ev_o_REQUIRED_PARAMETER_MISSING hn_6a
  obtain ⟨o_SUCCESS_NO_MESSAGES, ev_o_SUCCESS_NO_MESSAGES⟩ := exa_v hn_7a
  have S_o_SUCCESS_NO_MESSAGES := Sta.start ev_o_SUCCESS_NO_MESSAGES (Or.inr ⟨(own_w6 hw), (own_w64 hw)⟩)
  have E_o_SUCCESS_NO_MESSAGES := Exa.start ev_o_SUCCESS_NO_MESSAGES hn_7a
  obtain ⟨o_UNIMPLEMENTED_COMMAND, ev_o_UNIMPLEMENTED_COMMAND⟩ := exa_v hn_8a
  have S_o_UNIMPLEMENTED_COMMAND := Sta.start ev_o_UNIMPLEMENTED_COMMAND (Or.inr ⟨(own_w6 hw), (own_w66 hw)⟩)
  have E_o_UNIMPLEMENTED_COMMAND := Exa.start ev_o_UNIMPLEMENTED_COMMAND hn_8a
  obtain ⟨o_PARAMETER_VALUE_POLICY_ERROR, ev_o_PARAMETER_VALUE_POLICY_ERROR⟩ := exa_v hn_9a
  have S_o_PARAMETER_VALUE_POLICY_ERROR := Sta.start ev_o_PARAMETER_VALUE_POLICY_ERROR (Or.inr ⟨(own_w6 hw), (own_w68 hw)⟩)
  have E_o_PARAMETER_VALUE_POLICY_ERROR := Exa.start ev_o_PARAMETER_VALUE_POLICY_ERROR hn_9a
  obtain ⟨o_PARAMETER_VALUE_RANGE_ERROR, ev_o_PARAMETER_VALUE_RANGE_ERROR⟩ := exa_v hn_10a
  have S_o_PARAMETER_VALUE_RANGE_ERROR := Sta.start ev_o_PARAMETER_VALUE_RANGE_ERROR (Or.inr ⟨(own_w6 hw), (own_w70 hw)⟩)
  have E_o_PARAMETER_VALUE_RANGE_ERROR := Exa.start ev_o_PARAMETER_VALUE_RANGE_ERROR hn_10a
  obtain ⟨o_SUCCESS_PENDING, ev_o_SUCCESS_PENDING⟩ := exa_v hn_11a
  have S_o_SUCCESS_PENDING := Sta.start ev_o_SUCCESS_PENDING (Or.inr ⟨(own_w6 hw), (own_w72 hw)⟩)
  have E_o_SUCCESS_PENDING := Exa.start ev_o_SUCCESS_PENDING hn_11a
  obtain ⟨o_UNIMPLEMENTED_PROTOCOL_VERSION, ev_o_UNIMPLEMENTED_PROTOCOL_VERSION⟩ := exa_v hn_12a
  have S_o_UNIMPLEMENTED_PROTOCOL_VERSION := Sta.start ev_o_UNIMPLEMENTED_PROTOCOL_VERSION (Or.inr ⟨(own_w6 hw), (own_w74 hw)⟩)
  have E_o_UNIMPLEMENTED_PROTOCOL_VERSION := Exa.start ev_o_UNIMPLEMENTED_PROTOCOL_VERSION hn_12a
  obtain ⟨o_PARAMETER_VALUE_SYNTAX_ERROR, ev_o_PARAMETER_VALUE_SYNTAX_ERROR⟩ := exa_v hn_13a
  have S_o_PARAMETER_VALUE_SYNTAX_ERROR := Sta.start ev_o_PARAMETER_VALUE_SYNTAX_ERROR (Or.inr ⟨(own_w6 hw), (own_w76 hw)⟩)
  have E_o_PARAMETER_VALUE_SYNTAX_ERROR := Exa.start ev_o_PARAMETER_VALUE_SYNTAX_ERROR hn_13a
  obtain ⟨o_OBJECT_NOT_PENDING_TRANSFER, ev_o_OBJECT_NOT_PENDING_TRANSFER⟩ := exa_v hn_14a
  have S_o_OBJECT_NOT_PENDING_TRANSFER := Sta.start ev_o_OBJECT_NOT_PENDING_TRANSFER (Or.inr ⟨(own_w6 hw), (own_w78 hw)⟩)
  have E_o_OBJECT_NOT_PENDING_TRANSFER := Exa.start ev_o_OBJECT_NOT_PENDING_TRANSFER hn_14a
  obtain ⟨o_AUTHORIZATION_ERROR, ev_o_AUTHORIZATION_ERROR⟩ := exa_v hn_15a
  have S_o_AUTHORIZATION_ERROR := Sta.start ev_o_AUTHORIZATION_ERROR (Or.inr ⟨(own_w6 hw), (own_w80 hw)⟩)
  have E_o_AUTHORIZATION_ERROR := Exa.start ev_o_AUTHORIZATION_ERROR hn_15a
  obtain ⟨o_AUTHENTICATION_ERROR, ev_o_AUTHENTICATION_ERROR⟩ := exa_v hn_16a
  have S_o_AUTHENTICATION_ERROR := Sta.start ev_o_AUTHENTICATION_ERROR (Or.inr ⟨(own_w6 hw), (own_w82 hw)⟩)
  have E_o_AUTHENTICATION_ERROR := Exa.start ev_o_AUTHENTICATION_ERROR hn_16a
  obtain ⟨o_COMMAND_USE_ERROR, ev_o_COMMAND_USE_ERROR⟩ := exa_v hn_17a
  have S_o_COMMAND_USE_ERROR := Sta.start ev_o_COMMAND_USE_ERROR (Or.inr ⟨(own_w6 hw), (own_w84 hw)⟩)
  have E_o_COMMAND_USE_ERROR := Exa.start ev_o_COMMAND_USE_ERROR hn_17a
  obtain ⟨o_OBJECT_EXISTS, ev_o_OBJECT_EXISTS⟩ := exa_v hn_18a
  have S_o_OBJECT_EXISTS := Sta.start ev_o_OBJECT_EXISTS (Or.inr ⟨(own_w6 hw), (own_w86 hw)⟩)
  have E_o_OBJECT_EXISTS := Exa.start ev_o_OBJECT_EXISTS hn_18a
  obtain ⟨o_OBJECT_ASSOCIATION_PROHIBITS_OPERATION, ev_o_OBJECT_ASSOCIATION_PROHIBITS_OPERATION⟩ := exa_v hn_19a
  have S_o_OBJECT_ASSOCIATION_PROHIBITS_OPERATION := Sta.start ev_o_OBJECT_ASSOCIATION_PROHIBITS_OPERATION (Or.inr ⟨(own_w6 hw), (own_w88 hw)⟩)
  have E_o_OBJECT_ASSOCIATION_PROHIBITS_OPERATION := Exa.start ev_o_OBJECT_ASSOCIATION_PROHIBITS_OPERATION hn_19a
  obtain ⟨o_UNIMPLEMENTED_EXTENSION, ev_o_UNIMPLEMENTED_EXTENSION⟩ := exa_v hn_20a
  have S_o_UNIMPLEMENTED_EXTENSION := Sta.start ev_o_UNIMPLEMENTED_EXTENSION (Or.inr ⟨(own_w6 hw), (own_w90 hw)⟩)
  have E_o_UNIMPLEMENTED_EXTENSION := Exa.start ev_o_UNIMPLEMENTED_EXTENSION hn_20a
  obtain ⟨o_SUCCESS_ENDING_SESSION, ev_o_SUCCESS_ENDING_SESSION⟩ := exa_v hn_21a
  have S_o_SUCCESS_ENDING_SESSION := Sta.start ev_o_SUCCESS_ENDING_SESSION (Or.inr ⟨(own_w6 hw), (own_w92 hw)⟩)
  have E_o_SUCCESS_ENDING_SESSION := Exa.start ev_o_SUCCESS_ENDING_SESSION hn_21a
  obtain ⟨o_OBJECT_STATUS_PROHIBITS_OPERATION, ev_o_OBJECT_STATUS_PROHIBITS_OPERATION⟩ := exa_v hn_22a
  have S_o_OBJECT_STATUS_PROHIBITS_OPERATION := Sta.start ev_o_OBJECT_STATUS_PROHIBITS_OPERATION (Or.inr ⟨(own_w6 hw), (own_w94 hw)⟩)
  have E_o_OBJECT_STATUS_PROHIBITS_OPERATION := Exa.start ev_o_OBJECT_STATUS_PROHIBITS_OPERATION hn_22a
  obtain ⟨o_INVALID_AUTHORIZATION_INFORMATION, ev_o_INVALID_AUTHORIZATION_INFORMATION⟩ := exa_v hn_23a
  have S_o_INVALID_AUTHORIZATION_INFORMATION := Sta.start ev_o_INVALID_AUTHORIZATION_INFORMATION (Or.inr ⟨(own_w6 hw), (own_w96 hw)⟩)
  have E_o_INVALID_AUTHORIZATION_INFORMATION := Exa.start ev_o_INVALID_AUTHORIZATION_INFORMATION hn_23a
  obtain ⟨o_OBJECT_NOT_ELIGIBLE_FOR_TRANSFER, ev_o_OBJECT_NOT_ELIGIBLE_FOR_TRANSFER⟩ := exa_v hn_24a
  have S_o_OBJECT_NOT_ELIGIBLE_FOR_TRANSFER := Sta.start ev_o_OBJECT_NOT_ELIGIBLE_FOR_TRANSFER (Or.inr ⟨(own_w6 hw), (own_w98 hw)⟩)
  have E_o_OBJECT_NOT_ELIGIBLE_FOR_TRANSFER := Exa.start ev_o_OBJECT_NOT_ELIGIBLE_FOR_TRANSFER hn_24a
  obtain ⟨o_COMMAND_SYNTAX_ERROR, ev_o_COMMAND_SYNTAX_ERROR⟩ := exa_v hn_25a
  have S_o_COMMAND_SYNTAX_ERROR := Sta.start ev_o_COMMAND_SYNTAX_ERROR (Or.inr ⟨(own_w6 hw), (own_w100 hw)⟩)
  have E_o_COMMAND_SYNTAX_ERROR := Exa.start ev_o_COMMAND_SYNTAX_ERROR hn_25a
  obtain ⟨o_UNIMPLEMENTED_OPTION, ev_o_UNIMPLEMENTED_OPTION⟩ := exa_v hn_26a
  have S_o_UNIMPLEMENTED_OPTION := Sta.start ev_o_UNIMPLEMENTED_OPTION (Or.inr ⟨(own_w6 hw), (own_w102 hw)⟩)
  have E_o_UNIMPLEMENTED_OPTION := Exa.start ev_o_UNIMPLEMENTED_OPTION hn_26a
  obtain ⟨o_UNIMPLEMENTED_OBJECT_SERVICE, ev_o_UNIMPLEMENTED_OBJECT_SERVICE⟩ := exa_v hn_27a
  have S_o_UNIMPLEMENTED_OBJECT_SERVICE := Sta.start ev_o_UNIMPLEMENTED_OBJECT_SERVICE (Or.inr ⟨(own_w6 hw), (own_w104 hw)⟩)
  have E_o_UNIMPLEMENTED_OBJECT_SERVICE := Exa.start ev_o_UNIMPLEMENTED_OBJECT_SERVICE hn_27a
  obtain ⟨o_OBJECT_DOES_NOT_EXIST, ev_o_OBJECT_DOES_NOT_EXIST⟩ := exa_v hn_27b
  have S_o_OBJECT_DOES_NOT_EXIST := Sta.start ev_o_OBJECT_DOES_NOT_EXIST (Or.inr ⟨(own_w6 hw), (own_w106 hw)⟩)
  have E_o_OBJECT_DOES_NOT_EXIST := Exa.start ev_o_OBJECT_DOES_NOT_EXIST hn_27b
  obtain ⟨n, o, h1, h2, h3, _, L, rfl, ⟨rfl, N⟩, hq⟩ := rm0 l s _ hw tables_1 i0 o_SUCCESS o_SUCCESS_ACK_TO_DEQUEUE o_COMMAND_FAILED o_AUTHENTICATION_ERROR_CLOSING o_OBJECT_PENDING_TRANSFER o_REQUIRED_PARAMETER_MISSING o_SUCCESS_NO_MESSAGES o_UNIMPLEMENTED_COMMAND o_PARAMETER_VALUE_POLICY_ERROR o_PARAMETER_VALUE_RANGE_ERROR o_SUCCESS_PENDING o_UNIMPLEMENTED_PROTOCOL_VERSION o_PARAMETER_VALUE_SYNTAX_ERROR o_OBJECT_NOT_PENDING_TRANSFER o_AUTHORIZATION_ERROR o_AUTHENTICATION_ERROR o_COMMAND_USE_ERROR o_OBJECT_EXISTS o_OBJECT_ASSOCIATION_PROHIBITS_OPERATION o_UNIMPLEMENTED_EXTENSION o_SUCCESS_ENDING_SESSION o_OBJECT_STATUS_PROHIBITS_OPERATION o_INVALID_AUTHORIZATION_INFORMATION o_OBJECT_NOT_ELIGIBLE_FOR_TRANSFER o_COMMAND_SYNTAX_ERROR o_UNIMPLEMENTED_OPTION o_UNIMPLEMENTED_OBJECT_SERVICE o_OBJECT_DOES_NOT_EXIST s.heap s.heap.size (Nat.le_refl _) S_o_SUCCESS E_o_SUCCESS S_o_SUCCESS_ACK_TO_DEQUEUE E_o_SUCCESS_ACK_TO_DEQUEUE S_o_COMMAND_FAILED E_o_COMMAND_FAILED S_o_AUTHENTICATION_ERROR_CLOSING E_o_AUTHENTICATION_ERROR_CLOSING S_o_OBJECT_PENDING_TRANSFER E_o_OBJECT_PENDING_TRANSFER S_o_REQUIRED_PARAMETER_MISSING E_o_REQUIRED_PARAMETER_MISSING S_o_SUCCESS_NO_MESSAGES E_o_SUCCESS_NO_MESSAGES S_o_UNIMPLEMENTED_COMMAND E_o_UNIMPLEMENTED_COMMAND S_o_PARAMETER_VALUE_POLICY_ERROR E_o_PARAMETER_VALUE_POLICY_ERROR S_o_PARAMETER_VALUE_RANGE_ERROR E_o_PARAMETER_VALUE_RANGE_ERROR S_o_SUCCESS_PENDING E_o_SUCCESS_PENDING S_o_UNIMPLEMENTED_PROTOCOL_VERSION E_o_UNIMPLEMENTED_PROTOCOL_VERSION S_o_PARAMETER_VALUE_SYNTAX_ERROR E_o_PARAMETER_VALUE_SYNTAX_ERROR S_o_OBJECT_NOT_PENDING_TRANSFER E_o_OBJECT_NOT_PENDING_TRANSFER S_o_AUTHORIZATION_ERROR E_o_AUTHORIZATION_ERROR S_o_AUTHENTICATION_ERROR E_o_AUTHENTICATION_ERROR S_o_COMMAND_USE_ERROR E_o_COMMAND_USE_ERROR S_o_OBJECT_EXISTS E_o_OBJECT_EXISTS S_o_OBJECT_ASSOCIATION_PROHIBITS_OPERATION E_o_OBJECT_ASSOCIATION_PROHIBITS_OPERATION S_o_UNIMPLEMENTED_EXTENSION E_o_UNIMPLEMENTED_EXTENSION S_o_SUCCESS_ENDING_SESSION E_o_SUCCESS_ENDING_SESSION S_o_OBJECT_STATUS_PROHIBITS_OPERATION E_o_OBJECT_STATUS_PROHIBITS_OPERATION S_o_INVALID_AUTHORIZATION_INFORMATION E_o_INVALID_AUTHORIZATION_INFORMATION S_o_OBJECT_NOT_ELIGIBLE_FOR_TRANSFER E_o_OBJECT_NOT_ELIGIBLE_FOR_TRANSFER S_o_COMMAND_SYNTAX_ERROR E_o_COMMAND_SYNTAX_ERROR S_o_UNIMPLEMENTED_OPTION E_o_UNIMPLEMENTED_OPTION S_o_UNIMPLEMENTED_OBJECT_SERVICE E_o_UNIMPLEMENTED_OBJECT_SERVICE S_o_OBJECT_DOES_NOT_EXIST E_o_OBJECT_DOES_NOT_EXIST p e ha hc hk s m _ below hf ((Spec.applies_iff_loose hf).mp happ).1 ⟨rfl, State.Warmed39.refl s, rfl⟩ trivial
  refine ⟨n, _, h1, h2, h3, hpost _ _ _ _ _ _ ⟨Cond.after_iff.mpr rfl, Cond.after_iff.mpr (eq_i res_at (Term.int_eval (1)) rfl), trivial⟩ ⟨hq.1, hq.2.1, (hq.2.2.sift fun y hy => Or.inr (N y hy)).mono (by decide) (by decide)⟩⟩
theorem main_1_1 : Claimed_1_1 := comes_1 fun _ _ _ _ _ _ h hF => ⟨h.1, hF⟩
theorem main_1_2 : Claimed_1_2 := comes_1 fun _ _ _ _ _ _ h hF => ⟨h.2.1, hF⟩
end Jvm.Pilot.@@N@@
namespace Jvm.Pilot.@@N@@
open Jvm Jvm.ClassFile Sem Op Lib Jvm.Free Jvm.Stand Jvm.Pilot.@@N@@.Jvm.D
/-! MADE BY PROGRAM (witnessworld.py) out of the Statement's table words and the real class files: 14 classes; the members and pool entries that the words name. The judged class is class 1, her method 2. -/
namespace start1
open Jvm.ClassFile
def u (s : String) : CpInfo := .utf8 (stringToUtf16 s)
/-- a pool by its gaps: so many unusable entries, then the entry; so many at the end -/
def gap : Nat → List CpInfo → List CpInfo
  | 0, r => r
  | n + 1, r => .unusable :: gap n r
def poolList (es : List (Nat × CpInfo)) (last : Nat) : List CpInfo := es.foldr (fun e r => gap e.1 (e.2 :: r)) (gap last [])
def pool (es : List (Nat × CpInfo)) (last : Nat) : Array CpInfo := ⟨poolList es last⟩
def fileOf (pool : Array CpInfo) (this : Nat) (attrs : Array Attribute := #[]) (ms : Array MethodInfo := #[]) (fl : Nat := 33) (sup : Nat := 0) (ifs : Array Nat := #[]) (fds : Array FieldInfo := #[]) : ClassFile where
  minorVersion := 0
  majorVersion := 65
  constantPool := pool
  accessFlags := fl
  thisClass := this
  superClass := sup
  interfaces := ifs
  fields := fds
  methods := ms
  attributes := attrs
def plain (name : String) (sup : Option ClassId) : Class where
  name := name
  kind := .ordinary
  loader := none
  accessFlags := 33
  super := sup
  interfaces := #[]
  cf := none
  fields := #[]
  methods := #[]
  instanceTypes := #[]
  staticTypes := #[]
  resolved := #[]
  callSites := []
  init := .initialized
  statics := none
  mirror := none

def pool0 : Array CpInfo := pool [(5, u "<init>"), (0, u "()V"), (1, .class_ 10), (1, u "java/lang/Object")] 113

def k0c0 : Code := { maxStack := 0, maxLocals := 1, code := object_method_1_code, exceptionTable := #[], attributes := #[] }
def k0m0 : Method := { name := "<init>", desc := "()V", sig := { parameters := [], returnType := none }, accessFlags := 1, code := some k0c0 }
/-- java/lang/Object -/
def k0 : Class := { plain "java/lang/Object" none with
  accessFlags := 33
  interfaces := #[]
  cf := some (fileOf pool0 8 #[] #[{ accessFlags := 1, nameIndex := 5, descriptorIndex := 6, attributes := #[] }] 33 0 #[] #[])
  fields := #[]
  methods := #[k0m0]
  instanceTypes := #[]
  staticTypes := #[]
  resolved := Array.replicate 124 none
  statics := none }

def pool1 : Array CpInfo := pool [(2, .class_ 4), (1, u "java/lang/Object"), (0, u "<init>"), (0, u "()V"), (0, .fieldref 8 9), (0, .class_ 10), (0, .nameAndType 11 12), (0, u "com/example/delehat/delehat/protocols/epp/ResultCode"), (0, u "SUCCESS"), (0, u "Lcom/example/delehat/delehat/protocols/epp/ResultCode;"), (0, .fieldref 8 14), (0, .nameAndType 15 12), (0, u "SUCCESS_PENDING"), (0, .fieldref 8 17), (0, .nameAndType 18 12), (0, u "SUCCESS_NO_MESSAGES"), (0, .fieldref 8 20), (0, .nameAndType 21 12), (0, u "SUCCESS_ACK_TO_DEQUEUE"), (0, .fieldref 8 23), (0, .nameAndType 24 12), (0, u "SUCCESS_ENDING_SESSION"), (0, .fieldref 8 26), (0, .nameAndType 27 12), (0, u "COMMAND_SYNTAX_ERROR"), (0, .fieldref 8 29), (0, .nameAndType 30 12), (0, u "COMMAND_USE_ERROR"), (0, .fieldref 8 32), (0, .nameAndType 33 12), (0, u "REQUIRED_PARAMETER_MISSING"), (0, .fieldref 8 35), (0, .nameAndType 36 12), (0, u "PARAMETER_VALUE_RANGE_ERROR"), (0, .fieldref 8 38), (0, .nameAndType 39 12), (0, u "PARAMETER_VALUE_SYNTAX_ERROR"), (0, .fieldref 8 41), (0, .nameAndType 42 12), (0, u "UNIMPLEMENTED_PROTOCOL_VERSION"), (0, .fieldref 8 44), (0, .nameAndType 45 12), (0, u "UNIMPLEMENTED_COMMAND"), (0, .fieldref 8 47), (0, .nameAndType 48 12), (0, u "UNIMPLEMENTED_OPTION"), (0, .fieldref 8 50), (0, .nameAndType 51 12), (0, u "UNIMPLEMENTED_EXTENSION"), (0, .fieldref 8 53), (0, .nameAndType 54 12), (0, u "OBJECT_NOT_ELIGIBLE_FOR_TRANSFER"), (0, .fieldref 8 56), (0, .nameAndType 57 12), (0, u "AUTHENTICATION_ERROR"), (0, .fieldref 8 59), (0, .nameAndType 60 12), (0, u "AUTHORIZATION_ERROR"), (0, .fieldref 8 62), (0, .nameAndType 63 12), (0, u "INVALID_AUTHORIZATION_INFORMATION"), (0, .fieldref 8 65), (0, .nameAndType 66 12), (0, u "OBJECT_PENDING_TRANSFER"), (0, .fieldref 8 68), (0, .nameAndType 69 12), (0, u "OBJECT_NOT_PENDING_TRANSFER"), (0, .fieldref 8 71), (0, .nameAndType 72 12), (0, u "OBJECT_EXISTS"), (0, .fieldref 8 74), (0, .nameAndType 75 12), (0, u "OBJECT_DOES_NOT_EXIST"), (0, .fieldref 8 77), (0, .nameAndType 78 12), (0, u "OBJECT_STATUS_PROHIBITS_OPERATION"), (0, .fieldref 8 80), (0, .nameAndType 81 12), (0, u "OBJECT_ASSOCIATION_PROHIBITS_OPERATION"), (0, .fieldref 8 83), (0, .nameAndType 84 12), (0, u "PARAMETER_VALUE_POLICY_ERROR"), (0, .fieldref 8 86), (0, .nameAndType 87 12), (0, u "UNIMPLEMENTED_OBJECT_SERVICE"), (0, .fieldref 8 89), (0, .nameAndType 90 12), (0, u "COMMAND_FAILED"), (0, .fieldref 8 92), (0, .nameAndType 93 12), (0, u "AUTHENTICATION_ERROR_CLOSING"), (0, .integer 2147483647), (0, .methodref 96 97), (0, .class_ 98), (0, .nameAndType 99 100), (0, u "com/example/delehat/delehat/protocols/epp/PayloadOfPinLaw"), (0, u "pick"), (0, u "(I)Lcom/example/delehat/delehat/protocols/epp/ResultCode;"), (0, .methodref 102 103), (0, .class_ 104), (0, .nameAndType 105 106), (0, u "com/example/delehat/delehat/protocols/epp/Responses$Payload"), (0, u "of"), (0, u "(Lcom/example/delehat/delehat/protocols/epp/ResultCode;)Lcom/example/delehat/delehat/protocols/epp/Responses$Payload;"), (0, .methodref 102 108), (0, .nameAndType 109 110), (0, u "code"), (0, u "()Lcom/example/delehat/delehat/protocols/epp/ResultCode;"), (0, .methodref 102 112), (0, .nameAndType 113 114), (0, u "msgQ"), (0, u "()Lcom/example/delehat/delehat/protocols/epp/Responses$ElementWriter;"), (0, .methodref 102 116), (0, .nameAndType 117 114), (0, u "resData"), (0, .methodref 102 119), (0, .nameAndType 120 114), (0, u "extension"), (3, u "law"), (0, u "(I)Z")] 9

def k1m0 : Method := { name := "<init>", desc := "()V", sig := { parameters := [], returnType := none }, accessFlags := 2, code := none }
def k1c1 : Code := { maxStack := 2, maxLocals := 1, code := method_2_code, exceptionTable := #[], attributes := #[] }
def k1m1 : Method := { name := "pick", desc := "(I)Lcom/example/delehat/delehat/protocols/epp/ResultCode;", sig := { parameters := [.int], returnType := some (.object "com/example/delehat/delehat/protocols/epp/ResultCode") }, accessFlags := 10, code := some k1c1 }
def k1c2 : Code := { maxStack := 2, maxLocals := 3, code := code, exceptionTable := #[], attributes := #[] }
def k1m2 : Method := { name := "law", desc := "(I)Z", sig := { parameters := [.int], returnType := some .boolean }, accessFlags := 9, code := some k1c2 }
/-- com/example/delehat/delehat/protocols/epp/PayloadOfPinLaw -/
def k1 : Class := { plain "com/example/delehat/delehat/protocols/epp/PayloadOfPinLaw" (some 0) with
  accessFlags := 49
  interfaces := #[]
  cf := some (fileOf pool1 96 #[] #[{ accessFlags := 2, nameIndex := 5, descriptorIndex := 6, attributes := #[] }, { accessFlags := 10, nameIndex := 99, descriptorIndex := 100, attributes := #[] }, { accessFlags := 9, nameIndex := 124, descriptorIndex := 125, attributes := #[] }] 49 2 #[] #[])
  fields := #[]
  methods := #[k1m0, k1m1, k1m2]
  instanceTypes := #[]
  staticTypes := #[]
  resolved := Array.replicate 135 none
  statics := none }

def pool2 : Array CpInfo := pool [(1, .class_ 2), (0, u "java/lang/constant/Constable"), (0, .class_ 4), (0, u "java/lang/Object")] 6

/-- java/lang/constant/Constable -/
def k2 : Class := { plain "java/lang/constant/Constable" (some 0) with
  accessFlags := 1537
  interfaces := #[]
  cf := some (fileOf pool2 1 #[] #[] 1537 3 #[] #[])
  fields := #[]
  methods := #[]
  instanceTypes := #[]
  staticTypes := #[]
  resolved := Array.replicate 11 none
  statics := none }

def pool3 : Array CpInfo := pool [(1, .class_ 2), (0, u "java/lang/Comparable"), (0, .class_ 4), (0, u "java/lang/Object")] 7

/-- java/lang/Comparable -/
def k3 : Class := { plain "java/lang/Comparable" (some 0) with
  accessFlags := 1537
  interfaces := #[]
  cf := some (fileOf pool3 1 #[] #[] 1537 3 #[] #[])
  fields := #[]
  methods := #[]
  instanceTypes := #[]
  staticTypes := #[]
  resolved := Array.replicate 12 none
  statics := none }

def pool4 : Array CpInfo := pool [(1, .class_ 2), (0, u "java/io/Serializable"), (0, .class_ 4), (0, u "java/lang/Object")] 2

/-- java/io/Serializable -/
def k4 : Class := { plain "java/io/Serializable" (some 0) with
  accessFlags := 1537
  interfaces := #[]
  cf := some (fileOf pool4 1 #[] #[] 1537 3 #[] #[])
  fields := #[]
  methods := #[]
  instanceTypes := #[]
  staticTypes := #[]
  resolved := Array.replicate 7 none
  statics := none }

def pool5 : Array CpInfo := pool [(2, .class_ 4), (1, u "java/lang/Enum"), (0, u "name"), (0, u "Ljava/lang/String;"), (2, u "ordinal"), (0, u "I"), (1, .class_ 14), (1, u "java/lang/Object"), (4, u "hash"), (86, .class_ 108), (1, u "java/lang/Enum$EnumDesc"), (2, .class_ 112), (0, u "java/lang/constant/Constable"), (0, .class_ 114), (0, u "java/lang/Comparable"), (0, .class_ 116), (0, u "java/io/Serializable")] 87

/-- java/lang/Enum -/
def k5 : Class := { plain "java/lang/Enum" (some 0) with
  accessFlags := 1057
  interfaces := #[2, 3, 4]
  cf := some (fileOf pool5 2 #[.nestMembers #[106]] #[] 1057 12 #[111, 113, 115] #[{ accessFlags := 18, nameIndex := 5, descriptorIndex := 6, attributes := #[] }, { accessFlags := 18, nameIndex := 9, descriptorIndex := 10, attributes := #[] }, { accessFlags := 2, nameIndex := 19, descriptorIndex := 10, attributes := #[] }])
  fields := #[{ name := "name", type := (.object "java/lang/String"), accessFlags := 18, slot := 0, constantValue := 0 }, { name := "ordinal", type := .int, accessFlags := 18, slot := 1, constantValue := 0 }, { name := "hash", type := .int, accessFlags := 2, slot := 2, constantValue := 0 }]
  methods := #[]
  instanceTypes := #[(.object "java/lang/String"), .int, .int]
  staticTypes := #[]
  resolved := Array.replicate 204 none
  statics := none }

def pool6 : Array CpInfo := pool [(1, .class_ 2), (0, u "com/example/delehat/delehat/protocols/epp/ResultCode"), (2, u "SUCCESS"), (0, u "Lcom/example/delehat/delehat/protocols/epp/ResultCode;"), (2, u "SUCCESS_PENDING"), (2, u "SUCCESS_NO_MESSAGES"), (2, u "SUCCESS_ACK_TO_DEQUEUE"), (2, u "SUCCESS_ENDING_SESSION"), (2, u "COMMAND_SYNTAX_ERROR"), (2, u "COMMAND_USE_ERROR"), (2, u "REQUIRED_PARAMETER_MISSING"), (2, u "PARAMETER_VALUE_RANGE_ERROR"), (2, u "PARAMETER_VALUE_SYNTAX_ERROR"), (2, u "UNIMPLEMENTED_PROTOCOL_VERSION"), (2, u "UNIMPLEMENTED_COMMAND"), (2, u "UNIMPLEMENTED_OPTION"), (2, u "UNIMPLEMENTED_EXTENSION"), (2, u "OBJECT_NOT_ELIGIBLE_FOR_TRANSFER"), (2, u "AUTHENTICATION_ERROR"), (2, u "AUTHORIZATION_ERROR"), (2, u "INVALID_AUTHORIZATION_INFORMATION"), (2, u "OBJECT_PENDING_TRANSFER"), (2, u "OBJECT_NOT_PENDING_TRANSFER"), (2, u "OBJECT_EXISTS"), (2, u "OBJECT_DOES_NOT_EXIST"), (2, u "OBJECT_STATUS_PROHIBITS_OPERATION"), (2, u "OBJECT_ASSOCIATION_PROHIBITS_OPERATION"), (2, u "PARAMETER_VALUE_POLICY_ERROR"), (2, u "UNIMPLEMENTED_OBJECT_SERVICE"), (2, u "COMMAND_FAILED"), (2, u "AUTHENTICATION_ERROR_CLOSING"), (2, u "$VALUES"), (0, u "[Lcom/example/delehat/delehat/protocols/epp/ResultCode;"), (6, .class_ 100), (1, u "java/lang/Enum"), (8, u "code"), (0, u "I"), (2, u "message"), (0, u "Ljava/lang/String;"), (1, .class_ 118), (1, u "com/example/delehat/delehat/protocols/epp/ResultCode$1")] 125

/-- com/example/delehat/delehat/protocols/epp/ResultCode -/
def k6 : Class := { plain "com/example/delehat/delehat/protocols/epp/ResultCode" (some 5) with
  accessFlags := 16432
  interfaces := #[]
  cf := some (fileOf pool6 1 #[.nestMembers #[116]] #[] 16432 98 #[] #[{ accessFlags := 16409, nameIndex := 5, descriptorIndex := 6, attributes := #[] }, { accessFlags := 16409, nameIndex := 9, descriptorIndex := 6, attributes := #[] }, { accessFlags := 16409, nameIndex := 12, descriptorIndex := 6, attributes := #[] }, { accessFlags := 16409, nameIndex := 15, descriptorIndex := 6, attributes := #[] }, { accessFlags := 16409, nameIndex := 18, descriptorIndex := 6, attributes := #[] }, { accessFlags := 16409, nameIndex := 21, descriptorIndex := 6, attributes := #[] }, { accessFlags := 16409, nameIndex := 24, descriptorIndex := 6, attributes := #[] }, { accessFlags := 16409, nameIndex := 27, descriptorIndex := 6, attributes := #[] }, { accessFlags := 16409, nameIndex := 30, descriptorIndex := 6, attributes := #[] }, { accessFlags := 16409, nameIndex := 33, descriptorIndex := 6, attributes := #[] }, { accessFlags := 16409, nameIndex := 36, descriptorIndex := 6, attributes := #[] }, { accessFlags := 16409, nameIndex := 39, descriptorIndex := 6, attributes := #[] }, { accessFlags := 16409, nameIndex := 42, descriptorIndex := 6, attributes := #[] }, { accessFlags := 16409, nameIndex := 45, descriptorIndex := 6, attributes := #[] }, { accessFlags := 16409, nameIndex := 48, descriptorIndex := 6, attributes := #[] }, { accessFlags := 16409, nameIndex := 51, descriptorIndex := 6, attributes := #[] }, { accessFlags := 16409, nameIndex := 54, descriptorIndex := 6, attributes := #[] }, { accessFlags := 16409, nameIndex := 57, descriptorIndex := 6, attributes := #[] }, { accessFlags := 16409, nameIndex := 60, descriptorIndex := 6, attributes := #[] }, { accessFlags := 16409, nameIndex := 63, descriptorIndex := 6, attributes := #[] }, { accessFlags := 16409, nameIndex := 66, descriptorIndex := 6, attributes := #[] }, { accessFlags := 16409, nameIndex := 69, descriptorIndex := 6, attributes := #[] }, { accessFlags := 16409, nameIndex := 72, descriptorIndex := 6, attributes := #[] }, { accessFlags := 16409, nameIndex := 75, descriptorIndex := 6, attributes := #[] }, { accessFlags := 16409, nameIndex := 78, descriptorIndex := 6, attributes := #[] }, { accessFlags := 16409, nameIndex := 81, descriptorIndex := 6, attributes := #[] }, { accessFlags := 16409, nameIndex := 84, descriptorIndex := 6, attributes := #[] }, { accessFlags := 16409, nameIndex := 87, descriptorIndex := 6, attributes := #[] }, { accessFlags := 18, nameIndex := 109, descriptorIndex := 110, attributes := #[] }, { accessFlags := 18, nameIndex := 113, descriptorIndex := 114, attributes := #[] }, { accessFlags := 4122, nameIndex := 90, descriptorIndex := 91, attributes := #[] }])
  fields := #[{ name := "SUCCESS", type := (.object "com/example/delehat/delehat/protocols/epp/ResultCode"), accessFlags := 16409, slot := 0, constantValue := 0 }, { name := "SUCCESS_PENDING", type := (.object "com/example/delehat/delehat/protocols/epp/ResultCode"), accessFlags := 16409, slot := 1, constantValue := 0 }, { name := "SUCCESS_NO_MESSAGES", type := (.object "com/example/delehat/delehat/protocols/epp/ResultCode"), accessFlags := 16409, slot := 2, constantValue := 0 }, { name := "SUCCESS_ACK_TO_DEQUEUE", type := (.object "com/example/delehat/delehat/protocols/epp/ResultCode"), accessFlags := 16409, slot := 3, constantValue := 0 }, { name := "SUCCESS_ENDING_SESSION", type := (.object "com/example/delehat/delehat/protocols/epp/ResultCode"), accessFlags := 16409, slot := 4, constantValue := 0 }, { name := "COMMAND_SYNTAX_ERROR", type := (.object "com/example/delehat/delehat/protocols/epp/ResultCode"), accessFlags := 16409, slot := 5, constantValue := 0 }, { name := "COMMAND_USE_ERROR", type := (.object "com/example/delehat/delehat/protocols/epp/ResultCode"), accessFlags := 16409, slot := 6, constantValue := 0 }, { name := "REQUIRED_PARAMETER_MISSING", type := (.object "com/example/delehat/delehat/protocols/epp/ResultCode"), accessFlags := 16409, slot := 7, constantValue := 0 }, { name := "PARAMETER_VALUE_RANGE_ERROR", type := (.object "com/example/delehat/delehat/protocols/epp/ResultCode"), accessFlags := 16409, slot := 8, constantValue := 0 }, { name := "PARAMETER_VALUE_SYNTAX_ERROR", type := (.object "com/example/delehat/delehat/protocols/epp/ResultCode"), accessFlags := 16409, slot := 9, constantValue := 0 }, { name := "UNIMPLEMENTED_PROTOCOL_VERSION", type := (.object "com/example/delehat/delehat/protocols/epp/ResultCode"), accessFlags := 16409, slot := 10, constantValue := 0 }, { name := "UNIMPLEMENTED_COMMAND", type := (.object "com/example/delehat/delehat/protocols/epp/ResultCode"), accessFlags := 16409, slot := 11, constantValue := 0 }, { name := "UNIMPLEMENTED_OPTION", type := (.object "com/example/delehat/delehat/protocols/epp/ResultCode"), accessFlags := 16409, slot := 12, constantValue := 0 }, { name := "UNIMPLEMENTED_EXTENSION", type := (.object "com/example/delehat/delehat/protocols/epp/ResultCode"), accessFlags := 16409, slot := 13, constantValue := 0 }, { name := "OBJECT_NOT_ELIGIBLE_FOR_TRANSFER", type := (.object "com/example/delehat/delehat/protocols/epp/ResultCode"), accessFlags := 16409, slot := 14, constantValue := 0 }, { name := "AUTHENTICATION_ERROR", type := (.object "com/example/delehat/delehat/protocols/epp/ResultCode"), accessFlags := 16409, slot := 15, constantValue := 0 }, { name := "AUTHORIZATION_ERROR", type := (.object "com/example/delehat/delehat/protocols/epp/ResultCode"), accessFlags := 16409, slot := 16, constantValue := 0 }, { name := "INVALID_AUTHORIZATION_INFORMATION", type := (.object "com/example/delehat/delehat/protocols/epp/ResultCode"), accessFlags := 16409, slot := 17, constantValue := 0 }, { name := "OBJECT_PENDING_TRANSFER", type := (.object "com/example/delehat/delehat/protocols/epp/ResultCode"), accessFlags := 16409, slot := 18, constantValue := 0 }, { name := "OBJECT_NOT_PENDING_TRANSFER", type := (.object "com/example/delehat/delehat/protocols/epp/ResultCode"), accessFlags := 16409, slot := 19, constantValue := 0 }, { name := "OBJECT_EXISTS", type := (.object "com/example/delehat/delehat/protocols/epp/ResultCode"), accessFlags := 16409, slot := 20, constantValue := 0 }, { name := "OBJECT_DOES_NOT_EXIST", type := (.object "com/example/delehat/delehat/protocols/epp/ResultCode"), accessFlags := 16409, slot := 21, constantValue := 0 }, { name := "OBJECT_STATUS_PROHIBITS_OPERATION", type := (.object "com/example/delehat/delehat/protocols/epp/ResultCode"), accessFlags := 16409, slot := 22, constantValue := 0 }, { name := "OBJECT_ASSOCIATION_PROHIBITS_OPERATION", type := (.object "com/example/delehat/delehat/protocols/epp/ResultCode"), accessFlags := 16409, slot := 23, constantValue := 0 }, { name := "PARAMETER_VALUE_POLICY_ERROR", type := (.object "com/example/delehat/delehat/protocols/epp/ResultCode"), accessFlags := 16409, slot := 24, constantValue := 0 }, { name := "UNIMPLEMENTED_OBJECT_SERVICE", type := (.object "com/example/delehat/delehat/protocols/epp/ResultCode"), accessFlags := 16409, slot := 25, constantValue := 0 }, { name := "COMMAND_FAILED", type := (.object "com/example/delehat/delehat/protocols/epp/ResultCode"), accessFlags := 16409, slot := 26, constantValue := 0 }, { name := "AUTHENTICATION_ERROR_CLOSING", type := (.object "com/example/delehat/delehat/protocols/epp/ResultCode"), accessFlags := 16409, slot := 27, constantValue := 0 }, { name := "code", type := .int, accessFlags := 18, slot := 3, constantValue := 0 }, { name := "message", type := (.object "java/lang/String"), accessFlags := 18, slot := 4, constantValue := 0 }, { name := "$VALUES", type := (.array (.object "com/example/delehat/delehat/protocols/epp/ResultCode")), accessFlags := 4122, slot := 28, constantValue := 0 }]
  methods := #[]
  instanceTypes := #[(.object "java/lang/String"), .int, .int, .int, (.object "java/lang/String")]
  staticTypes := #[(.object "com/example/delehat/delehat/protocols/epp/ResultCode"), (.object "com/example/delehat/delehat/protocols/epp/ResultCode"), (.object "com/example/delehat/delehat/protocols/epp/ResultCode"), (.object "com/example/delehat/delehat/protocols/epp/ResultCode"), (.object "com/example/delehat/delehat/protocols/epp/ResultCode"), (.object "com/example/delehat/delehat/protocols/epp/ResultCode"), (.object "com/example/delehat/delehat/protocols/epp/ResultCode"), (.object "com/example/delehat/delehat/protocols/epp/ResultCode"), (.object "com/example/delehat/delehat/protocols/epp/ResultCode"), (.object "com/example/delehat/delehat/protocols/epp/ResultCode"), (.object "com/example/delehat/delehat/protocols/epp/ResultCode"), (.object "com/example/delehat/delehat/protocols/epp/ResultCode"), (.object "com/example/delehat/delehat/protocols/epp/ResultCode"), (.object "com/example/delehat/delehat/protocols/epp/ResultCode"), (.object "com/example/delehat/delehat/protocols/epp/ResultCode"), (.object "com/example/delehat/delehat/protocols/epp/ResultCode"), (.object "com/example/delehat/delehat/protocols/epp/ResultCode"), (.object "com/example/delehat/delehat/protocols/epp/ResultCode"), (.object "com/example/delehat/delehat/protocols/epp/ResultCode"), (.object "com/example/delehat/delehat/protocols/epp/ResultCode"), (.object "com/example/delehat/delehat/protocols/epp/ResultCode"), (.object "com/example/delehat/delehat/protocols/epp/ResultCode"), (.object "com/example/delehat/delehat/protocols/epp/ResultCode"), (.object "com/example/delehat/delehat/protocols/epp/ResultCode"), (.object "com/example/delehat/delehat/protocols/epp/ResultCode"), (.object "com/example/delehat/delehat/protocols/epp/ResultCode"), (.object "com/example/delehat/delehat/protocols/epp/ResultCode"), (.object "com/example/delehat/delehat/protocols/epp/ResultCode"), (.array (.object "com/example/delehat/delehat/protocols/epp/ResultCode"))]
  resolved := Array.replicate 244 none
  statics := some 0 }

def pool7 : Array CpInfo := pool [(1, .methodref 2 3), (0, .class_ 4), (0, .nameAndType 5 6), (0, u "java/lang/Object"), (0, u "<init>"), (0, u "()V"), (0, .class_ 8), (0, u "java/lang/Record")] 13

def k7c0 : Code := { maxStack := 1, maxLocals := 1, code := jdk_30_method_1_code, exceptionTable := #[], attributes := #[] }
def k7m0 : Method := { name := "<init>", desc := "()V", sig := { parameters := [], returnType := none }, accessFlags := 4, code := some k7c0 }
/-- java/lang/Record -/
def k7 : Class := { plain "java/lang/Record" (some 0) with
  accessFlags := 1057
  interfaces := #[]
  cf := some (fileOf pool7 7 #[] #[{ accessFlags := 4, nameIndex := 5, descriptorIndex := 6, attributes := #[] }] 1057 2 #[] #[])
  fields := #[]
  methods := #[k7m0]
  instanceTypes := #[]
  staticTypes := #[]
  resolved := Array.replicate 22 none
  statics := none }

def pool8 : Array CpInfo := pool [(1, .methodref 2 3), (0, .class_ 4), (0, .nameAndType 5 6), (0, u "java/lang/Record"), (0, u "<init>"), (0, u "()V"), (0, .fieldref 8 9), (0, .class_ 10), (0, .nameAndType 11 12), (0, u "com/example/delehat/delehat/protocols/epp/Responses$Payload"), (0, u "code"), (0, u "Lcom/example/delehat/delehat/protocols/epp/ResultCode;"), (0, .fieldref 8 14), (0, .nameAndType 15 16), (0, u "msgQ"), (0, u "Lcom/example/delehat/delehat/protocols/epp/Responses$ElementWriter;"), (0, .fieldref 8 18), (0, .nameAndType 19 16), (0, u "resData"), (0, .fieldref 8 21), (0, .nameAndType 22 16), (0, u "extension"), (0, .methodref 8 24), (0, .nameAndType 5 25), (0, u "(Lcom/example/delehat/delehat/protocols/epp/ResultCode;Lcom/example/delehat/delehat/protocols/epp/Responses$ElementWriter;Lcom/example/delehat/delehat/protocols/epp/Responses$ElementWriter;Lcom/example/delehat/delehat/protocols/epp/Responses$ElementWriter;)V"), (2, u "of"), (21, u "(Lcom/example/delehat/delehat/protocols/epp/ResultCode;)Lcom/example/delehat/delehat/protocols/epp/Responses$Payload;"), (5, u "()Lcom/example/delehat/delehat/protocols/epp/ResultCode;"), (0, u "()Lcom/example/delehat/delehat/protocols/epp/Responses$ElementWriter;"), (3, .class_ 62), (0, u "com/example/delehat/delehat/protocols/epp/Responses")] 25

def k8c0 : Code := { maxStack := 2, maxLocals := 5, code := prog_83_method_1_code, exceptionTable := #[], attributes := #[] }
def k8m0 : Method := { name := "<init>", desc := "(Lcom/example/delehat/delehat/protocols/epp/ResultCode;Lcom/example/delehat/delehat/protocols/epp/Responses$ElementWriter;Lcom/example/delehat/delehat/protocols/epp/Responses$ElementWriter;Lcom/example/delehat/delehat/protocols/epp/Responses$ElementWriter;)V", sig := { parameters := [(.object "com/example/delehat/delehat/protocols/epp/ResultCode"), (.object "com/example/delehat/delehat/protocols/epp/Responses$ElementWriter"), (.object "com/example/delehat/delehat/protocols/epp/Responses$ElementWriter"), (.object "com/example/delehat/delehat/protocols/epp/Responses$ElementWriter")], returnType := none }, accessFlags := 0, code := some k8c0 }
def k8c1 : Code := { maxStack := 6, maxLocals := 1, code := prog_83_method_2_code, exceptionTable := #[], attributes := #[] }
def k8m1 : Method := { name := "of", desc := "(Lcom/example/delehat/delehat/protocols/epp/ResultCode;)Lcom/example/delehat/delehat/protocols/epp/Responses$Payload;", sig := { parameters := [(.object "com/example/delehat/delehat/protocols/epp/ResultCode")], returnType := some (.object "com/example/delehat/delehat/protocols/epp/Responses$Payload") }, accessFlags := 8, code := some k8c1 }
def k8c2 : Code := { maxStack := 1, maxLocals := 1, code := prog_83_method_9_code, exceptionTable := #[], attributes := #[] }
def k8m2 : Method := { name := "code", desc := "()Lcom/example/delehat/delehat/protocols/epp/ResultCode;", sig := { parameters := [], returnType := some (.object "com/example/delehat/delehat/protocols/epp/ResultCode") }, accessFlags := 1, code := some k8c2 }
def k8c3 : Code := { maxStack := 1, maxLocals := 1, code := prog_83_method_10_code, exceptionTable := #[], attributes := #[] }
def k8m3 : Method := { name := "msgQ", desc := "()Lcom/example/delehat/delehat/protocols/epp/Responses$ElementWriter;", sig := { parameters := [], returnType := some (.object "com/example/delehat/delehat/protocols/epp/Responses$ElementWriter") }, accessFlags := 1, code := some k8c3 }
def k8c4 : Code := { maxStack := 1, maxLocals := 1, code := prog_83_method_11_code, exceptionTable := #[], attributes := #[] }
def k8m4 : Method := { name := "resData", desc := "()Lcom/example/delehat/delehat/protocols/epp/Responses$ElementWriter;", sig := { parameters := [], returnType := some (.object "com/example/delehat/delehat/protocols/epp/Responses$ElementWriter") }, accessFlags := 1, code := some k8c4 }
def k8c5 : Code := { maxStack := 1, maxLocals := 1, code := prog_83_method_12_code, exceptionTable := #[], attributes := #[] }
def k8m5 : Method := { name := "extension", desc := "()Lcom/example/delehat/delehat/protocols/epp/Responses$ElementWriter;", sig := { parameters := [], returnType := some (.object "com/example/delehat/delehat/protocols/epp/Responses$ElementWriter") }, accessFlags := 1, code := some k8c5 }
/-- com/example/delehat/delehat/protocols/epp/Responses$Payload -/
def k8 : Class := { plain "com/example/delehat/delehat/protocols/epp/Responses$Payload" (some 7) with
  accessFlags := 48
  interfaces := #[]
  cf := some (fileOf pool8 8 #[.nestHost 61] #[{ accessFlags := 0, nameIndex := 5, descriptorIndex := 25, attributes := #[] }, { accessFlags := 8, nameIndex := 28, descriptorIndex := 50, attributes := #[] }, { accessFlags := 1, nameIndex := 11, descriptorIndex := 56, attributes := #[] }, { accessFlags := 1, nameIndex := 15, descriptorIndex := 57, attributes := #[] }, { accessFlags := 1, nameIndex := 19, descriptorIndex := 57, attributes := #[] }, { accessFlags := 1, nameIndex := 22, descriptorIndex := 57, attributes := #[] }] 48 2 #[] #[{ accessFlags := 18, nameIndex := 11, descriptorIndex := 12, attributes := #[] }, { accessFlags := 18, nameIndex := 15, descriptorIndex := 16, attributes := #[] }, { accessFlags := 18, nameIndex := 19, descriptorIndex := 16, attributes := #[] }, { accessFlags := 18, nameIndex := 22, descriptorIndex := 16, attributes := #[] }])
  fields := #[{ name := "code", type := (.object "com/example/delehat/delehat/protocols/epp/ResultCode"), accessFlags := 18, slot := 0, constantValue := 0 }, { name := "msgQ", type := (.object "com/example/delehat/delehat/protocols/epp/Responses$ElementWriter"), accessFlags := 18, slot := 1, constantValue := 0 }, { name := "resData", type := (.object "com/example/delehat/delehat/protocols/epp/Responses$ElementWriter"), accessFlags := 18, slot := 2, constantValue := 0 }, { name := "extension", type := (.object "com/example/delehat/delehat/protocols/epp/Responses$ElementWriter"), accessFlags := 18, slot := 3, constantValue := 0 }]
  methods := #[k8m0, k8m1, k8m2, k8m3, k8m4, k8m5]
  instanceTypes := #[(.object "com/example/delehat/delehat/protocols/epp/ResultCode"), (.object "com/example/delehat/delehat/protocols/epp/Responses$ElementWriter"), (.object "com/example/delehat/delehat/protocols/epp/Responses$ElementWriter"), (.object "com/example/delehat/delehat/protocols/epp/Responses$ElementWriter")]
  staticTypes := #[]
  resolved := Array.replicate 88 none
  statics := none }

def pool9 : Array CpInfo := pool [(1, u "java/lang/Cloneable"), (0, .class_ 1), (0, u "java/lang/Object"), (0, .class_ 3)] 3

/-- java/lang/Cloneable -/
def k9 : Class := { plain "java/lang/Cloneable" (some 0) with
  accessFlags := 1537
  interfaces := #[]
  cf := some (fileOf pool9 2 #[] #[] 1537 4 #[] #[])
  fields := #[]
  methods := #[]
  instanceTypes := #[]
  staticTypes := #[]
  resolved := Array.replicate 8 none
  statics := none }

/-- the primitive byte -/
def k10 : Class := { plain "byte" none with kind := .primitive 'B', accessFlags := 0x411 }
/-- [B -/
def k11 : Class := { plain "[B" (some 0) with kind := .array 10 .byte, interfaces := #[9, 4], accessFlags := 1041 }

/-- the primitive int -/
def k12 : Class := { plain "int" none with kind := .primitive 'I', accessFlags := 0x411 }
/-- [I -/
def k13 : Class := { plain "[I" (some 0) with kind := .array 12 .int, interfaces := #[9, 4], accessFlags := 1041 }

def heap : Heap := #[{ cls := 6, slots := #[.ref 1, .ref 11, .ref 7, .ref 2, .ref 21, .ref 25, .ref 17, .ref 6, .ref 10, .ref 13, .ref 12, .ref 8, .ref 26, .ref 20, .ref 24, .ref 16, .ref 15, .ref 23, .ref 5, .ref 14, .ref 18, .ref 28, .ref 22, .ref 19, .ref 9, .ref 27, .ref 3, .ref 4, .null], vm := .statics 6 },
  { cls := 6, slots := #[.null, .int 0, .int 0, .int 0, .null], vm := .none },
  { cls := 6, slots := #[.null, .int 0, .int 0, .int 0, .null], vm := .none },
  { cls := 6, slots := #[.null, .int 0, .int 0, .int 0, .null], vm := .none },
  { cls := 6, slots := #[.null, .int 0, .int 0, .int 0, .null], vm := .none },
  { cls := 6, slots := #[.null, .int 0, .int 0, .int 0, .null], vm := .none },
  { cls := 6, slots := #[.null, .int 0, .int 0, .int 0, .null], vm := .none },
  { cls := 6, slots := #[.null, .int 0, .int 0, .int 0, .null], vm := .none },
  { cls := 6, slots := #[.null, .int 0, .int 0, .int 0, .null], vm := .none },
  { cls := 6, slots := #[.null, .int 0, .int 0, .int 0, .null], vm := .none },
  { cls := 6, slots := #[.null, .int 0, .int 0, .int 0, .null], vm := .none },
  { cls := 6, slots := #[.null, .int 0, .int 0, .int 0, .null], vm := .none },
  { cls := 6, slots := #[.null, .int 0, .int 0, .int 0, .null], vm := .none },
  { cls := 6, slots := #[.null, .int 0, .int 0, .int 0, .null], vm := .none },
  { cls := 6, slots := #[.null, .int 0, .int 0, .int 0, .null], vm := .none },
  { cls := 6, slots := #[.null, .int 0, .int 0, .int 0, .null], vm := .none },
  { cls := 6, slots := #[.null, .int 0, .int 0, .int 0, .null], vm := .none },
  { cls := 6, slots := #[.null, .int 0, .int 0, .int 0, .null], vm := .none },
  { cls := 6, slots := #[.null, .int 0, .int 0, .int 0, .null], vm := .none },
  { cls := 6, slots := #[.null, .int 0, .int 0, .int 0, .null], vm := .none },
  { cls := 6, slots := #[.null, .int 0, .int 0, .int 0, .null], vm := .none },
  { cls := 6, slots := #[.null, .int 0, .int 0, .int 0, .null], vm := .none },
  { cls := 6, slots := #[.null, .int 0, .int 0, .int 0, .null], vm := .none },
  { cls := 6, slots := #[.null, .int 0, .int 0, .int 0, .null], vm := .none },
  { cls := 6, slots := #[.null, .int 0, .int 0, .int 0, .null], vm := .none },
  { cls := 6, slots := #[.null, .int 0, .int 0, .int 0, .null], vm := .none },
  { cls := 6, slots := #[.null, .int 0, .int 0, .int 0, .null], vm := .none },
  { cls := 6, slots := #[.null, .int 0, .int 0, .int 0, .null], vm := .none },
  { cls := 6, slots := #[.null, .int 0, .int 0, .int 0, .null], vm := .none }]
def classes : Array Class := #[k0, k1, k2, k3, k4, k5, k6, k7, k8, k9, k10, k11, k12, k13]
def interned : List (Array UInt16 × Addr) := []
def slotsUsed : Nat := 169
def theMethod : MethodId := ⟨1, 2⟩
def args0 : Array Value := #[.int 5]
def aboutOver (below : List Frame) : State where
  vm := { classes := classes, interned := interned.toArray }
  heap := heap
  slotsUsed := slotsUsed
  threads := #[{ frames := .invoking theMethod args0 :: below }]
def below0 : List Frame := [.native { method := ⟨0, 0⟩, args := #[] }]
def about1 : State := aboutOver below0
def p0 : Program := .bare "" "" ""
def e0 : Env := launch0.env 0 0 0
theorem w_frames : about1.frames = Frame.invoking theMethod args0 :: below0 := rfl
set_option maxRecDepth 65536 in
theorem w_args : argsFit about1.vm theMethod args0 = true := by decide +kernel
set_option maxRecDepth 65536 in
theorem w_heap : heapFits about1 = true := by decide +kernel
set_option maxRecDepth 65536 in
theorem w_runnable : about1.curStatus? = some .runnable := by decide +kernel
set_option maxRecDepth 65536 in
theorem w_alone : about1.alone = true := by decide +kernel
set_option maxRecDepth 65536 in
theorem w_named : about1.methodNamed? x = some theMethod := by decide +kernel
set_option maxRecDepth 65536 in
theorem w_hears : about1.hears theMethod below0 = true := by decide +kernel
set_option maxRecDepth 65536 in
theorem w_ripe : about1.ripe theMethod args0 below0 = true := by decide +kernel
theorem w_running : about1.status = .running := rfl
set_option maxRecDepth 65536 in
theorem w_room : about1.hasRoom e0.platform room_1 = true :=
  launch0.hasRoom_least _ room_1 (by decide +kernel) (by decide +kernel) (by decide +kernel) (by decide +kernel) (by decide +kernel) (by decide +kernel)
theorem allAtoms_all (ts : List Jvm.Cond) (a : Array Jvm.Value) (st : Jvm.State) : (allAtoms ts).before a st = ts.all (fun c => c.before a st) := by
  induction ts with
  | nil => rfl
  | cons c t ih =>
    show (Jvm.Cond.and c (allAtoms t)).before a st = _
    rw [Jvm.Cond.before_and, ih, List.all_cons]
def words1 : List Jvm.Cond := Jvm.Cond.code x code maxLocals ret :: tables_1
/-- a 'code' word, met by the world's own term for the bytes: nothing is compared byte by byte -/
theorem code_word {y : MethodName} {bytes : ByteArray} {mx : Nat} {rt : Option FieldType} {a : Array Value} {s : State} {m : MethodId} {meth : Method} {c : Code} (h1 : s.methodNamed? y = some m) (h2 : s.vm.method? m = some meth) (h3 : meth.code = some c) (h4 : c.code = bytes)
    (h5 : (c.maxLocals == mx && c.exceptionTable.isEmpty && decide (c.maxStack ≤ mostOperands) && decide (meth.sig.returnType = rt) && !meth.locks && decide (parseMethodDescriptor y.desc = some meth.sig)) = true) : (Jvm.Cond.code y bytes mx rt).before a s = true := by
  simp only [Bool.and_eq_true, beq_iff_eq, Bool.not_eq_true', decide_eq_true_eq] at h5
  obtain ⟨⟨⟨⟨⟨g1, g2⟩, g3⟩, g4⟩, g5⟩, g6⟩ := h5
  simp [Cond.before, Cond.holds, Cond.value, h1, h2, h3, h4, g1, g2, g3, g4, g5, g6]
def isCode : Jvm.Cond → Bool
  | .code _ _ _ _ => true
  | _ => false
theorem all_split {L : List Jvm.Cond} {P : Jvm.Cond → Bool} (h1 : L.all (fun c => isCode c || P c) = true) (h2 : ∀ c ∈ L.filter isCode, P c = true) : L.all P = true := by
  refine List.all_eq_true.mpr fun c hc => ?_
  have h := List.all_eq_true.mp h1 c hc
  rcases Bool.eq_false_or_eq_true (isCode c) with hi | hi
  · exact h2 c (List.mem_filter.mpr ⟨hc, hi⟩)
  · simpa [hi] using h
set_option maxRecDepth 65536 in
theorem w_c0 : (Jvm.Cond.code x code maxLocals ret).before args0 about1 = true := code_word (m := ⟨1, 2⟩) (meth := k1m2) (c := k1c2) (by decide +kernel) rfl rfl rfl (by decide +kernel)
set_option maxRecDepth 65536 in
theorem w_c1 : (Jvm.Cond.code ({ cls := "com/example/delehat/delehat/protocols/epp/PayloadOfPinLaw", name := "pick", desc := "(I)Lcom/example/delehat/delehat/protocols/epp/ResultCode;" } : Jvm.MethodName) method_2_code (1 : Nat) (Option.some (Jvm.ClassFile.FieldType.object "com/example/delehat/delehat/protocols/epp/ResultCode"))).before args0 about1 = true := code_word (m := ⟨1, 1⟩) (meth := k1m1) (c := k1c1) (by decide +kernel) rfl rfl rfl (by decide +kernel)
set_option maxRecDepth 65536 in
theorem w_c2 : (Jvm.Cond.code ({ cls := "com/example/delehat/delehat/protocols/epp/Responses$Payload", name := "of", desc := "(Lcom/example/delehat/delehat/protocols/epp/ResultCode;)Lcom/example/delehat/delehat/protocols/epp/Responses$Payload;" } : Jvm.MethodName) prog_83_method_2_code (1 : Nat) (Option.some (Jvm.ClassFile.FieldType.object "com/example/delehat/delehat/protocols/epp/Responses$Payload"))).before args0 about1 = true := code_word (m := ⟨8, 1⟩) (meth := k8m1) (c := k8c1) (by decide +kernel) rfl rfl rfl (by decide +kernel)
set_option maxRecDepth 65536 in
theorem w_c3 : (Jvm.Cond.code ({ cls := "com/example/delehat/delehat/protocols/epp/Responses$Payload", name := "<init>", desc := "(Lcom/example/delehat/delehat/protocols/epp/ResultCode;Lcom/example/delehat/delehat/protocols/epp/Responses$ElementWriter;Lcom/example/delehat/delehat/protocols/epp/Responses$ElementWriter;Lcom/example/delehat/delehat/protocols/epp/Responses$ElementWriter;)V" } : Jvm.MethodName) prog_83_method_1_code (5 : Nat) (Option.none : Option Jvm.ClassFile.FieldType)).before args0 about1 = true := code_word (m := ⟨8, 0⟩) (meth := k8m0) (c := k8c0) (by decide +kernel) rfl rfl rfl (by decide +kernel)
set_option maxRecDepth 65536 in
theorem w_c4 : (Jvm.Cond.code ({ cls := "java/lang/Record", name := "<init>", desc := "()V" } : Jvm.MethodName) jdk_30_method_1_code (1 : Nat) (Option.none : Option Jvm.ClassFile.FieldType)).before args0 about1 = true := code_word (m := ⟨7, 0⟩) (meth := k7m0) (c := k7c0) (by decide +kernel) rfl rfl rfl (by decide +kernel)
set_option maxRecDepth 65536 in
theorem w_c5 : (Jvm.Cond.code ({ cls := "java/lang/Object", name := "<init>", desc := "()V" } : Jvm.MethodName) object_method_1_code (1 : Nat) (Option.none : Option Jvm.ClassFile.FieldType)).before args0 about1 = true := code_word (m := ⟨0, 0⟩) (meth := k0m0) (c := k0c0) (by decide +kernel) rfl rfl rfl (by decide +kernel)
set_option maxRecDepth 65536 in
theorem w_c6 : (Jvm.Cond.code ({ cls := "com/example/delehat/delehat/protocols/epp/Responses$Payload", name := "code", desc := "()Lcom/example/delehat/delehat/protocols/epp/ResultCode;" } : Jvm.MethodName) prog_83_method_9_code (1 : Nat) (Option.some (Jvm.ClassFile.FieldType.object "com/example/delehat/delehat/protocols/epp/ResultCode"))).before args0 about1 = true := code_word (m := ⟨8, 2⟩) (meth := k8m2) (c := k8c2) (by decide +kernel) rfl rfl rfl (by decide +kernel)
set_option maxRecDepth 65536 in
theorem w_c7 : (Jvm.Cond.code ({ cls := "com/example/delehat/delehat/protocols/epp/Responses$Payload", name := "msgQ", desc := "()Lcom/example/delehat/delehat/protocols/epp/Responses$ElementWriter;" } : Jvm.MethodName) prog_83_method_10_code (1 : Nat) (Option.some (Jvm.ClassFile.FieldType.object "com/example/delehat/delehat/protocols/epp/Responses$ElementWriter"))).before args0 about1 = true := code_word (m := ⟨8, 3⟩) (meth := k8m3) (c := k8c3) (by decide +kernel) rfl rfl rfl (by decide +kernel)
set_option maxRecDepth 65536 in
theorem w_c8 : (Jvm.Cond.code ({ cls := "com/example/delehat/delehat/protocols/epp/Responses$Payload", name := "resData", desc := "()Lcom/example/delehat/delehat/protocols/epp/Responses$ElementWriter;" } : Jvm.MethodName) prog_83_method_11_code (1 : Nat) (Option.some (Jvm.ClassFile.FieldType.object "com/example/delehat/delehat/protocols/epp/Responses$ElementWriter"))).before args0 about1 = true := code_word (m := ⟨8, 4⟩) (meth := k8m4) (c := k8c4) (by decide +kernel) rfl rfl rfl (by decide +kernel)
set_option maxRecDepth 65536 in
theorem w_c9 : (Jvm.Cond.code ({ cls := "com/example/delehat/delehat/protocols/epp/Responses$Payload", name := "extension", desc := "()Lcom/example/delehat/delehat/protocols/epp/Responses$ElementWriter;" } : Jvm.MethodName) prog_83_method_12_code (1 : Nat) (Option.some (Jvm.ClassFile.FieldType.object "com/example/delehat/delehat/protocols/epp/Responses$ElementWriter"))).before args0 about1 = true := code_word (m := ⟨8, 5⟩) (meth := k8m5) (c := k8c5) (by decide +kernel) rfl rfl rfl (by decide +kernel)
def codes1 : List Jvm.Cond := [Jvm.Cond.code x code maxLocals ret, Jvm.Cond.code ({ cls := "com/example/delehat/delehat/protocols/epp/PayloadOfPinLaw", name := "pick", desc := "(I)Lcom/example/delehat/delehat/protocols/epp/ResultCode;" } : Jvm.MethodName) method_2_code (1 : Nat) (Option.some (Jvm.ClassFile.FieldType.object "com/example/delehat/delehat/protocols/epp/ResultCode")), Jvm.Cond.code ({ cls := "com/example/delehat/delehat/protocols/epp/Responses$Payload", name := "of", desc := "(Lcom/example/delehat/delehat/protocols/epp/ResultCode;)Lcom/example/delehat/delehat/protocols/epp/Responses$Payload;" } : Jvm.MethodName) prog_83_method_2_code (1 : Nat) (Option.some (Jvm.ClassFile.FieldType.object "com/example/delehat/delehat/protocols/epp/Responses$Payload")), Jvm.Cond.code ({ cls := "com/example/delehat/delehat/protocols/epp/Responses$Payload", name := "<init>", desc := "(Lcom/example/delehat/delehat/protocols/epp/ResultCode;Lcom/example/delehat/delehat/protocols/epp/Responses$ElementWriter;Lcom/example/delehat/delehat/protocols/epp/Responses$ElementWriter;Lcom/example/delehat/delehat/protocols/epp/Responses$ElementWriter;)V" } : Jvm.MethodName) prog_83_method_1_code (5 : Nat) (Option.none : Option Jvm.ClassFile.FieldType), Jvm.Cond.code ({ cls := "java/lang/Record", name := "<init>", desc := "()V" } : Jvm.MethodName) jdk_30_method_1_code (1 : Nat) (Option.none : Option Jvm.ClassFile.FieldType), Jvm.Cond.code ({ cls := "java/lang/Object", name := "<init>", desc := "()V" } : Jvm.MethodName) object_method_1_code (1 : Nat) (Option.none : Option Jvm.ClassFile.FieldType), Jvm.Cond.code ({ cls := "com/example/delehat/delehat/protocols/epp/Responses$Payload", name := "code", desc := "()Lcom/example/delehat/delehat/protocols/epp/ResultCode;" } : Jvm.MethodName) prog_83_method_9_code (1 : Nat) (Option.some (Jvm.ClassFile.FieldType.object "com/example/delehat/delehat/protocols/epp/ResultCode")), Jvm.Cond.code ({ cls := "com/example/delehat/delehat/protocols/epp/Responses$Payload", name := "msgQ", desc := "()Lcom/example/delehat/delehat/protocols/epp/Responses$ElementWriter;" } : Jvm.MethodName) prog_83_method_10_code (1 : Nat) (Option.some (Jvm.ClassFile.FieldType.object "com/example/delehat/delehat/protocols/epp/Responses$ElementWriter")), Jvm.Cond.code ({ cls := "com/example/delehat/delehat/protocols/epp/Responses$Payload", name := "resData", desc := "()Lcom/example/delehat/delehat/protocols/epp/Responses$ElementWriter;" } : Jvm.MethodName) prog_83_method_11_code (1 : Nat) (Option.some (Jvm.ClassFile.FieldType.object "com/example/delehat/delehat/protocols/epp/Responses$ElementWriter")), Jvm.Cond.code ({ cls := "com/example/delehat/delehat/protocols/epp/Responses$Payload", name := "extension", desc := "()Lcom/example/delehat/delehat/protocols/epp/Responses$ElementWriter;" } : Jvm.MethodName) prog_83_method_12_code (1 : Nat) (Option.some (Jvm.ClassFile.FieldType.object "com/example/delehat/delehat/protocols/epp/Responses$ElementWriter"))]
set_option maxRecDepth 65536 in
theorem codes_eq : words1.filter isCode = codes1 := rfl
theorem w_codes : ∀ c ∈ words1.filter isCode, c.before args0 about1 = true := by
  rw [codes_eq]
  intro c hc
  simp only [codes1, List.mem_cons, List.not_mem_nil, or_false] at hc
  rcases hc with rfl | rfl | rfl | rfl | rfl | rfl | rfl | rfl | rfl | rfl
  · exact w_c0
  · exact w_c1
  · exact w_c2
  · exact w_c3
  · exact w_c4
  · exact w_c5
  · exact w_c6
  · exact w_c7
  · exact w_c8
  · exact w_c9
set_option maxRecDepth 65536 in
theorem w_t1 : (words1.take 24).all (fun c => isCode c || c.before args0 about1) = true := by decide +kernel
set_option maxRecDepth 65536 in
theorem w_t2 : ((words1.drop 24).take 24).all (fun c => isCode c || c.before args0 about1) = true := by decide +kernel
set_option maxRecDepth 65536 in
theorem w_t3 : (((words1.drop 24).drop 24).take 24).all (fun c => isCode c || c.before args0 about1) = true := by decide +kernel
set_option maxRecDepth 65536 in
theorem w_t4 : ((((words1.drop 24).drop 24).drop 24).take 24).all (fun c => isCode c || c.before args0 about1) = true := by decide +kernel
set_option maxRecDepth 65536 in
theorem w_t5 : ((((words1.drop 24).drop 24).drop 24).drop 24).all (fun c => isCode c || c.before args0 about1) = true := by decide +kernel
theorem w_tables : (allAtoms (Jvm.Cond.code x code maxLocals ret :: tables_1)).before args0 about1 = true := by
  rw [allAtoms_all]
  show words1.all (fun c => c.before args0 about1) = true
  refine all_split ?_ w_codes
  rw [← List.take_append_drop 24 words1, List.all_append, w_t1, ← List.take_append_drop 24 (words1.drop 24), List.all_append, w_t2, ← List.take_append_drop 24 ((words1.drop 24).drop 24), List.all_append, w_t3, ← List.take_append_drop 24 (((words1.drop 24).drop 24).drop 24), List.all_append, w_t4, w_t5]
  rfl
set_option maxRecDepth 65536 in
theorem w_case : (Jvm.Cond.and given_1 narrow_1).before args0 about1 = true := by decide +kernel
theorem w_applies : (headSpec (Jvm.Cond.code x code maxLocals ret :: tables_1) room_1).applies x e0.platform about1 = true :=
  (Spec.applies_iff w_frames).mpr ⟨w_running, w_runnable, w_alone, w_named, w_hears, w_ripe, w_room, w_tables⟩
theorem atStart : AtStart classFile x code maxLocals ret World_1 tables_1 room_1 Calls_1 rest_1 Pre_1 launch0 p0 e0 about1 theMethod args0 below0 :=
  ⟨lists_1, trivial, launch0.admits_env _ _ _, launch0.least_env, fairChoices_fair.cas, fairChoices_fair.clock, w_frames, w_args, w_heap, w_applies, trivial, trivial, w_case⟩
end start1
theorem witness_1 : WitnessClaimed_1 := ⟨start1.p0, start1.e0, start1.about1, start1.theMethod, start1.args0, start1.below0, start1.atStart⟩
end Jvm.Pilot.@@N@@
