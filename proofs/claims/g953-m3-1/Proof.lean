import JvmDerived
import JvmDerived.Pilot.@@N@@Statement
import JvmDerived.Pilot.@@N@@Code
set_option linter.unusedVariables false
set_option linter.unusedSimpArgs false
namespace Jvm.RoadKit
open Sem ClassFile Op Lib Jvm.Stand Jvm.Free Jvm.LawKit
section New
variable {p : Program} {l : Launch} {e : Env} {R : Room} {s : State} {m : MethodId} {args : Array Value} {below : List Frame} {meth : Method} {c : Code} {T : State} {locs : List Loc} {cells slots : Nat}
theorem retI (X : Stand p l e R s m args below meth c T locs cells slots) (hx : p.tables.exec = Jvm.exec) {pc : Nat} {Ls : Array Slot} {z : Int32} {rest : List Value} (hret : meth.sig.returnType = some .int) (hd : decode c.code pc = .ok (.ireturn, 1)) {fs : List Frame}
    (hl : ∀ (f : JFrame) (acts : List Action), f.method = m → f.locked = none → f.entered = [] → (doReturn e (T.setTop f) acts (some (.int z))).1 = T.setFrames fs) : Steps p.tables e below (T.setTop (mkF m pc Ls (.int z :: rest))) (T.setFrames fs) :=
  retOut X hx hret rfl (Or.inl ⟨rfl, Or.inl rfl, z, rfl⟩) hd hl
end New
section Carry
variable {Z : State} {h h' : Heap} {C n d : String} {v : Value}
theorem own_ns0 : ∀ x ∈ ([] : List Addr), ∀ c : Cell, h[x]? = some c → c.vm.isStatics = false := fun _ q => nomatch q
theorem own_nsS {a : Addr} {K : String} {L : List Addr} (F : Exa Z h a K) (r : ∀ x ∈ L, ∀ c : Cell, h[x]? = some c → c.vm.isStatics = false) : ∀ x ∈ a :: L, ∀ c : Cell, h[x]? = some c → c.vm.isStatics = false := fun x z c hc => by
  rcases List.mem_cons.mp z with rfl | z
  · obtain ⟨c1, _, h1, -, -, h4, -⟩ := F
    cases h1.symm.trans hc; exact h4
  · exact r x z c hc
theorem own_sta_keep {ws : List Addr} (F : Sta Z h C n d v) (K : Keep h h' ws) (q : ∀ x ∈ ws, ∀ c : Cell, h[x]? = some c → c.vm.isStatics = false) : Sta Z h' C n d v := by
  obtain ⟨cf, i, k, f, st, cell, h1, h2, h3, h4, h5, h6, h7⟩ := F
  exact ⟨cf, i, k, f, st, cell, h1, h2, h3, h4, K.2.1 st cell h5 (fun z => by rw [q st z cell h5] at h6; cases h6), h6, h7⟩
theorem own_fitc {a : Addr} {cl : Cell} {ty : FieldType} {vs : List Value} {d : Value} (A : Arr Z h a cl ty) (H : Has cl vs d) (G : ∀ i, i < cl.slots.size → fits ty (vs.getD i d) = true) : FitC Z cl :=
  fitC_of A fun i hi v hv => by rw [H i hi] at hv; cases hv; exact G i hi
theorem own_evI {args : Array Value} {s : State} {t : Term} {k : Int32} (hh : (Cond.eq t (.int k)).value args s none s [] = some true) : t.eval args s none [] s = some (.int k) := by
  cases hf : t.eval args s none [] s with
  | none => simp [Cond.value, hf] at hh
  | some w => cases w <;> simp [Cond.value, hf, Term.eval] at hh ⊢; exact hh
theorem own_evJ {args : Array Value} {s : State} {t : Term} {k : Int64} (hh : (Cond.eq t (.long k)).value args s none s [] = some true) : t.eval args s none [] s = some (.long k) := by
  cases hf : t.eval args s none [] s with
  | none => simp [Cond.value, hf] at hh
  | some w => cases w <;> simp [Cond.value, hf, Term.eval] at hh ⊢; exact hh
theorem own_evR {args : Array Value} {s : State} {t u : Term} {y : Addr} (hu : u.eval args s none [] s = some (.ref y)) (hh : (Cond.eq t u).value args s none s [] = some true) : t.eval args s none [] s = some (.ref y) := by
  cases hf : t.eval args s none [] s with
  | none => simp [Cond.value, hf] at hh
  | some w => cases w <;> simp [Cond.value, hf, hu] at hh ⊢; exact hh
theorem own_elem {args : Array Value} {s : State} {t u : Term} {x y : Addr} {k : Int32} {cl : Cell} (ht : t.eval args s none [] s = some (.ref x)) (hu : u.eval args s none [] s = some (.ref y)) (hc : s.heap[x]? = some cl) (hh : (Cond.eq (.elem t (.int k)) u).value args s none s [] = some true) : cl.slots[k.toNatClampNeg]? = some (.ref y) :=
  (elem_in (own_evR hu hh) ht rfl hc).2
theorem own_arv {args : Array Value} {s : State} {t : Term} {a : Addr} {c : Cell} {ty : FieldType} {z : Int32} {vs : List Value} {dv : Value} (hf : Fit s) (ev : t.eval args s none [] s = some (.ref a)) (A : Arr s s.heap a c ty) (hl : (Cond.eq (.length t) (.int z)).value args s none s [] = some true) (hz : ¬ z < 0) (hn : z.toNatClampNeg = vs.length) (H : HasL c 0 vs) : Arv s s.heap a c.cls ty z vs dv := by
  have e1 := own_evI hl
  have e2 : s.arrayAt? a = some c := A.fin (Vm.Alike.refl _)
  have q : c.slots.size < 2 ^ 31 := by
    apply Decidable.byContradiction
    intro hq
    simp [Term.eval, ev, e2, hq] at e1
  have e3 := len_f ev e2 q
  exact Arv.start hf A q (Value.int.inj (Option.some.inj (e3.symm.trans e1))) hz hn H
theorem own_lam {s : State} {a0 : Array Value} {y : MethodName} {m : MethodId} {pc index : Nat} {σ : Lambda.Shape} (hZ : Z.Warmed39 s.vm) (w : (Cond.lambdaSite y pc index σ).before a0 Z = true) (hcap : σ.captured = []) (hn : s.methodNamed? y = some m) :
    ∃ (k : Class) (i0 p0 : Nat) (a : Addr), s.vm.classes[m.cls]? = some k ∧ (k.callSites.find? fun z => z.1 == m.idx && z.2.1 == pc) = some (i0, p0, .constant a) := by
  obtain ⟨c, one, hat⟩ := Cond.lambdaSite_spec w
  obtain ⟨m', kS, cfS, i0, p0, lk, hm', hkS, -, -, -, hfind, -, -, hlk⟩ := State.lambdaAt?_spec hat
  have e1 : s.methodNamed? y = Z.methodNamed? y := State.methodNamed?_setVm (s := Z) hZ.alike y
  rw [e1, hm'] at hn
  cases hn
  obtain ⟨k', hk', he⟩ := hZ.alike.2.2 _ _ hkS
  rcases hlk with ⟨a, cell, rfl, -⟩ | ⟨-, -, h⟩
  · exact ⟨k', i0, p0, a, hk', by rw [he]; exact hfind⟩
  · exact absurd hcap h
theorem own_cmp_self (x : Int64) : lcmpW x x = 0 := (lcW x x).trans ((lc_eq x x).mpr rfl)
theorem own_cmp_lt (x : Int64) : ¬ (lcmpW x x < (0 : Int32)) := by rw [own_cmp_self]; decide
theorem own_cmp_gt (x : Int64) : ¬ ((0 : Int32) < lcmpW x x) := by rw [own_cmp_self]; decide
theorem own_sel_priv {s : State} {args args' : Array Value} {K : String} {y z z' : MethodName} (w : (Cond.selects K z' z).before args s = true) (hz : z.cls = y.cls) (hpriv : s.PrivateAt y) (hinst : (Cond.instanceMethod y).before args' s = true) (hy : y.cls ≠ "java/lang/invoke/MethodHandle" ∧ y.cls ≠ "java/lang/invoke/VarHandle") : (Cond.selects y.cls y y).before args' s = true := by
  obtain ⟨c2, r2, m2, q1, q2, q3, q4, kP, hkP, hkPi⟩ := Cond.selects_spec w
  have hc : s.vm.findClass z.cls = some m2.cls := findClass_of_methodNamed q3
  rw [hz] at hc
  exact selects_self_of_private hc hkP hkPi hpriv hinst hy
theorem own_lt_ne {a b : Int32} (q : a < b) : ¬ (a = b) := by intro z; subst z; exact Int32.lt_irrefl q
theorem own_gt_ne {a b : Int32} (q : b < a) : ¬ (a = b) := by intro z; subst z; exact Int32.lt_irrefl q
theorem own_eq_nlt {a b : Int32} (q : a = b) : ¬ (a < b) := by subst q; exact Int32.lt_irrefl
theorem own_nlt {a b : Int32} (q : b < a) : ¬ (a < b) := fun z => Int32.lt_irrefl (Int32.lt_trans z q)
theorem own_tri2 {a b : Int32} (q : ¬ (a = b)) (r : ¬ (b < a)) : a < b := by
  rw [← Int32.toInt_inj] at q; rw [Int32.lt_iff_toInt_lt] at r ⊢; omega
theorem own_fldI {args : Array Value} {s : State} {t : Term} {x : Addr} {C n d : String} {k : Int32} (ht : t.eval args s none [] s = some (.ref x)) (hh : (Cond.eq (.field t C n d) (.int k)).value args s none s [] = some true) : Fld s s.heap x C n d (.int k) :=
  Fld.start ((fld_at ht).symm.trans (own_evI hh))
theorem own_fldJ {args : Array Value} {s : State} {t : Term} {x : Addr} {C n d : String} {k : Int64} (ht : t.eval args s none [] s = some (.ref x)) (hh : (Cond.eq (.field t C n d) (.long k)).value args s none s [] = some true) : Fld s s.heap x C n d (.long k) :=
  Fld.start ((fld_at ht).symm.trans (own_evJ hh))
theorem own_fldN {args : Array Value} {s : State} {t : Term} {x : Addr} {C n d : String} (ht : t.eval args s none [] s = some (.ref x)) (hh : (Cond.eq (.field t C n d) .null).value args s none s [] = some true) : Fld s s.heap x C n d .null := by
  refine Fld.start ?_
  have e1 : (Term.field t C n d).eval args s none [] s = s.fieldOf? x C n d := fld_at ht
  rw [← e1]; exact null_v hh
theorem own_fldR {args : Array Value} {s : State} {t u : Term} {x y : Addr} {C n d : String} (ht : t.eval args s none [] s = some (.ref x)) (hu : u.eval args s none [] s = some (.ref y)) (hh : (Cond.eq (.field t C n d) u).value args s none s [] = some true) : Fld s s.heap x C n d (.ref y) :=
  Fld.start ((fld_at ht).symm.trans (own_evR hu hh))
end Carry
end Jvm.RoadKit
namespace Jvm.Pilot.@@N@@
open Jvm Jvm.ClassFile Sem Op Lib Jvm.Free Jvm.Stand Jvm.LawKit Jvm.RoadKit Bundle Jvm.Pilot.@@N@@.Jvm.D
theorem own_en4 (x : Int32) : ((x &&& (2147483647 : Int32)) % (4 : Int32)) = (0 : Int32) ∨ ((x &&& (2147483647 : Int32)) % (4 : Int32)) = (1 : Int32) ∨ ((x &&& (2147483647 : Int32)) % (4 : Int32)) = (2 : Int32) ∨ ((x &&& (2147483647 : Int32)) % (4 : Int32)) = (3 : Int32) := by
  have e1 := c_mask x (2147483647 : Int32) 31 (by decide) (by decide)
  have e2 : ((x &&& (2147483647 : Int32)) % (4 : Int32)).toInt = (x &&& (2147483647 : Int32)).toInt.tmod (4 : Int32).toInt := Int32.toInt_mod _ _
  have e3 : (4 : Int32).toInt = 4 := by decide
  have h0 : 0 ≤ (x &&& (2147483647 : Int32)).toInt := by first | omega | (rw [e1]; exact Int.emod_nonneg _ (by decide))
  rw [e3, Int.tmod_eq_emod_of_nonneg h0] at e2
  simp only [← Int32.toInt_inj]
  have l0 : (0 : Int32).toInt = 0 := by decide
  have l1 : (1 : Int32).toInt = 1 := by decide
  have l2 : (2 : Int32).toInt = 2 := by decide
  have l3 : (3 : Int32).toInt = 3 := by decide
  rw [l0, l1, l2, l3]
  omega
theorem own_w3 {Z : State} {a0 : Array Value} (hw : ∀ d ∈ tables_1, d.before a0 Z = true) : (Jvm.Cond.laysStatic "com/example/hubclear/hubclear/settlement/Component" "EX_ANTE" "Lcom/example/hubclear/hubclear/settlement/Component;").before a0 Z = true := hw _ (List.mem_of_getElem? (i := 3) rfl)
theorem own_w2 {Z : State} {a0 : Array Value} (hw : ∀ d ∈ tables_1, d.before a0 Z = true) : (Jvm.Cond.initialized "com/example/hubclear/hubclear/settlement/Component").before a0 Z = true := hw _ (List.mem_of_getElem? (i := 2) rfl)
theorem own_w6 {Z : State} {a0 : Array Value} (hw : ∀ d ∈ tables_1, d.before a0 Z = true) : (Jvm.Cond.laysStatic "com/example/hubclear/hubclear/settlement/SettlementItem" "EX_ANTE_PAYMENT" "Lcom/example/hubclear/hubclear/settlement/SettlementItem;").before a0 Z = true := hw _ (List.mem_of_getElem? (i := 6) rfl)
theorem own_w5 {Z : State} {a0 : Array Value} (hw : ∀ d ∈ tables_1, d.before a0 Z = true) : (Jvm.Cond.initialized "com/example/hubclear/hubclear/settlement/SettlementItem").before a0 Z = true := hw _ (List.mem_of_getElem? (i := 5) rfl)
theorem own_w29 {Z : State} {a0 : Array Value} (hw : ∀ d ∈ tables_1, d.before a0 Z = true) : (Jvm.Cond.laysStatic "com/example/hubclear/hubclear/settlement/Component" "MOS" "Lcom/example/hubclear/hubclear/settlement/Component;").before a0 Z = true := hw _ (List.mem_of_getElem? (i := 29) rfl)
theorem own_w31 {Z : State} {a0 : Array Value} (hw : ∀ d ∈ tables_1, d.before a0 Z = true) : (Jvm.Cond.laysStatic "com/example/hubclear/hubclear/settlement/SettlementItem" "MOS_PAYMENT" "Lcom/example/hubclear/hubclear/settlement/SettlementItem;").before a0 Z = true := hw _ (List.mem_of_getElem? (i := 31) rfl)
theorem own_w33 {Z : State} {a0 : Array Value} (hw : ∀ d ∈ tables_1, d.before a0 Z = true) : (Jvm.Cond.laysStatic "com/example/hubclear/hubclear/settlement/Component" "CAPACITY" "Lcom/example/hubclear/hubclear/settlement/Component;").before a0 Z = true := hw _ (List.mem_of_getElem? (i := 33) rfl)
theorem own_w35 {Z : State} {a0 : Array Value} (hw : ∀ d ∈ tables_1, d.before a0 Z = true) : (Jvm.Cond.laysStatic "com/example/hubclear/hubclear/settlement/SettlementItem" "CAPACITY_PAYMENT" "Lcom/example/hubclear/hubclear/settlement/SettlementItem;").before a0 Z = true := hw _ (List.mem_of_getElem? (i := 35) rfl)
theorem own_w37 {Z : State} {a0 : Array Value} (hw : ∀ d ∈ tables_1, d.before a0 Z = true) : (Jvm.Cond.laysStatic "com/example/hubclear/hubclear/settlement/Component" "FLOW_DIRECTION" "Lcom/example/hubclear/hubclear/settlement/Component;").before a0 Z = true := hw _ (List.mem_of_getElem? (i := 37) rfl)
theorem own_w39 {Z : State} {a0 : Array Value} (hw : ∀ d ∈ tables_1, d.before a0 Z = true) : (Jvm.Cond.laysStatic "com/example/hubclear/hubclear/settlement/SettlementItem" "FLOW_DIRECTION_PAYMENT" "Lcom/example/hubclear/hubclear/settlement/SettlementItem;").before a0 Z = true := hw _ (List.mem_of_getElem? (i := 39) rfl)
theorem own_w0 {Z : State} {a0 : Array Value} (hw : ∀ d ∈ tables_1, d.before a0 Z = true) : (Jvm.Cond.constant "com/example/hubclear/hubclear/settlement/ComponentPaymentPinLaw" (7 : Nat) (2147483647 : Int32)).before a0 Z = true := hw _ (List.mem_of_getElem? (i := 0) rfl)
theorem own_w1 {Z : State} {a0 : Array Value} (hw : ∀ d ∈ tables_1, d.before a0 Z = true) : (Jvm.Cond.fieldLink "com/example/hubclear/hubclear/settlement/ComponentPaymentPinLaw" (8 : Nat) "com/example/hubclear/hubclear/settlement/Component" "EX_ANTE" "Lcom/example/hubclear/hubclear/settlement/Component;").before a0 Z = true := hw _ (List.mem_of_getElem? (i := 1) rfl)
theorem own_w4 {Z : State} {a0 : Array Value} (hw : ∀ d ∈ tables_1, d.before a0 Z = true) : (Jvm.Cond.fieldLink "com/example/hubclear/hubclear/settlement/ComponentPaymentPinLaw" (14 : Nat) "com/example/hubclear/hubclear/settlement/SettlementItem" "EX_ANTE_PAYMENT" "Lcom/example/hubclear/hubclear/settlement/SettlementItem;").before a0 Z = true := hw _ (List.mem_of_getElem? (i := 4) rfl)
theorem own_w7 {Z : State} {a0 : Array Value} (hw : ∀ d ∈ tables_1, d.before a0 Z = true) : (Jvm.Cond.methodLink "com/example/hubclear/hubclear/settlement/ComponentPaymentPinLaw" (38 : Nat) ({ cls := "com/example/hubclear/hubclear/settlement/Component", name := "payment", desc := "()Lcom/example/hubclear/hubclear/settlement/SettlementItem;" } : Jvm.MethodName)).before a0 Z = true := hw _ (List.mem_of_getElem? (i := 7) rfl)
theorem d1_0 : decode prog_56_method_4_code 0 = .ok (.aload_n 0, 1) := by decide +kernel
theorem d1_1 : decode prog_56_method_4_code 1 = .ok (.getfield 38, 3) := by decide +kernel
theorem own_w12 {Z : State} {a0 : Array Value} (hw : ∀ d ∈ tables_1, d.before a0 Z = true) : (Jvm.Cond.fieldLink "com/example/hubclear/hubclear/settlement/Component" (38 : Nat) "com/example/hubclear/hubclear/settlement/Component" "payment" "Lcom/example/hubclear/hubclear/settlement/SettlementItem;").before a0 Z = true := hw _ (List.mem_of_getElem? (i := 12) rfl)
theorem d1_4 : decode prog_56_method_4_code 4 = .ok (.ifnonnull 20, 3) := by decide +kernel
theorem d1_24 : decode prog_56_method_4_code 24 = .ok (.aload_n 0, 1) := by decide +kernel
theorem d1_25 : decode prog_56_method_4_code 25 = .ok (.getfield 38, 3) := by decide +kernel
theorem d1_28 : decode prog_56_method_4_code 28 = .ok (.areturn, 1) := by decide +kernel
theorem pn_com_example_hubclear_hubclear_settlement_Component : plainName "com/example/hubclear/hubclear/settlement/Component" = true := by first | (simp [plainName, overriddenIn]; done) | decide +kernel
theorem own_w11 {Z : State} {a0 : Array Value} (hw : ∀ d ∈ tables_1, d.before a0 Z = true) : (Jvm.Cond.code ({ cls := "com/example/hubclear/hubclear/settlement/Component", name := "payment", desc := "()Lcom/example/hubclear/hubclear/settlement/SettlementItem;" } : Jvm.MethodName) prog_56_method_4_code (1 : Nat) (Option.some (Jvm.ClassFile.FieldType.object "com/example/hubclear/hubclear/settlement/SettlementItem"))).before a0 Z = true := hw _ (List.mem_of_getElem? (i := 11) rfl)
theorem pd___Lcom_example_hubclear_hubclear_settlement_SettlementItem_ : parseMethodDescriptor "()Lcom/example/hubclear/hubclear/settlement/SettlementItem;" = some ⟨[], some (.object "com/example/hubclear/hubclear/settlement/SettlementItem")⟩ := by decide +kernel
theorem own_w10 {Z : State} {a0 : Array Value} (hw : ∀ d ∈ tables_1, d.before a0 Z = true) : (Jvm.Cond.selects "com/example/hubclear/hubclear/settlement/Component" ({ cls := "com/example/hubclear/hubclear/settlement/Component", name := "payment", desc := "()Lcom/example/hubclear/hubclear/settlement/SettlementItem;" } : Jvm.MethodName) ({ cls := "com/example/hubclear/hubclear/settlement/Component", name := "payment", desc := "()Lcom/example/hubclear/hubclear/settlement/SettlementItem;" } : Jvm.MethodName)).before a0 Z = true := hw _ (List.mem_of_getElem? (i := 10) rfl)
theorem own_w8 {Z : State} {a0 : Array Value} (hw : ∀ d ∈ tables_1, d.before a0 Z = true) : (Jvm.Cond.declares ({ cls := "com/example/hubclear/hubclear/settlement/Component", name := "payment", desc := "()Lcom/example/hubclear/hubclear/settlement/SettlementItem;" } : Jvm.MethodName)).before a0 Z = true := hw _ (List.mem_of_getElem? (i := 8) rfl)
theorem own_w9 {Z : State} {a0 : Array Value} (hw : ∀ d ∈ tables_1, d.before a0 Z = true) : (Jvm.Cond.instanceMethod ({ cls := "com/example/hubclear/hubclear/settlement/Component", name := "payment", desc := "()Lcom/example/hubclear/hubclear/settlement/SettlementItem;" } : Jvm.MethodName)).before a0 Z = true := hw _ (List.mem_of_getElem? (i := 9) rfl)
theorem own_w14 {Z : State} {a0 : Array Value} (hw : ∀ d ∈ tables_1, d.before a0 Z = true) : (Jvm.Cond.methodLink "com/example/hubclear/hubclear/settlement/ComponentPaymentPinLaw" (42 : Nat) ({ cls := "com/example/hubclear/hubclear/settlement/SettlementItem", name := "isCharge", desc := "()Z" } : Jvm.MethodName)).before a0 Z = true := hw _ (List.mem_of_getElem? (i := 14) rfl)
theorem d2_0 : decode prog_72_method_4_code 0 = .ok (.aload_n 0, 1) := by decide +kernel
theorem d2_1 : decode prog_72_method_4_code 1 = .ok (.invokevirtual 56, 3) := by decide +kernel
theorem own_w19 {Z : State} {a0 : Array Value} (hw : ∀ d ∈ tables_1, d.before a0 Z = true) : (Jvm.Cond.methodLink "com/example/hubclear/hubclear/settlement/SettlementItem" (56 : Nat) ({ cls := "com/example/hubclear/hubclear/settlement/SettlementItem", name := "ordinal", desc := "()I" } : Jvm.MethodName)).before a0 Z = true := hw _ (List.mem_of_getElem? (i := 19) rfl)
theorem d3_0 : decode jdk_37_method_2_code 0 = .ok (.aload_n 0, 1) := by decide +kernel
theorem d3_1 : decode jdk_37_method_2_code 1 = .ok (.getfield 7, 3) := by decide +kernel
theorem own_w26 {Z : State} {a0 : Array Value} (hw : ∀ d ∈ tables_1, d.before a0 Z = true) : (Jvm.Cond.fieldLink "java/lang/Enum" (7 : Nat) "java/lang/Enum" "ordinal" "I").before a0 Z = true := hw _ (List.mem_of_getElem? (i := 26) rfl)
theorem d3_4 : decode jdk_37_method_2_code 4 = .ok (.ireturn, 1) := by decide +kernel
theorem pn_java_lang_Enum : plainName "java/lang/Enum" = true := by first | (simp [plainName, overriddenIn]; done) | decide +kernel
theorem own_w25 {Z : State} {a0 : Array Value} (hw : ∀ d ∈ tables_1, d.before a0 Z = true) : (Jvm.Cond.code ({ cls := "java/lang/Enum", name := "ordinal", desc := "()I" } : Jvm.MethodName) jdk_37_method_2_code (1 : Nat) (Option.some Jvm.ClassFile.FieldType.int)).before a0 Z = true := hw _ (List.mem_of_getElem? (i := 25) rfl)
theorem own_w24 {Z : State} {a0 : Array Value} (hw : ∀ d ∈ tables_1, d.before a0 Z = true) : (Jvm.Cond.initialized "java/lang/Enum").before a0 Z = true := hw _ (List.mem_of_getElem? (i := 24) rfl)
theorem pd___I : parseMethodDescriptor "()I" = some ⟨[], some .int⟩ := by decide +kernel
theorem own_w23 {Z : State} {a0 : Array Value} (hw : ∀ d ∈ tables_1, d.before a0 Z = true) : (Jvm.Cond.selects "com/example/hubclear/hubclear/settlement/SettlementItem" ({ cls := "com/example/hubclear/hubclear/settlement/SettlementItem", name := "ordinal", desc := "()I" } : Jvm.MethodName) ({ cls := "java/lang/Enum", name := "ordinal", desc := "()I" } : Jvm.MethodName)).before a0 Z = true := hw _ (List.mem_of_getElem? (i := 23) rfl)
theorem own_w20 {Z : State} {a0 : Array Value} (hw : ∀ d ∈ tables_1, d.before a0 Z = true) : (Jvm.Cond.sameMethod "com/example/hubclear/hubclear/settlement/SettlementItem" "java/lang/Enum" "ordinal" "()I").before a0 Z = true := hw _ (List.mem_of_getElem? (i := 20) rfl)
theorem own_w21 {Z : State} {a0 : Array Value} (hw : ∀ d ∈ tables_1, d.before a0 Z = true) : (Jvm.Cond.declares ({ cls := "java/lang/Enum", name := "ordinal", desc := "()I" } : Jvm.MethodName)).before a0 Z = true := hw _ (List.mem_of_getElem? (i := 21) rfl)
theorem own_w22 {Z : State} {a0 : Array Value} (hw : ∀ d ∈ tables_1, d.before a0 Z = true) : (Jvm.Cond.instanceMethod ({ cls := "java/lang/Enum", name := "ordinal", desc := "()I" } : Jvm.MethodName)).before a0 Z = true := hw _ (List.mem_of_getElem? (i := 22) rfl)
theorem d2_4 : decode prog_72_method_4_code 4 = .ok (.tableswitch 60 0 10 #[74, 70, 74, 70, 74, 70, 70, 74, 70, 74, 70], 60) := by decide +kernel
theorem d2_78 : decode prog_72_method_4_code 78 = .ok (.iconst 0, 1) := by decide +kernel
theorem d2_79 : decode prog_72_method_4_code 79 = .ok (.ireturn, 1) := by decide +kernel
theorem pn_com_example_hubclear_hubclear_settlement_SettlementItem : plainName "com/example/hubclear/hubclear/settlement/SettlementItem" = true := by first | (simp [plainName, overriddenIn]; done) | decide +kernel
theorem own_w18 {Z : State} {a0 : Array Value} (hw : ∀ d ∈ tables_1, d.before a0 Z = true) : (Jvm.Cond.code ({ cls := "com/example/hubclear/hubclear/settlement/SettlementItem", name := "isCharge", desc := "()Z" } : Jvm.MethodName) prog_72_method_4_code (1 : Nat) (Option.some Jvm.ClassFile.FieldType.boolean)).before a0 Z = true := hw _ (List.mem_of_getElem? (i := 18) rfl)
theorem pd___Z : parseMethodDescriptor "()Z" = some ⟨[], some .boolean⟩ := by decide +kernel
theorem own_w17 {Z : State} {a0 : Array Value} (hw : ∀ d ∈ tables_1, d.before a0 Z = true) : (Jvm.Cond.selects "com/example/hubclear/hubclear/settlement/SettlementItem" ({ cls := "com/example/hubclear/hubclear/settlement/SettlementItem", name := "isCharge", desc := "()Z" } : Jvm.MethodName) ({ cls := "com/example/hubclear/hubclear/settlement/SettlementItem", name := "isCharge", desc := "()Z" } : Jvm.MethodName)).before a0 Z = true := hw _ (List.mem_of_getElem? (i := 17) rfl)
theorem own_w15 {Z : State} {a0 : Array Value} (hw : ∀ d ∈ tables_1, d.before a0 Z = true) : (Jvm.Cond.declares ({ cls := "com/example/hubclear/hubclear/settlement/SettlementItem", name := "isCharge", desc := "()Z" } : Jvm.MethodName)).before a0 Z = true := hw _ (List.mem_of_getElem? (i := 15) rfl)
theorem own_w16 {Z : State} {a0 : Array Value} (hw : ∀ d ∈ tables_1, d.before a0 Z = true) : (Jvm.Cond.instanceMethod ({ cls := "com/example/hubclear/hubclear/settlement/SettlementItem", name := "isCharge", desc := "()Z" } : Jvm.MethodName)).before a0 Z = true := hw _ (List.mem_of_getElem? (i := 16) rfl)
theorem own_w36 {Z : State} {a0 : Array Value} (hw : ∀ d ∈ tables_1, d.before a0 Z = true) : (Jvm.Cond.fieldLink "com/example/hubclear/hubclear/settlement/ComponentPaymentPinLaw" (20 : Nat) "com/example/hubclear/hubclear/settlement/Component" "FLOW_DIRECTION" "Lcom/example/hubclear/hubclear/settlement/Component;").before a0 Z = true := hw _ (List.mem_of_getElem? (i := 36) rfl)
theorem own_w38 {Z : State} {a0 : Array Value} (hw : ∀ d ∈ tables_1, d.before a0 Z = true) : (Jvm.Cond.fieldLink "com/example/hubclear/hubclear/settlement/ComponentPaymentPinLaw" (23 : Nat) "com/example/hubclear/hubclear/settlement/SettlementItem" "FLOW_DIRECTION_PAYMENT" "Lcom/example/hubclear/hubclear/settlement/SettlementItem;").before a0 Z = true := hw _ (List.mem_of_getElem? (i := 38) rfl)
theorem own_w32 {Z : State} {a0 : Array Value} (hw : ∀ d ∈ tables_1, d.before a0 Z = true) : (Jvm.Cond.fieldLink "com/example/hubclear/hubclear/settlement/ComponentPaymentPinLaw" (26 : Nat) "com/example/hubclear/hubclear/settlement/Component" "CAPACITY" "Lcom/example/hubclear/hubclear/settlement/Component;").before a0 Z = true := hw _ (List.mem_of_getElem? (i := 32) rfl)
theorem own_w34 {Z : State} {a0 : Array Value} (hw : ∀ d ∈ tables_1, d.before a0 Z = true) : (Jvm.Cond.fieldLink "com/example/hubclear/hubclear/settlement/ComponentPaymentPinLaw" (29 : Nat) "com/example/hubclear/hubclear/settlement/SettlementItem" "CAPACITY_PAYMENT" "Lcom/example/hubclear/hubclear/settlement/SettlementItem;").before a0 Z = true := hw _ (List.mem_of_getElem? (i := 34) rfl)
theorem own_w28 {Z : State} {a0 : Array Value} (hw : ∀ d ∈ tables_1, d.before a0 Z = true) : (Jvm.Cond.fieldLink "com/example/hubclear/hubclear/settlement/ComponentPaymentPinLaw" (32 : Nat) "com/example/hubclear/hubclear/settlement/Component" "MOS" "Lcom/example/hubclear/hubclear/settlement/Component;").before a0 Z = true := hw _ (List.mem_of_getElem? (i := 28) rfl)
theorem own_w30 {Z : State} {a0 : Array Value} (hw : ∀ d ∈ tables_1, d.before a0 Z = true) : (Jvm.Cond.fieldLink "com/example/hubclear/hubclear/settlement/ComponentPaymentPinLaw" (35 : Nat) "com/example/hubclear/hubclear/settlement/SettlementItem" "MOS_PAYMENT" "Lcom/example/hubclear/hubclear/settlement/SettlementItem;").before a0 Z = true := hw _ (List.mem_of_getElem? (i := 30) rfl)
theorem pn_com_example_hubclear_hubclear_settlement_ComponentPaymentPinLaw : plainName "com/example/hubclear/hubclear/settlement/ComponentPaymentPinLaw" = true := by first | (simp [plainName, overriddenIn]; done) | decide +kernel
theorem ef1_1 (m : MethodId) (a1 : Addr) : entryFrame m #[(.ref a1)] 1 = mkF m 0 #[.val (.ref a1)] [] := by first | (simp [entryFrame, mkF, argsToLocals, Value.category]; done) | rfl
def Q1_1 (Z : State) (a1 : Addr) (a2 : Addr) (h0 : Heap) (n0 : Nat) (v : Option Value) (h : Heap) (L : List Loc) : Prop := v = some (.ref a2) ∧ Fr n0 L ∧ h = h0
set_option maxRecDepth 65536 in
set_option maxHeartbeats 40000000 in
theorem rm1_1 (l : Launch) (Z : State) (a0 : Array Value) (hw : ∀ d ∈ tables_1, d.before a0 Z = true) (ws : List Jvm.Cond) (a1 : Addr) (a2 : Addr) (h0 : Heap) (n0 : Nat) (Z0 : n0 ≤ h0.size) (F_a1_payment : Fld Z h0 a1 "com/example/hubclear/hubclear/settlement/Component" "payment" "Lcom/example/hubclear/hubclear/settlement/SettlementItem;" (.ref a2)) :
    MetFree l (⟨"com/example/hubclear/hubclear/settlement/Component", "payment", "()Lcom/example/hubclear/hubclear/settlement/SettlementItem;"⟩ : MethodName) (head1 (Jvm.Cond.code (⟨"com/example/hubclear/hubclear/settlement/Component", "payment", "()Lcom/example/hubclear/hubclear/settlement/SettlementItem;"⟩ : MethodName) prog_56_method_4_code 1 (some (.object "com/example/hubclear/hubclear/settlement/SettlementItem")) :: ws) ({ frames := 0, cells := 0, slots := 0, locals := 0 } : Room)) (fun a U => a = #[(.ref a1)] ∧ Z.Warmed39 U.vm ∧ U.heap = h0) (fun _ _ _ _ _ => True) (fun _ U o U' => ∃ v L, o = .returned v ∧ Q1_1 Z a1 a2 h0 n0 v U'.heap L ∧ FrameEnd U o U' L ({ frames := 0, cells := 0, slots := 0, locals := 0 } : Room).cells ({ frames := 0, cells := 0, slots := 0, locals := 0 } : Room).slots) := by
  refine MetFree.of_bodySF (plainFor_of_name pn_com_example_hubclear_hubclear_settlement_Component) hisR ?_
  intro p e s m args below meth c s₁ Bd hml0 hP hK
  obtain ⟨rfl, hZ, hh⟩ := hP
  have hx := Bd.exec
  have hby := Bd.bytes
  have hml : c.maxLocals = 1 := hml0
  have hown : s.vm.findClass "com/example/hubclear/hubclear/settlement/Component" = some m.cls := findClass_of_methodNamed Bd.named
  have hnm := (name_of_methodNamed Bd.named Bd.method).1
  have X0 : Stand p l e ({ frames := 0, cells := 0, slots := 0, locals := 0 } : Room) s m #[(.ref a1)] below meth c s₁ [] 0 0 := Stand.of_body Bd
  have e0 : s₁.heap = h0 := by rw [← hh, Bd.state]; rfl
  have N0 := Fr.nil n0
  have pre0 : ∀ t, Steps p.tables e below (s₁.setTop (mkF m 0 #[.val (.ref a1)] [])) t → Steps p.tables e below (s₁.setTop (entryFrame m #[(.ref a1)] 1)) t := fun t k => castTop (ef1_1 m a1) k
  obtain ⟨T1, X1, e1, st1⟩ := getF X0 hx hZ hown (host := "") (Or.inl (own_w12 hw)) Via.refl e0 F_a1_payment (g := (mkF m 1 #[.val (.ref a1)] [(.ref a1)])) rfl rfl (hb hby d1_1)
  obtain ⟨T2, X2, e2, st2⟩ := getF X1 hx hZ hown (host := "") (Or.inl (own_w12 hw)) Via.refl e1 F_a1_payment (g := (mkF m 25 #[.val (.ref a1)] [(.ref a1)])) rfl rfl (hb hby d1_25)
  obtain ⟨fs, hr, hrun, hended, hW, hsame⟩ := X2.leave (v := some (.ref a2)) (fun h => by rw [Bd.returns] at h; cases h)
  refine ⟨_, _, pre0 _ ?_, hrun, hended, _, _, rfl, ?_, ⟨_, rfl⟩, hW, hsame.mono (by decide) (by decide)⟩
  · show Steps p.tables e below (s₁.setTop (mkF m 0 #[.val (.ref a1)] [])) _
    refine XS.aloadN X0.here hx rfl (hb hby d1_0) rfl rfl ?_
    show Steps p.tables e below (s₁.setTop (mkF m 1 #[.val (.ref a1)] [(.ref a1)])) _
    refine st1 _ ?_
    show Steps p.tables e below (T1.setTop (mkF m 4 #[.val (.ref a1)] [(.ref a2)])) _
    refine XS.ifnonnullYes X1.here hx rfl (pc0 := 4) (pc' := 24) rfl (hb hby d1_4) rfl (by decide) (by decide) ?_
    show Steps p.tables e below (T1.setTop (mkF m 24 #[.val (.ref a1)] [])) _
    refine XS.aloadN X1.here hx rfl (hb hby d1_24) rfl rfl ?_
    show Steps p.tables e below (T1.setTop (mkF m 25 #[.val (.ref a1)] [(.ref a1)])) _
    refine st2 _ ?_
    show Steps p.tables e below (T2.setTop (mkF m 28 #[.val (.ref a1)] [(.ref a2)])) _
    exact retOut X2 hx Bd.returns rfl (Or.inr (Or.inr (Or.inr (Or.inr ⟨rfl, rfl, rfl⟩)))) (hb hby d1_28) hr
  · show Q1_1 Z a1 a2 h0 n0 _ T2.heap _
    rw [e2]
    exact ⟨rfl, N0, rfl⟩
theorem ef3_2 (m : MethodId) (a1 : Addr) : entryFrame m #[(.ref a1)] 1 = mkF m 0 #[.val (.ref a1)] [] := by first | (simp [entryFrame, mkF, argsToLocals, Value.category]; done) | rfl
def Q3_2 (Z : State) (a1 : Addr) (h0 : Heap) (n0 : Nat) (v : Option Value) (h : Heap) (L : List Loc) : Prop := v = some (.int (0 : Int32)) ∧ Fr n0 L ∧ h = h0
set_option maxRecDepth 65536 in
set_option maxHeartbeats 40000000 in
theorem rm3_2 (l : Launch) (Z : State) (a0 : Array Value) (hw : ∀ d ∈ tables_1, d.before a0 Z = true) (ws : List Jvm.Cond) (a1 : Addr) (h0 : Heap) (n0 : Nat) (Z0 : n0 ≤ h0.size) (F_a1_ordinal : Fld Z h0 a1 "java/lang/Enum" "ordinal" "I" (.int (0 : Int32))) :
    MetFree l (⟨"java/lang/Enum", "ordinal", "()I"⟩ : MethodName) (head1 (Jvm.Cond.code (⟨"java/lang/Enum", "ordinal", "()I"⟩ : MethodName) jdk_37_method_2_code 1 (some .int) :: ws) ({ frames := 0, cells := 0, slots := 0, locals := 0 } : Room)) (fun a U => a = #[(.ref a1)] ∧ Z.Warmed39 U.vm ∧ U.heap = h0) (fun _ _ _ _ _ => True) (fun _ U o U' => ∃ v L, o = .returned v ∧ Q3_2 Z a1 h0 n0 v U'.heap L ∧ FrameEnd U o U' L ({ frames := 0, cells := 0, slots := 0, locals := 0 } : Room).cells ({ frames := 0, cells := 0, slots := 0, locals := 0 } : Room).slots) := by
  refine MetFree.of_bodySF (plainFor_of_name pn_java_lang_Enum) hisR ?_
  intro p e s m args below meth c s₁ Bd hml0 hP hK
  obtain ⟨rfl, hZ, hh⟩ := hP
  have hx := Bd.exec
  have hby := Bd.bytes
  have hml : c.maxLocals = 1 := hml0
  have hown : s.vm.findClass "java/lang/Enum" = some m.cls := findClass_of_methodNamed Bd.named
  have hnm := (name_of_methodNamed Bd.named Bd.method).1
  have X0 : Stand p l e ({ frames := 0, cells := 0, slots := 0, locals := 0 } : Room) s m #[(.ref a1)] below meth c s₁ [] 0 0 := Stand.of_body Bd
  have e0 : s₁.heap = h0 := by rw [← hh, Bd.state]; rfl
  have N0 := Fr.nil n0
  have pre0 : ∀ t, Steps p.tables e below (s₁.setTop (mkF m 0 #[.val (.ref a1)] [])) t → Steps p.tables e below (s₁.setTop (entryFrame m #[(.ref a1)] 1)) t := fun t k => castTop (ef3_2 m a1) k
  obtain ⟨T1, X1, e1, st1⟩ := getF X0 hx hZ hown (host := "") (Or.inl (own_w26 hw)) Via.refl e0 F_a1_ordinal (g := (mkF m 1 #[.val (.ref a1)] [(.ref a1)])) rfl rfl (hb hby d3_1)
  obtain ⟨fs, hr, hrun, hended, hW, hsame⟩ := X1.leave (v := some (.int (0 : Int32))) (fun h => by rw [Bd.returns] at h; cases h)
  refine ⟨_, _, pre0 _ ?_, hrun, hended, _, _, rfl, ?_, ⟨_, rfl⟩, hW, hsame.mono (by decide) (by decide)⟩
  · show Steps p.tables e below (s₁.setTop (mkF m 0 #[.val (.ref a1)] [])) _
    refine XS.aloadN X0.here hx rfl (hb hby d3_0) rfl rfl ?_
    show Steps p.tables e below (s₁.setTop (mkF m 1 #[.val (.ref a1)] [(.ref a1)])) _
    refine st1 _ ?_
    show Steps p.tables e below (T1.setTop (mkF m 4 #[.val (.ref a1)] [(.int (0 : Int32))])) _
    exact retI X1 hx Bd.returns (hb hby d3_4) hr
  · show Q3_2 Z a1 h0 n0 _ T1.heap _
    rw [e1]
    exact ⟨rfl, N0, rfl⟩
theorem ef2_3 (m : MethodId) (a1 : Addr) : entryFrame m #[(.ref a1)] 1 = mkF m 0 #[.val (.ref a1)] [] := by first | (simp [entryFrame, mkF, argsToLocals, Value.category]; done) | rfl
def Q2_3 (Z : State) (a1 : Addr) (h0 : Heap) (n0 : Nat) (v : Option Value) (h : Heap) (L : List Loc) : Prop := v = some (.int (0 : Int32)) ∧ Fr n0 L ∧ h = h0
set_option maxRecDepth 65536 in
set_option maxHeartbeats 40000000 in
theorem rm2_3 (l : Launch) (Z : State) (a0 : Array Value) (hw : ∀ d ∈ tables_1, d.before a0 Z = true) (ws : List Jvm.Cond) (a1 : Addr) (h0 : Heap) (n0 : Nat) (Z0 : n0 ≤ h0.size) (E_a1 : Exa Z h0 a1 "com/example/hubclear/hubclear/settlement/SettlementItem") (F_a1_ordinal : Fld Z h0 a1 "java/lang/Enum" "ordinal" "I" (.int (0 : Int32))) :
    MetFree l (⟨"com/example/hubclear/hubclear/settlement/SettlementItem", "isCharge", "()Z"⟩ : MethodName) (head1 (Jvm.Cond.code (⟨"com/example/hubclear/hubclear/settlement/SettlementItem", "isCharge", "()Z"⟩ : MethodName) prog_72_method_4_code 1 (some .boolean) :: ws) ({ frames := 1, cells := 0, slots := 0, locals := 12 } : Room)) (fun a U => a = #[(.ref a1)] ∧ Z.Warmed39 U.vm ∧ U.heap = h0) (fun _ _ _ _ _ => True) (fun _ U o U' => ∃ v L, o = .returned v ∧ Q2_3 Z a1 h0 n0 v U'.heap L ∧ FrameEnd U o U' L ({ frames := 1, cells := 0, slots := 0, locals := 12 } : Room).cells ({ frames := 1, cells := 0, slots := 0, locals := 12 } : Room).slots) := by
  refine MetFree.of_bodySF (plainFor_of_name pn_com_example_hubclear_hubclear_settlement_SettlementItem) hisR ?_
  intro p e s m args below meth c s₁ Bd hml0 hP hK
  obtain ⟨rfl, hZ, hh⟩ := hP
  have hx := Bd.exec
  have hby := Bd.bytes
  have hml : c.maxLocals = 1 := hml0
  have hown : s.vm.findClass "com/example/hubclear/hubclear/settlement/SettlementItem" = some m.cls := findClass_of_methodNamed Bd.named
  have hnm := (name_of_methodNamed Bd.named Bd.method).1
  have X0 : Stand p l e ({ frames := 1, cells := 0, slots := 0, locals := 12 } : Room) s m #[(.ref a1)] below meth c s₁ [] 0 0 := Stand.of_body Bd
  have e0 : s₁.heap = h0 := by rw [← hh, Bd.state]; rfl
  have N0 := Fr.nil n0
  have pre0 : ∀ t, Steps p.tables e below (s₁.setTop (mkF m 0 #[.val (.ref a1)] [])) t → Steps p.tables e below (s₁.setTop (entryFrame m #[(.ref a1)] 1)) t := fun t k => castTop (ef2_3 m a1) k
  obtain ⟨cq1, kq1, q1a, q1b, q1c⟩ := isOf hZ e0 E_a1
  obtain ⟨_, _, ⟨T1, L1, k1, n1⟩, -, X1, ⟨Lc1, hQ1, l1, y1, z1⟩, st1⟩ := X0.virtualBackUp hx (owner := "java/lang/Enum") (x := (⟨"com/example/hubclear/hubclear/settlement/SettlementItem", "ordinal", "()I"⟩ : MethodName)) (y := (⟨"java/lang/Enum", "ordinal", "()I"⟩ : MethodName)) hown (mvT hZ (own_w19 hw)) (mvT hZ (own_w20 hw)) (mvT hZ (own_w21 hw)) (by decide) (mvT hZ (own_w23 hw)) (mvT hZ (own_w22 hw)) (backOf (W := 0) (rm3_2 l Z a0 hw [] a1 h0 n0 Z0 F_a1_ordinal) hZ (own_w25 hw) (own_w24 hw) (by decide) (by decide)) q1a q1c (g := (mkF m 1 #[.val (.ref a1)] [(.ref a1)])) rfl (by rw [hml]; rfl) (Steps.refl _) (argsL := []) (rest := []) (lenOf pd___I rfl) rfl (by show 2 * 0 + _ ≤ _; exact Nat.le_of_eq rfl) (hb hby d2_1) (fun _ _ => ⟨rfl, e0, (by decide : 0 + 0 ≤ _), (by decide : 0 + 0 ≤ _)⟩)
  dsimp only [Pt.U, Pt.locs, Pt.cells, Pt.slots] at X1 l1 y1 z1 st1 hQ1
  subst l1 y1 z1
  obtain ⟨rfl, N1q, e1⟩ := hQ1
  have N1 := Fr.app N0 N1q
  obtain ⟨fs, hr, hrun, hended, hW, hsame⟩ := X1.leave (v := some (.int (0 : Int32))) (fun h => by rw [Bd.returns] at h; cases h)
  refine ⟨_, _, pre0 _ ?_, hrun, hended, _, _, rfl, ?_, ⟨_, rfl⟩, hW, hsame.mono (by decide) (by decide)⟩
  · show Steps p.tables e below (s₁.setTop (mkF m 0 #[.val (.ref a1)] [])) _
    refine XS.aloadN X0.here hx rfl (hb hby d2_0) rfl rfl ?_
    show Steps p.tables e below (s₁.setTop (mkF m 1 #[.val (.ref a1)] [(.ref a1)])) _
    refine st1.trans ?_
    show Steps p.tables e below (T1.setTop (mkF m 4 #[.val (.ref a1)] [(.int (0 : Int32))])) _
    refine XS.tswIn X1.here hx rfl (o := 74) (pc0 := 4) (pc' := 78) rfl (hb hby d2_4) rfl (by decide) (by first | rfl | decide) (by decide) (by decide) ?_
    show Steps p.tables e below (T1.setTop (mkF m 78 #[.val (.ref a1)] [])) _
    refine XS.iconst X1.here hx rfl (hb hby d2_78) ?_
    show Steps p.tables e below (T1.setTop (mkF m 79 #[.val (.ref a1)] [(.int (0 : Int32))])) _
    exact retN X1 hx (t := .boolean) Bd.returns (by simp) (hb hby d2_79) hr
  · show Q2_3 Z a1 h0 n0 _ T1.heap _
    rw [e1]
    exact ⟨rfl, N1, rfl⟩
theorem ef3_4 (m : MethodId) (a1 : Addr) : entryFrame m #[(.ref a1)] 1 = mkF m 0 #[.val (.ref a1)] [] := by first | (simp [entryFrame, mkF, argsToLocals, Value.category]; done) | rfl
def Q3_4 (Z : State) (a1 : Addr) (h0 : Heap) (n0 : Nat) (v : Option Value) (h : Heap) (L : List Loc) : Prop := v = some (.int (2 : Int32)) ∧ Fr n0 L ∧ h = h0
set_option maxRecDepth 65536 in
set_option maxHeartbeats 40000000 in
theorem rm3_4 (l : Launch) (Z : State) (a0 : Array Value) (hw : ∀ d ∈ tables_1, d.before a0 Z = true) (ws : List Jvm.Cond) (a1 : Addr) (h0 : Heap) (n0 : Nat) (Z0 : n0 ≤ h0.size) (F_a1_ordinal : Fld Z h0 a1 "java/lang/Enum" "ordinal" "I" (.int (2 : Int32))) :
    MetFree l (⟨"java/lang/Enum", "ordinal", "()I"⟩ : MethodName) (head1 (Jvm.Cond.code (⟨"java/lang/Enum", "ordinal", "()I"⟩ : MethodName) jdk_37_method_2_code 1 (some .int) :: ws) ({ frames := 0, cells := 0, slots := 0, locals := 0 } : Room)) (fun a U => a = #[(.ref a1)] ∧ Z.Warmed39 U.vm ∧ U.heap = h0) (fun _ _ _ _ _ => True) (fun _ U o U' => ∃ v L, o = .returned v ∧ Q3_4 Z a1 h0 n0 v U'.heap L ∧ FrameEnd U o U' L ({ frames := 0, cells := 0, slots := 0, locals := 0 } : Room).cells ({ frames := 0, cells := 0, slots := 0, locals := 0 } : Room).slots) := by
  refine MetFree.of_bodySF (plainFor_of_name pn_java_lang_Enum) hisR ?_
  intro p e s m args below meth c s₁ Bd hml0 hP hK
  obtain ⟨rfl, hZ, hh⟩ := hP
  have hx := Bd.exec
  have hby := Bd.bytes
  have hml : c.maxLocals = 1 := hml0
  have hown : s.vm.findClass "java/lang/Enum" = some m.cls := findClass_of_methodNamed Bd.named
  have hnm := (name_of_methodNamed Bd.named Bd.method).1
  have X0 : Stand p l e ({ frames := 0, cells := 0, slots := 0, locals := 0 } : Room) s m #[(.ref a1)] below meth c s₁ [] 0 0 := Stand.of_body Bd
  have e0 : s₁.heap = h0 := by rw [← hh, Bd.state]; rfl
  have N0 := Fr.nil n0
  have pre0 : ∀ t, Steps p.tables e below (s₁.setTop (mkF m 0 #[.val (.ref a1)] [])) t → Steps p.tables e below (s₁.setTop (entryFrame m #[(.ref a1)] 1)) t := fun t k => castTop (ef3_4 m a1) k
  obtain ⟨T1, X1, e1, st1⟩ := getF X0 hx hZ hown (host := "") (Or.inl (own_w26 hw)) Via.refl e0 F_a1_ordinal (g := (mkF m 1 #[.val (.ref a1)] [(.ref a1)])) rfl rfl (hb hby d3_1)
  obtain ⟨fs, hr, hrun, hended, hW, hsame⟩ := X1.leave (v := some (.int (2 : Int32))) (fun h => by rw [Bd.returns] at h; cases h)
  refine ⟨_, _, pre0 _ ?_, hrun, hended, _, _, rfl, ?_, ⟨_, rfl⟩, hW, hsame.mono (by decide) (by decide)⟩
  · show Steps p.tables e below (s₁.setTop (mkF m 0 #[.val (.ref a1)] [])) _
    refine XS.aloadN X0.here hx rfl (hb hby d3_0) rfl rfl ?_
    show Steps p.tables e below (s₁.setTop (mkF m 1 #[.val (.ref a1)] [(.ref a1)])) _
    refine st1 _ ?_
    show Steps p.tables e below (T1.setTop (mkF m 4 #[.val (.ref a1)] [(.int (2 : Int32))])) _
    exact retI X1 hx Bd.returns (hb hby d3_4) hr
  · show Q3_4 Z a1 h0 n0 _ T1.heap _
    rw [e1]
    exact ⟨rfl, N0, rfl⟩
theorem ef2_5 (m : MethodId) (a1 : Addr) : entryFrame m #[(.ref a1)] 1 = mkF m 0 #[.val (.ref a1)] [] := by first | (simp [entryFrame, mkF, argsToLocals, Value.category]; done) | rfl
def Q2_5 (Z : State) (a1 : Addr) (h0 : Heap) (n0 : Nat) (v : Option Value) (h : Heap) (L : List Loc) : Prop := v = some (.int (0 : Int32)) ∧ Fr n0 L ∧ h = h0
set_option maxRecDepth 65536 in
set_option maxHeartbeats 40000000 in
theorem rm2_5 (l : Launch) (Z : State) (a0 : Array Value) (hw : ∀ d ∈ tables_1, d.before a0 Z = true) (ws : List Jvm.Cond) (a1 : Addr) (h0 : Heap) (n0 : Nat) (Z0 : n0 ≤ h0.size) (E_a1 : Exa Z h0 a1 "com/example/hubclear/hubclear/settlement/SettlementItem") (F_a1_ordinal : Fld Z h0 a1 "java/lang/Enum" "ordinal" "I" (.int (2 : Int32))) :
    MetFree l (⟨"com/example/hubclear/hubclear/settlement/SettlementItem", "isCharge", "()Z"⟩ : MethodName) (head1 (Jvm.Cond.code (⟨"com/example/hubclear/hubclear/settlement/SettlementItem", "isCharge", "()Z"⟩ : MethodName) prog_72_method_4_code 1 (some .boolean) :: ws) ({ frames := 1, cells := 0, slots := 0, locals := 12 } : Room)) (fun a U => a = #[(.ref a1)] ∧ Z.Warmed39 U.vm ∧ U.heap = h0) (fun _ _ _ _ _ => True) (fun _ U o U' => ∃ v L, o = .returned v ∧ Q2_5 Z a1 h0 n0 v U'.heap L ∧ FrameEnd U o U' L ({ frames := 1, cells := 0, slots := 0, locals := 12 } : Room).cells ({ frames := 1, cells := 0, slots := 0, locals := 12 } : Room).slots) := by
  refine MetFree.of_bodySF (plainFor_of_name pn_com_example_hubclear_hubclear_settlement_SettlementItem) hisR ?_
  intro p e s m args below meth c s₁ Bd hml0 hP hK
  obtain ⟨rfl, hZ, hh⟩ := hP
  have hx := Bd.exec
  have hby := Bd.bytes
  have hml : c.maxLocals = 1 := hml0
  have hown : s.vm.findClass "com/example/hubclear/hubclear/settlement/SettlementItem" = some m.cls := findClass_of_methodNamed Bd.named
  have hnm := (name_of_methodNamed Bd.named Bd.method).1
  have X0 : Stand p l e ({ frames := 1, cells := 0, slots := 0, locals := 12 } : Room) s m #[(.ref a1)] below meth c s₁ [] 0 0 := Stand.of_body Bd
  have e0 : s₁.heap = h0 := by rw [← hh, Bd.state]; rfl
  have N0 := Fr.nil n0
  have pre0 : ∀ t, Steps p.tables e below (s₁.setTop (mkF m 0 #[.val (.ref a1)] [])) t → Steps p.tables e below (s₁.setTop (entryFrame m #[(.ref a1)] 1)) t := fun t k => castTop (ef2_5 m a1) k
  obtain ⟨cq1, kq1, q1a, q1b, q1c⟩ := isOf hZ e0 E_a1
  obtain ⟨_, _, ⟨T1, L1, k1, n1⟩, -, X1, ⟨Lc1, hQ1, l1, y1, z1⟩, st1⟩ := X0.virtualBackUp hx (owner := "java/lang/Enum") (x := (⟨"com/example/hubclear/hubclear/settlement/SettlementItem", "ordinal", "()I"⟩ : MethodName)) (y := (⟨"java/lang/Enum", "ordinal", "()I"⟩ : MethodName)) hown (mvT hZ (own_w19 hw)) (mvT hZ (own_w20 hw)) (mvT hZ (own_w21 hw)) (by decide) (mvT hZ (own_w23 hw)) (mvT hZ (own_w22 hw)) (backOf (W := 0) (rm3_4 l Z a0 hw [] a1 h0 n0 Z0 F_a1_ordinal) hZ (own_w25 hw) (own_w24 hw) (by decide) (by decide)) q1a q1c (g := (mkF m 1 #[.val (.ref a1)] [(.ref a1)])) rfl (by rw [hml]; rfl) (Steps.refl _) (argsL := []) (rest := []) (lenOf pd___I rfl) rfl (by show 2 * 0 + _ ≤ _; exact Nat.le_of_eq rfl) (hb hby d2_1) (fun _ _ => ⟨rfl, e0, (by decide : 0 + 0 ≤ _), (by decide : 0 + 0 ≤ _)⟩)
  dsimp only [Pt.U, Pt.locs, Pt.cells, Pt.slots] at X1 l1 y1 z1 st1 hQ1
  subst l1 y1 z1
  obtain ⟨rfl, N1q, e1⟩ := hQ1
  have N1 := Fr.app N0 N1q
  obtain ⟨fs, hr, hrun, hended, hW, hsame⟩ := X1.leave (v := some (.int (0 : Int32))) (fun h => by rw [Bd.returns] at h; cases h)
  refine ⟨_, _, pre0 _ ?_, hrun, hended, _, _, rfl, ?_, ⟨_, rfl⟩, hW, hsame.mono (by decide) (by decide)⟩
  · show Steps p.tables e below (s₁.setTop (mkF m 0 #[.val (.ref a1)] [])) _
    refine XS.aloadN X0.here hx rfl (hb hby d2_0) rfl rfl ?_
    show Steps p.tables e below (s₁.setTop (mkF m 1 #[.val (.ref a1)] [(.ref a1)])) _
    refine st1.trans ?_
    show Steps p.tables e below (T1.setTop (mkF m 4 #[.val (.ref a1)] [(.int (2 : Int32))])) _
    refine XS.tswIn X1.here hx rfl (o := 74) (pc0 := 4) (pc' := 78) rfl (hb hby d2_4) rfl (by decide) (by first | rfl | decide) (by decide) (by decide) ?_
    show Steps p.tables e below (T1.setTop (mkF m 78 #[.val (.ref a1)] [])) _
    refine XS.iconst X1.here hx rfl (hb hby d2_78) ?_
    show Steps p.tables e below (T1.setTop (mkF m 79 #[.val (.ref a1)] [(.int (0 : Int32))])) _
    exact retN X1 hx (t := .boolean) Bd.returns (by simp) (hb hby d2_79) hr
  · show Q2_5 Z a1 h0 n0 _ T1.heap _
    rw [e1]
    exact ⟨rfl, N1, rfl⟩
theorem ef3_6 (m : MethodId) (a1 : Addr) : entryFrame m #[(.ref a1)] 1 = mkF m 0 #[.val (.ref a1)] [] := by first | (simp [entryFrame, mkF, argsToLocals, Value.category]; done) | rfl
def Q3_6 (Z : State) (a1 : Addr) (h0 : Heap) (n0 : Nat) (v : Option Value) (h : Heap) (L : List Loc) : Prop := v = some (.int (4 : Int32)) ∧ Fr n0 L ∧ h = h0
set_option maxRecDepth 65536 in
set_option maxHeartbeats 40000000 in
theorem rm3_6 (l : Launch) (Z : State) (a0 : Array Value) (hw : ∀ d ∈ tables_1, d.before a0 Z = true) (ws : List Jvm.Cond) (a1 : Addr) (h0 : Heap) (n0 : Nat) (Z0 : n0 ≤ h0.size) (F_a1_ordinal : Fld Z h0 a1 "java/lang/Enum" "ordinal" "I" (.int (4 : Int32))) :
    MetFree l (⟨"java/lang/Enum", "ordinal", "()I"⟩ : MethodName) (head1 (Jvm.Cond.code (⟨"java/lang/Enum", "ordinal", "()I"⟩ : MethodName) jdk_37_method_2_code 1 (some .int) :: ws) ({ frames := 0, cells := 0, slots := 0, locals := 0 } : Room)) (fun a U => a = #[(.ref a1)] ∧ Z.Warmed39 U.vm ∧ U.heap = h0) (fun _ _ _ _ _ => True) (fun _ U o U' => ∃ v L, o = .returned v ∧ Q3_6 Z a1 h0 n0 v U'.heap L ∧ FrameEnd U o U' L ({ frames := 0, cells := 0, slots := 0, locals := 0 } : Room).cells ({ frames := 0, cells := 0, slots := 0, locals := 0 } : Room).slots) := by
  refine MetFree.of_bodySF (plainFor_of_name pn_java_lang_Enum) hisR ?_
  intro p e s m args below meth c s₁ Bd hml0 hP hK
  obtain ⟨rfl, hZ, hh⟩ := hP
  have hx := Bd.exec
  have hby := Bd.bytes
  have hml : c.maxLocals = 1 := hml0
  have hown : s.vm.findClass "java/lang/Enum" = some m.cls := findClass_of_methodNamed Bd.named
  have hnm := (name_of_methodNamed Bd.named Bd.method).1
  have X0 : Stand p l e ({ frames := 0, cells := 0, slots := 0, locals := 0 } : Room) s m #[(.ref a1)] below meth c s₁ [] 0 0 := Stand.of_body Bd
  have e0 : s₁.heap = h0 := by rw [← hh, Bd.state]; rfl
  have N0 := Fr.nil n0
  have pre0 : ∀ t, Steps p.tables e below (s₁.setTop (mkF m 0 #[.val (.ref a1)] [])) t → Steps p.tables e below (s₁.setTop (entryFrame m #[(.ref a1)] 1)) t := fun t k => castTop (ef3_6 m a1) k
  obtain ⟨T1, X1, e1, st1⟩ := getF X0 hx hZ hown (host := "") (Or.inl (own_w26 hw)) Via.refl e0 F_a1_ordinal (g := (mkF m 1 #[.val (.ref a1)] [(.ref a1)])) rfl rfl (hb hby d3_1)
  obtain ⟨fs, hr, hrun, hended, hW, hsame⟩ := X1.leave (v := some (.int (4 : Int32))) (fun h => by rw [Bd.returns] at h; cases h)
  refine ⟨_, _, pre0 _ ?_, hrun, hended, _, _, rfl, ?_, ⟨_, rfl⟩, hW, hsame.mono (by decide) (by decide)⟩
  · show Steps p.tables e below (s₁.setTop (mkF m 0 #[.val (.ref a1)] [])) _
    refine XS.aloadN X0.here hx rfl (hb hby d3_0) rfl rfl ?_
    show Steps p.tables e below (s₁.setTop (mkF m 1 #[.val (.ref a1)] [(.ref a1)])) _
    refine st1 _ ?_
    show Steps p.tables e below (T1.setTop (mkF m 4 #[.val (.ref a1)] [(.int (4 : Int32))])) _
    exact retI X1 hx Bd.returns (hb hby d3_4) hr
  · show Q3_6 Z a1 h0 n0 _ T1.heap _
    rw [e1]
    exact ⟨rfl, N0, rfl⟩
theorem ef2_7 (m : MethodId) (a1 : Addr) : entryFrame m #[(.ref a1)] 1 = mkF m 0 #[.val (.ref a1)] [] := by first | (simp [entryFrame, mkF, argsToLocals, Value.category]; done) | rfl
def Q2_7 (Z : State) (a1 : Addr) (h0 : Heap) (n0 : Nat) (v : Option Value) (h : Heap) (L : List Loc) : Prop := v = some (.int (0 : Int32)) ∧ Fr n0 L ∧ h = h0
set_option maxRecDepth 65536 in
set_option maxHeartbeats 40000000 in
theorem rm2_7 (l : Launch) (Z : State) (a0 : Array Value) (hw : ∀ d ∈ tables_1, d.before a0 Z = true) (ws : List Jvm.Cond) (a1 : Addr) (h0 : Heap) (n0 : Nat) (Z0 : n0 ≤ h0.size) (E_a1 : Exa Z h0 a1 "com/example/hubclear/hubclear/settlement/SettlementItem") (F_a1_ordinal : Fld Z h0 a1 "java/lang/Enum" "ordinal" "I" (.int (4 : Int32))) :
    MetFree l (⟨"com/example/hubclear/hubclear/settlement/SettlementItem", "isCharge", "()Z"⟩ : MethodName) (head1 (Jvm.Cond.code (⟨"com/example/hubclear/hubclear/settlement/SettlementItem", "isCharge", "()Z"⟩ : MethodName) prog_72_method_4_code 1 (some .boolean) :: ws) ({ frames := 1, cells := 0, slots := 0, locals := 12 } : Room)) (fun a U => a = #[(.ref a1)] ∧ Z.Warmed39 U.vm ∧ U.heap = h0) (fun _ _ _ _ _ => True) (fun _ U o U' => ∃ v L, o = .returned v ∧ Q2_7 Z a1 h0 n0 v U'.heap L ∧ FrameEnd U o U' L ({ frames := 1, cells := 0, slots := 0, locals := 12 } : Room).cells ({ frames := 1, cells := 0, slots := 0, locals := 12 } : Room).slots) := by
  refine MetFree.of_bodySF (plainFor_of_name pn_com_example_hubclear_hubclear_settlement_SettlementItem) hisR ?_
  intro p e s m args below meth c s₁ Bd hml0 hP hK
  obtain ⟨rfl, hZ, hh⟩ := hP
  have hx := Bd.exec
  have hby := Bd.bytes
  have hml : c.maxLocals = 1 := hml0
  have hown : s.vm.findClass "com/example/hubclear/hubclear/settlement/SettlementItem" = some m.cls := findClass_of_methodNamed Bd.named
  have hnm := (name_of_methodNamed Bd.named Bd.method).1
  have X0 : Stand p l e ({ frames := 1, cells := 0, slots := 0, locals := 12 } : Room) s m #[(.ref a1)] below meth c s₁ [] 0 0 := Stand.of_body Bd
  have e0 : s₁.heap = h0 := by rw [← hh, Bd.state]; rfl
  have N0 := Fr.nil n0
  have pre0 : ∀ t, Steps p.tables e below (s₁.setTop (mkF m 0 #[.val (.ref a1)] [])) t → Steps p.tables e below (s₁.setTop (entryFrame m #[(.ref a1)] 1)) t := fun t k => castTop (ef2_7 m a1) k
  obtain ⟨cq1, kq1, q1a, q1b, q1c⟩ := isOf hZ e0 E_a1
  obtain ⟨_, _, ⟨T1, L1, k1, n1⟩, -, X1, ⟨Lc1, hQ1, l1, y1, z1⟩, st1⟩ := X0.virtualBackUp hx (owner := "java/lang/Enum") (x := (⟨"com/example/hubclear/hubclear/settlement/SettlementItem", "ordinal", "()I"⟩ : MethodName)) (y := (⟨"java/lang/Enum", "ordinal", "()I"⟩ : MethodName)) hown (mvT hZ (own_w19 hw)) (mvT hZ (own_w20 hw)) (mvT hZ (own_w21 hw)) (by decide) (mvT hZ (own_w23 hw)) (mvT hZ (own_w22 hw)) (backOf (W := 0) (rm3_6 l Z a0 hw [] a1 h0 n0 Z0 F_a1_ordinal) hZ (own_w25 hw) (own_w24 hw) (by decide) (by decide)) q1a q1c (g := (mkF m 1 #[.val (.ref a1)] [(.ref a1)])) rfl (by rw [hml]; rfl) (Steps.refl _) (argsL := []) (rest := []) (lenOf pd___I rfl) rfl (by show 2 * 0 + _ ≤ _; exact Nat.le_of_eq rfl) (hb hby d2_1) (fun _ _ => ⟨rfl, e0, (by decide : 0 + 0 ≤ _), (by decide : 0 + 0 ≤ _)⟩)
  dsimp only [Pt.U, Pt.locs, Pt.cells, Pt.slots] at X1 l1 y1 z1 st1 hQ1
  subst l1 y1 z1
  obtain ⟨rfl, N1q, e1⟩ := hQ1
  have N1 := Fr.app N0 N1q
  obtain ⟨fs, hr, hrun, hended, hW, hsame⟩ := X1.leave (v := some (.int (0 : Int32))) (fun h => by rw [Bd.returns] at h; cases h)
  refine ⟨_, _, pre0 _ ?_, hrun, hended, _, _, rfl, ?_, ⟨_, rfl⟩, hW, hsame.mono (by decide) (by decide)⟩
  · show Steps p.tables e below (s₁.setTop (mkF m 0 #[.val (.ref a1)] [])) _
    refine XS.aloadN X0.here hx rfl (hb hby d2_0) rfl rfl ?_
    show Steps p.tables e below (s₁.setTop (mkF m 1 #[.val (.ref a1)] [(.ref a1)])) _
    refine st1.trans ?_
    show Steps p.tables e below (T1.setTop (mkF m 4 #[.val (.ref a1)] [(.int (4 : Int32))])) _
    refine XS.tswIn X1.here hx rfl (o := 74) (pc0 := 4) (pc' := 78) rfl (hb hby d2_4) rfl (by decide) (by first | rfl | decide) (by decide) (by decide) ?_
    show Steps p.tables e below (T1.setTop (mkF m 78 #[.val (.ref a1)] [])) _
    refine XS.iconst X1.here hx rfl (hb hby d2_78) ?_
    show Steps p.tables e below (T1.setTop (mkF m 79 #[.val (.ref a1)] [(.int (0 : Int32))])) _
    exact retN X1 hx (t := .boolean) Bd.returns (by simp) (hb hby d2_79) hr
  · show Q2_7 Z a1 h0 n0 _ T1.heap _
    rw [e1]
    exact ⟨rfl, N1, rfl⟩
theorem ef3_8 (m : MethodId) (a1 : Addr) : entryFrame m #[(.ref a1)] 1 = mkF m 0 #[.val (.ref a1)] [] := by first | (simp [entryFrame, mkF, argsToLocals, Value.category]; done) | rfl
def Q3_8 (Z : State) (a1 : Addr) (h0 : Heap) (n0 : Nat) (v : Option Value) (h : Heap) (L : List Loc) : Prop := v = some (.int (7 : Int32)) ∧ Fr n0 L ∧ h = h0
set_option maxRecDepth 65536 in
set_option maxHeartbeats 40000000 in
theorem rm3_8 (l : Launch) (Z : State) (a0 : Array Value) (hw : ∀ d ∈ tables_1, d.before a0 Z = true) (ws : List Jvm.Cond) (a1 : Addr) (h0 : Heap) (n0 : Nat) (Z0 : n0 ≤ h0.size) (F_a1_ordinal : Fld Z h0 a1 "java/lang/Enum" "ordinal" "I" (.int (7 : Int32))) :
    MetFree l (⟨"java/lang/Enum", "ordinal", "()I"⟩ : MethodName) (head1 (Jvm.Cond.code (⟨"java/lang/Enum", "ordinal", "()I"⟩ : MethodName) jdk_37_method_2_code 1 (some .int) :: ws) ({ frames := 0, cells := 0, slots := 0, locals := 0 } : Room)) (fun a U => a = #[(.ref a1)] ∧ Z.Warmed39 U.vm ∧ U.heap = h0) (fun _ _ _ _ _ => True) (fun _ U o U' => ∃ v L, o = .returned v ∧ Q3_8 Z a1 h0 n0 v U'.heap L ∧ FrameEnd U o U' L ({ frames := 0, cells := 0, slots := 0, locals := 0 } : Room).cells ({ frames := 0, cells := 0, slots := 0, locals := 0 } : Room).slots) := by
  refine MetFree.of_bodySF (plainFor_of_name pn_java_lang_Enum) hisR ?_
  intro p e s m args below meth c s₁ Bd hml0 hP hK
  obtain ⟨rfl, hZ, hh⟩ := hP
  have hx := Bd.exec
  have hby := Bd.bytes
  have hml : c.maxLocals = 1 := hml0
  have hown : s.vm.findClass "java/lang/Enum" = some m.cls := findClass_of_methodNamed Bd.named
  have hnm := (name_of_methodNamed Bd.named Bd.method).1
  have X0 : Stand p l e ({ frames := 0, cells := 0, slots := 0, locals := 0 } : Room) s m #[(.ref a1)] below meth c s₁ [] 0 0 := Stand.of_body Bd
  have e0 : s₁.heap = h0 := by rw [← hh, Bd.state]; rfl
  have N0 := Fr.nil n0
  have pre0 : ∀ t, Steps p.tables e below (s₁.setTop (mkF m 0 #[.val (.ref a1)] [])) t → Steps p.tables e below (s₁.setTop (entryFrame m #[(.ref a1)] 1)) t := fun t k => castTop (ef3_8 m a1) k
  obtain ⟨T1, X1, e1, st1⟩ := getF X0 hx hZ hown (host := "") (Or.inl (own_w26 hw)) Via.refl e0 F_a1_ordinal (g := (mkF m 1 #[.val (.ref a1)] [(.ref a1)])) rfl rfl (hb hby d3_1)
  obtain ⟨fs, hr, hrun, hended, hW, hsame⟩ := X1.leave (v := some (.int (7 : Int32))) (fun h => by rw [Bd.returns] at h; cases h)
  refine ⟨_, _, pre0 _ ?_, hrun, hended, _, _, rfl, ?_, ⟨_, rfl⟩, hW, hsame.mono (by decide) (by decide)⟩
  · show Steps p.tables e below (s₁.setTop (mkF m 0 #[.val (.ref a1)] [])) _
    refine XS.aloadN X0.here hx rfl (hb hby d3_0) rfl rfl ?_
    show Steps p.tables e below (s₁.setTop (mkF m 1 #[.val (.ref a1)] [(.ref a1)])) _
    refine st1 _ ?_
    show Steps p.tables e below (T1.setTop (mkF m 4 #[.val (.ref a1)] [(.int (7 : Int32))])) _
    exact retI X1 hx Bd.returns (hb hby d3_4) hr
  · show Q3_8 Z a1 h0 n0 _ T1.heap _
    rw [e1]
    exact ⟨rfl, N0, rfl⟩
theorem ef2_9 (m : MethodId) (a1 : Addr) : entryFrame m #[(.ref a1)] 1 = mkF m 0 #[.val (.ref a1)] [] := by first | (simp [entryFrame, mkF, argsToLocals, Value.category]; done) | rfl
def Q2_9 (Z : State) (a1 : Addr) (h0 : Heap) (n0 : Nat) (v : Option Value) (h : Heap) (L : List Loc) : Prop := v = some (.int (0 : Int32)) ∧ Fr n0 L ∧ h = h0
set_option maxRecDepth 65536 in
set_option maxHeartbeats 40000000 in
theorem rm2_9 (l : Launch) (Z : State) (a0 : Array Value) (hw : ∀ d ∈ tables_1, d.before a0 Z = true) (ws : List Jvm.Cond) (a1 : Addr) (h0 : Heap) (n0 : Nat) (Z0 : n0 ≤ h0.size) (E_a1 : Exa Z h0 a1 "com/example/hubclear/hubclear/settlement/SettlementItem") (F_a1_ordinal : Fld Z h0 a1 "java/lang/Enum" "ordinal" "I" (.int (7 : Int32))) :
    MetFree l (⟨"com/example/hubclear/hubclear/settlement/SettlementItem", "isCharge", "()Z"⟩ : MethodName) (head1 (Jvm.Cond.code (⟨"com/example/hubclear/hubclear/settlement/SettlementItem", "isCharge", "()Z"⟩ : MethodName) prog_72_method_4_code 1 (some .boolean) :: ws) ({ frames := 1, cells := 0, slots := 0, locals := 12 } : Room)) (fun a U => a = #[(.ref a1)] ∧ Z.Warmed39 U.vm ∧ U.heap = h0) (fun _ _ _ _ _ => True) (fun _ U o U' => ∃ v L, o = .returned v ∧ Q2_9 Z a1 h0 n0 v U'.heap L ∧ FrameEnd U o U' L ({ frames := 1, cells := 0, slots := 0, locals := 12 } : Room).cells ({ frames := 1, cells := 0, slots := 0, locals := 12 } : Room).slots) := by
  refine MetFree.of_bodySF (plainFor_of_name pn_com_example_hubclear_hubclear_settlement_SettlementItem) hisR ?_
  intro p e s m args below meth c s₁ Bd hml0 hP hK
  obtain ⟨rfl, hZ, hh⟩ := hP
  have hx := Bd.exec
  have hby := Bd.bytes
  have hml : c.maxLocals = 1 := hml0
  have hown : s.vm.findClass "com/example/hubclear/hubclear/settlement/SettlementItem" = some m.cls := findClass_of_methodNamed Bd.named
  have hnm := (name_of_methodNamed Bd.named Bd.method).1
  have X0 : Stand p l e ({ frames := 1, cells := 0, slots := 0, locals := 12 } : Room) s m #[(.ref a1)] below meth c s₁ [] 0 0 := Stand.of_body Bd
  have e0 : s₁.heap = h0 := by rw [← hh, Bd.state]; rfl
  have N0 := Fr.nil n0
  have pre0 : ∀ t, Steps p.tables e below (s₁.setTop (mkF m 0 #[.val (.ref a1)] [])) t → Steps p.tables e below (s₁.setTop (entryFrame m #[(.ref a1)] 1)) t := fun t k => castTop (ef2_9 m a1) k
  obtain ⟨cq1, kq1, q1a, q1b, q1c⟩ := isOf hZ e0 E_a1
  obtain ⟨_, _, ⟨T1, L1, k1, n1⟩, -, X1, ⟨Lc1, hQ1, l1, y1, z1⟩, st1⟩ := X0.virtualBackUp hx (owner := "java/lang/Enum") (x := (⟨"com/example/hubclear/hubclear/settlement/SettlementItem", "ordinal", "()I"⟩ : MethodName)) (y := (⟨"java/lang/Enum", "ordinal", "()I"⟩ : MethodName)) hown (mvT hZ (own_w19 hw)) (mvT hZ (own_w20 hw)) (mvT hZ (own_w21 hw)) (by decide) (mvT hZ (own_w23 hw)) (mvT hZ (own_w22 hw)) (backOf (W := 0) (rm3_8 l Z a0 hw [] a1 h0 n0 Z0 F_a1_ordinal) hZ (own_w25 hw) (own_w24 hw) (by decide) (by decide)) q1a q1c (g := (mkF m 1 #[.val (.ref a1)] [(.ref a1)])) rfl (by rw [hml]; rfl) (Steps.refl _) (argsL := []) (rest := []) (lenOf pd___I rfl) rfl (by show 2 * 0 + _ ≤ _; exact Nat.le_of_eq rfl) (hb hby d2_1) (fun _ _ => ⟨rfl, e0, (by decide : 0 + 0 ≤ _), (by decide : 0 + 0 ≤ _)⟩)
  dsimp only [Pt.U, Pt.locs, Pt.cells, Pt.slots] at X1 l1 y1 z1 st1 hQ1
  subst l1 y1 z1
  obtain ⟨rfl, N1q, e1⟩ := hQ1
  have N1 := Fr.app N0 N1q
  obtain ⟨fs, hr, hrun, hended, hW, hsame⟩ := X1.leave (v := some (.int (0 : Int32))) (fun h => by rw [Bd.returns] at h; cases h)
  refine ⟨_, _, pre0 _ ?_, hrun, hended, _, _, rfl, ?_, ⟨_, rfl⟩, hW, hsame.mono (by decide) (by decide)⟩
  · show Steps p.tables e below (s₁.setTop (mkF m 0 #[.val (.ref a1)] [])) _
    refine XS.aloadN X0.here hx rfl (hb hby d2_0) rfl rfl ?_
    show Steps p.tables e below (s₁.setTop (mkF m 1 #[.val (.ref a1)] [(.ref a1)])) _
    refine st1.trans ?_
    show Steps p.tables e below (T1.setTop (mkF m 4 #[.val (.ref a1)] [(.int (7 : Int32))])) _
    refine XS.tswIn X1.here hx rfl (o := 74) (pc0 := 4) (pc' := 78) rfl (hb hby d2_4) rfl (by decide) (by first | rfl | decide) (by decide) (by decide) ?_
    show Steps p.tables e below (T1.setTop (mkF m 78 #[.val (.ref a1)] [])) _
    refine XS.iconst X1.here hx rfl (hb hby d2_78) ?_
    show Steps p.tables e below (T1.setTop (mkF m 79 #[.val (.ref a1)] [(.int (0 : Int32))])) _
    exact retN X1 hx (t := .boolean) Bd.returns (by simp) (hb hby d2_79) hr
  · show Q2_9 Z a1 h0 n0 _ T1.heap _
    rw [e1]
    exact ⟨rfl, N1, rfl⟩
theorem ef0 (m : MethodId) (i0 : Int32) : entryFrame m #[(.int i0)] maxLocals = mkF m 0 #[.val (.int i0), .unset, .unset, .unset, .unset] [] := by first | (simp [entryFrame, mkF, argsToLocals, Value.category, maxLocals]; done) | rfl
set_option maxRecDepth 65536 in
set_option maxHeartbeats 400000000 in
theorem rm0 (l : Launch) (Z : State) (a0 : Array Value) (hw : ∀ d ∈ tables_1, d.before a0 Z = true) (ws : List Jvm.Cond) (i0 : Int32) (o_EX_ANTE : Addr) (o_EX_ANTE_PAYMENT : Addr) (o_MOS : Addr) (o_MOS_PAYMENT : Addr) (o_CAPACITY : Addr) (o_CAPACITY_PAYMENT : Addr) (o_FLOW_DIRECTION : Addr) (o_FLOW_DIRECTION_PAYMENT : Addr) (h0 : Heap) (n0 : Nat) (Z0 : n0 ≤ h0.size) (S_o_EX_ANTE : Sta Z h0 "com/example/hubclear/hubclear/settlement/Component" "EX_ANTE" "Lcom/example/hubclear/hubclear/settlement/Component;" (.ref o_EX_ANTE)) (E_o_EX_ANTE : Exa Z h0 o_EX_ANTE "com/example/hubclear/hubclear/settlement/Component") (S_o_EX_ANTE_PAYMENT : Sta Z h0 "com/example/hubclear/hubclear/settlement/SettlementItem" "EX_ANTE_PAYMENT" "Lcom/example/hubclear/hubclear/settlement/SettlementItem;" (.ref o_EX_ANTE_PAYMENT)) (E_o_EX_ANTE_PAYMENT : Exa Z h0 o_EX_ANTE_PAYMENT "com/example/hubclear/hubclear/settlement/SettlementItem") (S_o_MOS : Sta Z h0 "com/example/hubclear/hubclear/settlement/Component" "MOS" "Lcom/example/hubclear/hubclear/settlement/Component;" (.ref o_MOS)) (E_o_MOS : Exa Z h0 o_MOS "com/example/hubclear/hubclear/settlement/Component") (S_o_MOS_PAYMENT : Sta Z h0 "com/example/hubclear/hubclear/settlement/SettlementItem" "MOS_PAYMENT" "Lcom/example/hubclear/hubclear/settlement/SettlementItem;" (.ref o_MOS_PAYMENT)) (E_o_MOS_PAYMENT : Exa Z h0 o_MOS_PAYMENT "com/example/hubclear/hubclear/settlement/SettlementItem") (S_o_CAPACITY : Sta Z h0 "com/example/hubclear/hubclear/settlement/Component" "CAPACITY" "Lcom/example/hubclear/hubclear/settlement/Component;" (.ref o_CAPACITY)) (E_o_CAPACITY : Exa Z h0 o_CAPACITY "com/example/hubclear/hubclear/settlement/Component") (S_o_CAPACITY_PAYMENT : Sta Z h0 "com/example/hubclear/hubclear/settlement/SettlementItem" "CAPACITY_PAYMENT" "Lcom/example/hubclear/hubclear/settlement/SettlementItem;" (.ref o_CAPACITY_PAYMENT)) (E_o_CAPACITY_PAYMENT : Exa Z h0 o_CAPACITY_PAYMENT "com/example/hubclear/hubclear/settlement/SettlementItem") (S_o_FLOW_DIRECTION : Sta Z h0 "com/example/hubclear/hubclear/settlement/Component" "FLOW_DIRECTION" "Lcom/example/hubclear/hubclear/settlement/Component;" (.ref o_FLOW_DIRECTION)) (E_o_FLOW_DIRECTION : Exa Z h0 o_FLOW_DIRECTION "com/example/hubclear/hubclear/settlement/Component") (S_o_FLOW_DIRECTION_PAYMENT : Sta Z h0 "com/example/hubclear/hubclear/settlement/SettlementItem" "FLOW_DIRECTION_PAYMENT" "Lcom/example/hubclear/hubclear/settlement/SettlementItem;" (.ref o_FLOW_DIRECTION_PAYMENT)) (E_o_FLOW_DIRECTION_PAYMENT : Exa Z h0 o_FLOW_DIRECTION_PAYMENT "com/example/hubclear/hubclear/settlement/SettlementItem") (F_o_EX_ANTE_payment : Fld Z h0 o_EX_ANTE "com/example/hubclear/hubclear/settlement/Component" "payment" "Lcom/example/hubclear/hubclear/settlement/SettlementItem;" (.ref o_EX_ANTE_PAYMENT)) (F_o_EX_ANTE_PAYMENT_ordinal : Fld Z h0 o_EX_ANTE_PAYMENT "java/lang/Enum" "ordinal" "I" (.int (0 : Int32))) (F_o_MOS_payment : Fld Z h0 o_MOS "com/example/hubclear/hubclear/settlement/Component" "payment" "Lcom/example/hubclear/hubclear/settlement/SettlementItem;" (.ref o_MOS_PAYMENT)) (F_o_MOS_PAYMENT_ordinal : Fld Z h0 o_MOS_PAYMENT "java/lang/Enum" "ordinal" "I" (.int (7 : Int32))) (F_o_CAPACITY_payment : Fld Z h0 o_CAPACITY "com/example/hubclear/hubclear/settlement/Component" "payment" "Lcom/example/hubclear/hubclear/settlement/SettlementItem;" (.ref o_CAPACITY_PAYMENT)) (F_o_CAPACITY_PAYMENT_ordinal : Fld Z h0 o_CAPACITY_PAYMENT "java/lang/Enum" "ordinal" "I" (.int (4 : Int32))) (F_o_FLOW_DIRECTION_payment : Fld Z h0 o_FLOW_DIRECTION "com/example/hubclear/hubclear/settlement/Component" "payment" "Lcom/example/hubclear/hubclear/settlement/SettlementItem;" (.ref o_FLOW_DIRECTION_PAYMENT)) (F_o_FLOW_DIRECTION_PAYMENT_ordinal : Fld Z h0 o_FLOW_DIRECTION_PAYMENT "java/lang/Enum" "ordinal" "I" (.int (2 : Int32))) :
    MetFree l x (head1 (Jvm.Cond.code x code maxLocals ret :: ws) room_1) (fun a U => a = #[(.int i0)] ∧ Z.Warmed39 U.vm ∧ U.heap = h0) (fun _ _ _ _ _ => True) (fun _ U o U' => ∃ v L, o = .returned v ∧ (v = some (.int (1 : Int32)) ∧ Fr n0 L) ∧ FrameEnd U o U' L room_1.cells room_1.slots) := by
  refine MetFree.of_bodySF (plainFor_of_name pn_com_example_hubclear_hubclear_settlement_ComponentPaymentPinLaw) hisR ?_
  intro p e s m args below meth c s₁ Bd hml0 hP hK
  obtain ⟨rfl, hZ, hh⟩ := hP
  have hx := Bd.exec
  have hby := Bd.bytes
  have hml : c.maxLocals = 5 := hml0
  have hown : s.vm.findClass "com/example/hubclear/hubclear/settlement/ComponentPaymentPinLaw" = some m.cls := findClass_of_methodNamed Bd.named
  have hnm := (name_of_methodNamed Bd.named Bd.method).1
  have X0 : Stand p l e room_1 s m #[(.int i0)] below meth c s₁ [] 0 0 := Stand.of_body Bd
  have e0 : s₁.heap = h0 := by rw [← hh, Bd.state]; rfl
  have N0 := Fr.nil n0
  have pre0 : ∀ t, Steps p.tables e below (s₁.setTop (mkF m 0 #[.val (.int i0), .unset, .unset, .unset, .unset] [])) t → Steps p.tables e below (s₁.setTop (entryFrame m #[(.int i0)] maxLocals)) t := fun t k => castTop (ef0 m i0) k
  have pre1 : ∀ t, Steps p.tables e below (s₁.setTop (mkF m 6 #[.val (.int i0), .unset, .unset, .unset, .unset] [(.int ((i0 &&& (2147483647 : Int32)) % (4 : Int32)))])) t → Steps p.tables e below (s₁.setTop (entryFrame m #[(.int i0)] maxLocals)) t := fun t kk => pre0 t (by
    show Steps p.tables e below (s₁.setTop (mkF m 0 #[.val (.int i0), .unset, .unset, .unset, .unset] [])) _
    refine XS.iloadN X0.here hx rfl (hb hby at_0) rfl ?_
    show Steps p.tables e below (s₁.setTop (mkF m 1 #[.val (.int i0), .unset, .unset, .unset, .unset] [(.int i0)])) _
    refine X0.ldcInt hx hown (mvT hZ (own_w0 hw)) (g := (mkF m 1 #[.val (.int i0), .unset, .unset, .unset, .unset] [(.int i0)])) rfl (hb hby at_1) _ ?_
    show Steps p.tables e below (s₁.setTop (mkF m 3 #[.val (.int i0), .unset, .unset, .unset, .unset] [(.int (2147483647 : Int32)), (.int i0)])) _
    refine XS.iand X0.here hx rfl (hb hby at_3) rfl ?_
    show Steps p.tables e below (s₁.setTop (mkF m 4 #[.val (.int i0), .unset, .unset, .unset, .unset] [(.int (i0 &&& (2147483647 : Int32)))])) _
    refine XS.iconst X0.here hx rfl (hb hby at_4) ?_
    show Steps p.tables e below (s₁.setTop (mkF m 5 #[.val (.int i0), .unset, .unset, .unset, .unset] [(.int (4 : Int32)), (.int (i0 &&& (2147483647 : Int32)))])) _
    refine iremM X0 hx rfl (hb hby at_5) rfl (by decide) ?_
    show Steps p.tables e below (s₁.setTop (mkF m 6 #[.val (.int i0), .unset, .unset, .unset, .unset] [(.int ((i0 &&& (2147483647 : Int32)) % (4 : Int32)))])) _
    exact kk)
  rcases own_en4 i0 with he0 | he0 | he0 | he0
  · obtain ⟨T1, X1, e1, st1⟩ := getS2 X0 hx hZ hown (host := "") (Or.inl (own_w1 hw)) Via.refl e0 S_o_EX_ANTE (g := (mkF m 11 #[.val (.int i0), .val (.int (0 : Int32)), .unset, .unset, .unset] [])) rfl (hb hby at_11)
    obtain ⟨T2, X2, e2, st2⟩ := getS2 X1 hx hZ hown (host := "") (Or.inl (own_w4 hw)) Via.refl e1 S_o_EX_ANTE_PAYMENT (g := (mkF m 15 #[.val (.int i0), .val (.int (0 : Int32)), .val (.ref o_EX_ANTE), .unset, .unset] [])) rfl (hb hby at_15)
    obtain ⟨cq3, kq3, q3a, q3b, q3c⟩ := isOf hZ e2 E_o_EX_ANTE
    obtain ⟨_, _, ⟨T3, L3, k3, n3⟩, -, X3, ⟨Lc3, hQ3, l3, y3, z3⟩, st3⟩ := X2.virtualBack hx (y := (⟨"com/example/hubclear/hubclear/settlement/Component", "payment", "()Lcom/example/hubclear/hubclear/settlement/SettlementItem;"⟩ : MethodName)) (z := (⟨"com/example/hubclear/hubclear/settlement/Component", "payment", "()Lcom/example/hubclear/hubclear/settlement/SettlementItem;"⟩ : MethodName)) hown (mvT hZ (own_w7 hw)) (mvT hZ (own_w8 hw)) (notFace_of_selects (args := #[]) (mvT hZ (own_w10 hw))) (mvT hZ (own_w10 hw)) (mvT hZ (own_w9 hw)) (by decide) (backOf (W := 0) (rm1_1 l Z a0 hw [] o_EX_ANTE o_EX_ANTE_PAYMENT h0 n0 Z0 F_o_EX_ANTE_payment) hZ (own_w11 hw) (own_w2 hw) (by decide) (by decide)) q3a q3c (g := (mkF m 63 #[.val (.int i0), .val (.int (0 : Int32)), .val (.ref o_EX_ANTE), .val (.ref o_EX_ANTE_PAYMENT), .unset] [(.ref o_EX_ANTE)])) rfl (by rw [hml]; rfl) (Steps.refl _) (argsL := []) (rest := []) (lenOf pd___Lcom_example_hubclear_hubclear_settlement_SettlementItem_ rfl) rfl (by show 2 * 0 + _ ≤ _; exact Nat.le_of_eq rfl) (hb hby at_63) (fun _ _ => ⟨rfl, e2, (by decide : 0 + 0 ≤ _), (by decide : 0 + 0 ≤ _)⟩)
    dsimp only [Pt.U, Pt.locs, Pt.cells, Pt.slots] at X3 l3 y3 z3 st3 hQ3
    subst l3 y3 z3
    obtain ⟨rfl, N3q, e3⟩ := hQ3
    have N3 := Fr.app N0 N3q
    obtain ⟨cq4, kq4, q4a, q4b, q4c⟩ := isOf hZ e3 E_o_EX_ANTE_PAYMENT
    obtain ⟨_, _, ⟨T4, L4, k4, n4⟩, -, X4, ⟨Lc4, hQ4, l4, y4, z4⟩, st4⟩ := X3.virtualBack hx (y := (⟨"com/example/hubclear/hubclear/settlement/SettlementItem", "isCharge", "()Z"⟩ : MethodName)) (z := (⟨"com/example/hubclear/hubclear/settlement/SettlementItem", "isCharge", "()Z"⟩ : MethodName)) hown (mvT hZ (own_w14 hw)) (mvT hZ (own_w15 hw)) (notFace_of_selects (args := #[]) (mvT hZ (own_w17 hw))) (mvT hZ (own_w17 hw)) (mvT hZ (own_w16 hw)) (by decide) (backOf (W := 0) (rm2_3 l Z a0 hw [] o_EX_ANTE_PAYMENT h0 n0 Z0 E_o_EX_ANTE_PAYMENT F_o_EX_ANTE_PAYMENT_ordinal) hZ (own_w18 hw) (own_w5 hw) (by decide) (by decide)) q4a q4c (g := (mkF m 76 #[.val (.int i0), .val (.int (0 : Int32)), .val (.ref o_EX_ANTE), .val (.ref o_EX_ANTE_PAYMENT), .val (.ref o_EX_ANTE_PAYMENT)] [(.ref o_EX_ANTE_PAYMENT)])) rfl (by rw [hml]; rfl) (Steps.refl _) (argsL := []) (rest := []) (lenOf pd___Z rfl) rfl (by show 2 * 0 + _ ≤ _; exact Nat.le_of_eq rfl) (hb hby at_76) (fun _ _ => ⟨rfl, e3, (by decide : 0 + 0 ≤ _), (by decide : 0 + 0 ≤ _)⟩)
    dsimp only [Pt.U, Pt.locs, Pt.cells, Pt.slots] at X4 l4 y4 z4 st4 hQ4
    subst l4 y4 z4
    obtain ⟨rfl, N4q, e4⟩ := hQ4
    have N4 := Fr.app N3 N4q
    obtain ⟨fs, hr, hrun, hended, hW, hsame⟩ := X4.leave (v := some (.int (1 : Int32))) (fun h => by rw [Bd.returns] at h; cases h)
    refine ⟨_, _, pre1 _ ?_, hrun, hended, _, _, rfl, ⟨rfl, N4⟩, ⟨_, rfl⟩, hW, hsame.mono (by decide) (by decide)⟩
    show Steps p.tables e below (s₁.setTop (mkF m 6 #[.val (.int i0), .unset, .unset, .unset, .unset] [(.int ((i0 &&& (2147483647 : Int32)) % (4 : Int32)))])) _
    rw [he0]
    show Steps p.tables e below (s₁.setTop (mkF m 6 #[.val (.int i0), .unset, .unset, .unset, .unset] [(.int (0 : Int32))])) _
    refine XS.istoreN X0.here hx rfl (hb hby at_6) rfl (l' := #[.val (.int i0), .val (.int (0 : Int32)), .unset, .unset, .unset]) rfl ?_
    show Steps p.tables e below (s₁.setTop (mkF m 7 #[.val (.int i0), .val (.int (0 : Int32)), .unset, .unset, .unset] [])) _
    refine XS.iloadN X0.here hx rfl (hb hby at_7) rfl ?_
    show Steps p.tables e below (s₁.setTop (mkF m 8 #[.val (.int i0), .val (.int (0 : Int32)), .unset, .unset, .unset] [(.int (0 : Int32))])) _
    refine XS.ifNo X0.here hx rfl (hb hby at_8) rfl ((if0 _ _).trans (teq (by decide : (0 : Int32) = (0 : Int32))).2) ?_
    show Steps p.tables e below (s₁.setTop (mkF m 11 #[.val (.int i0), .val (.int (0 : Int32)), .unset, .unset, .unset] [])) _
    refine st1 _ ?_
    show Steps p.tables e below (T1.setTop (mkF m 14 #[.val (.int i0), .val (.int (0 : Int32)), .unset, .unset, .unset] [(.ref o_EX_ANTE)])) _
    refine XS.astoreN X1.here hx rfl (hb hby at_14) rfl rfl (l' := #[.val (.int i0), .val (.int (0 : Int32)), .val (.ref o_EX_ANTE), .unset, .unset]) rfl ?_
    show Steps p.tables e below (T1.setTop (mkF m 15 #[.val (.int i0), .val (.int (0 : Int32)), .val (.ref o_EX_ANTE), .unset, .unset] [])) _
    refine st2 _ ?_
    show Steps p.tables e below (T2.setTop (mkF m 18 #[.val (.int i0), .val (.int (0 : Int32)), .val (.ref o_EX_ANTE), .unset, .unset] [(.ref o_EX_ANTE_PAYMENT)])) _
    refine XS.astoreN X2.here hx rfl (hb hby at_18) rfl rfl (l' := #[.val (.int i0), .val (.int (0 : Int32)), .val (.ref o_EX_ANTE), .val (.ref o_EX_ANTE_PAYMENT), .unset]) rfl ?_
    show Steps p.tables e below (T2.setTop (mkF m 19 #[.val (.int i0), .val (.int (0 : Int32)), .val (.ref o_EX_ANTE), .val (.ref o_EX_ANTE_PAYMENT), .unset] [])) _
    refine XS.goto X2.here hx rfl (pc0 := 19) (pc' := 62) rfl (hb hby at_19) (by decide) (by decide) ?_
    show Steps p.tables e below (T2.setTop (mkF m 62 #[.val (.int i0), .val (.int (0 : Int32)), .val (.ref o_EX_ANTE), .val (.ref o_EX_ANTE_PAYMENT), .unset] [])) _
    refine XS.aloadN X2.here hx rfl (hb hby at_62) rfl rfl ?_
    show Steps p.tables e below (T2.setTop (mkF m 63 #[.val (.int i0), .val (.int (0 : Int32)), .val (.ref o_EX_ANTE), .val (.ref o_EX_ANTE_PAYMENT), .unset] [(.ref o_EX_ANTE)])) _
    refine st3.trans ?_
    show Steps p.tables e below (T3.setTop (mkF m 66 #[.val (.int i0), .val (.int (0 : Int32)), .val (.ref o_EX_ANTE), .val (.ref o_EX_ANTE_PAYMENT), .unset] [(.ref o_EX_ANTE_PAYMENT)])) _
    refine XS.astore X3.here hx rfl (hb hby at_66) rfl rfl (l' := #[.val (.int i0), .val (.int (0 : Int32)), .val (.ref o_EX_ANTE), .val (.ref o_EX_ANTE_PAYMENT), .val (.ref o_EX_ANTE_PAYMENT)]) rfl ?_
    show Steps p.tables e below (T3.setTop (mkF m 68 #[.val (.int i0), .val (.int (0 : Int32)), .val (.ref o_EX_ANTE), .val (.ref o_EX_ANTE_PAYMENT), .val (.ref o_EX_ANTE_PAYMENT)] [])) _
    refine XS.aload X3.here hx rfl (hb hby at_68) rfl rfl ?_
    show Steps p.tables e below (T3.setTop (mkF m 70 #[.val (.int i0), .val (.int (0 : Int32)), .val (.ref o_EX_ANTE), .val (.ref o_EX_ANTE_PAYMENT), .val (.ref o_EX_ANTE_PAYMENT)] [(.ref o_EX_ANTE_PAYMENT)])) _
    refine XS.aloadN X3.here hx rfl (hb hby at_70) rfl rfl ?_
    show Steps p.tables e below (T3.setTop (mkF m 71 #[.val (.int i0), .val (.int (0 : Int32)), .val (.ref o_EX_ANTE), .val (.ref o_EX_ANTE_PAYMENT), .val (.ref o_EX_ANTE_PAYMENT)] [(.ref o_EX_ANTE_PAYMENT), (.ref o_EX_ANTE_PAYMENT)])) _
    refine Jvm.RoadKit.acmp (g := (mkF m 71 #[.val (.int i0), .val (.int (0 : Int32)), .val (.ref o_EX_ANTE), .val (.ref o_EX_ANTE_PAYMENT), .val (.ref o_EX_ANTE_PAYMENT)] [(.ref o_EX_ANTE_PAYMENT), (.ref o_EX_ANTE_PAYMENT)])) X3 hx rfl rfl rfl (pc0 := 71) (pc' := 74) (same := true) rfl (hb hby at_71) rfl (decide_eq_true rfl) (by decide) (by decide) ?_
    show Steps p.tables e below (T3.setTop (mkF m 74 #[.val (.int i0), .val (.int (0 : Int32)), .val (.ref o_EX_ANTE), .val (.ref o_EX_ANTE_PAYMENT), .val (.ref o_EX_ANTE_PAYMENT)] [])) _
    refine XS.aload X3.here hx rfl (hb hby at_74) rfl rfl ?_
    show Steps p.tables e below (T3.setTop (mkF m 76 #[.val (.int i0), .val (.int (0 : Int32)), .val (.ref o_EX_ANTE), .val (.ref o_EX_ANTE_PAYMENT), .val (.ref o_EX_ANTE_PAYMENT)] [(.ref o_EX_ANTE_PAYMENT)])) _
    refine st4.trans ?_
    show Steps p.tables e below (T4.setTop (mkF m 79 #[.val (.int i0), .val (.int (0 : Int32)), .val (.ref o_EX_ANTE), .val (.ref o_EX_ANTE_PAYMENT), .val (.ref o_EX_ANTE_PAYMENT)] [(.int (0 : Int32))])) _
    refine XS.ifNo X4.here hx rfl (hb hby at_79) rfl ((if0 _ _).trans (teq (by decide : (0 : Int32) = (0 : Int32))).2) ?_
    show Steps p.tables e below (T4.setTop (mkF m 82 #[.val (.int i0), .val (.int (0 : Int32)), .val (.ref o_EX_ANTE), .val (.ref o_EX_ANTE_PAYMENT), .val (.ref o_EX_ANTE_PAYMENT)] [])) _
    refine XS.iconst X4.here hx rfl (hb hby at_82) ?_
    show Steps p.tables e below (T4.setTop (mkF m 83 #[.val (.int i0), .val (.int (0 : Int32)), .val (.ref o_EX_ANTE), .val (.ref o_EX_ANTE_PAYMENT), .val (.ref o_EX_ANTE_PAYMENT)] [(.int (1 : Int32))])) _
    refine XS.goto X4.here hx rfl (pc0 := 83) (pc' := 87) rfl (hb hby at_83) (by decide) (by decide) ?_
    show Steps p.tables e below (T4.setTop (mkF m 87 #[.val (.int i0), .val (.int (0 : Int32)), .val (.ref o_EX_ANTE), .val (.ref o_EX_ANTE_PAYMENT), .val (.ref o_EX_ANTE_PAYMENT)] [(.int (1 : Int32))])) _
    exact retN X4 hx (t := .boolean) Bd.returns (by simp) (hb hby at_87) hr
  · obtain ⟨T1, X1, e1, st1⟩ := getS2 X0 hx hZ hown (host := "") (Or.inl (own_w36 hw)) Via.refl e0 S_o_FLOW_DIRECTION (g := (mkF m 27 #[.val (.int i0), .val (.int (1 : Int32)), .unset, .unset, .unset] [])) rfl (hb hby at_27)
    obtain ⟨T2, X2, e2, st2⟩ := getS2 X1 hx hZ hown (host := "") (Or.inl (own_w38 hw)) Via.refl e1 S_o_FLOW_DIRECTION_PAYMENT (g := (mkF m 31 #[.val (.int i0), .val (.int (1 : Int32)), .val (.ref o_FLOW_DIRECTION), .unset, .unset] [])) rfl (hb hby at_31)
    obtain ⟨cq3, kq3, q3a, q3b, q3c⟩ := isOf hZ e2 E_o_FLOW_DIRECTION
    obtain ⟨_, _, ⟨T3, L3, k3, n3⟩, -, X3, ⟨Lc3, hQ3, l3, y3, z3⟩, st3⟩ := X2.virtualBack hx (y := (⟨"com/example/hubclear/hubclear/settlement/Component", "payment", "()Lcom/example/hubclear/hubclear/settlement/SettlementItem;"⟩ : MethodName)) (z := (⟨"com/example/hubclear/hubclear/settlement/Component", "payment", "()Lcom/example/hubclear/hubclear/settlement/SettlementItem;"⟩ : MethodName)) hown (mvT hZ (own_w7 hw)) (mvT hZ (own_w8 hw)) (notFace_of_selects (args := #[]) (mvT hZ (own_w10 hw))) (mvT hZ (own_w10 hw)) (mvT hZ (own_w9 hw)) (by decide) (backOf (W := 0) (rm1_1 l Z a0 hw [] o_FLOW_DIRECTION o_FLOW_DIRECTION_PAYMENT h0 n0 Z0 F_o_FLOW_DIRECTION_payment) hZ (own_w11 hw) (own_w2 hw) (by decide) (by decide)) q3a q3c (g := (mkF m 63 #[.val (.int i0), .val (.int (1 : Int32)), .val (.ref o_FLOW_DIRECTION), .val (.ref o_FLOW_DIRECTION_PAYMENT), .unset] [(.ref o_FLOW_DIRECTION)])) rfl (by rw [hml]; rfl) (Steps.refl _) (argsL := []) (rest := []) (lenOf pd___Lcom_example_hubclear_hubclear_settlement_SettlementItem_ rfl) rfl (by show 2 * 0 + _ ≤ _; exact Nat.le_of_eq rfl) (hb hby at_63) (fun _ _ => ⟨rfl, e2, (by decide : 0 + 0 ≤ _), (by decide : 0 + 0 ≤ _)⟩)
    dsimp only [Pt.U, Pt.locs, Pt.cells, Pt.slots] at X3 l3 y3 z3 st3 hQ3
    subst l3 y3 z3
    obtain ⟨rfl, N3q, e3⟩ := hQ3
    have N3 := Fr.app N0 N3q
    obtain ⟨cq4, kq4, q4a, q4b, q4c⟩ := isOf hZ e3 E_o_FLOW_DIRECTION_PAYMENT
    obtain ⟨_, _, ⟨T4, L4, k4, n4⟩, -, X4, ⟨Lc4, hQ4, l4, y4, z4⟩, st4⟩ := X3.virtualBack hx (y := (⟨"com/example/hubclear/hubclear/settlement/SettlementItem", "isCharge", "()Z"⟩ : MethodName)) (z := (⟨"com/example/hubclear/hubclear/settlement/SettlementItem", "isCharge", "()Z"⟩ : MethodName)) hown (mvT hZ (own_w14 hw)) (mvT hZ (own_w15 hw)) (notFace_of_selects (args := #[]) (mvT hZ (own_w17 hw))) (mvT hZ (own_w17 hw)) (mvT hZ (own_w16 hw)) (by decide) (backOf (W := 0) (rm2_5 l Z a0 hw [] o_FLOW_DIRECTION_PAYMENT h0 n0 Z0 E_o_FLOW_DIRECTION_PAYMENT F_o_FLOW_DIRECTION_PAYMENT_ordinal) hZ (own_w18 hw) (own_w5 hw) (by decide) (by decide)) q4a q4c (g := (mkF m 76 #[.val (.int i0), .val (.int (1 : Int32)), .val (.ref o_FLOW_DIRECTION), .val (.ref o_FLOW_DIRECTION_PAYMENT), .val (.ref o_FLOW_DIRECTION_PAYMENT)] [(.ref o_FLOW_DIRECTION_PAYMENT)])) rfl (by rw [hml]; rfl) (Steps.refl _) (argsL := []) (rest := []) (lenOf pd___Z rfl) rfl (by show 2 * 0 + _ ≤ _; exact Nat.le_of_eq rfl) (hb hby at_76) (fun _ _ => ⟨rfl, e3, (by decide : 0 + 0 ≤ _), (by decide : 0 + 0 ≤ _)⟩)
    dsimp only [Pt.U, Pt.locs, Pt.cells, Pt.slots] at X4 l4 y4 z4 st4 hQ4
    subst l4 y4 z4
    obtain ⟨rfl, N4q, e4⟩ := hQ4
    have N4 := Fr.app N3 N4q
    obtain ⟨fs, hr, hrun, hended, hW, hsame⟩ := X4.leave (v := some (.int (1 : Int32))) (fun h => by rw [Bd.returns] at h; cases h)
    refine ⟨_, _, pre1 _ ?_, hrun, hended, _, _, rfl, ⟨rfl, N4⟩, ⟨_, rfl⟩, hW, hsame.mono (by decide) (by decide)⟩
    show Steps p.tables e below (s₁.setTop (mkF m 6 #[.val (.int i0), .unset, .unset, .unset, .unset] [(.int ((i0 &&& (2147483647 : Int32)) % (4 : Int32)))])) _
    rw [he0]
    show Steps p.tables e below (s₁.setTop (mkF m 6 #[.val (.int i0), .unset, .unset, .unset, .unset] [(.int (1 : Int32))])) _
    refine XS.istoreN X0.here hx rfl (hb hby at_6) rfl (l' := #[.val (.int i0), .val (.int (1 : Int32)), .unset, .unset, .unset]) rfl ?_
    show Steps p.tables e below (s₁.setTop (mkF m 7 #[.val (.int i0), .val (.int (1 : Int32)), .unset, .unset, .unset] [])) _
    refine XS.iloadN X0.here hx rfl (hb hby at_7) rfl ?_
    show Steps p.tables e below (s₁.setTop (mkF m 8 #[.val (.int i0), .val (.int (1 : Int32)), .unset, .unset, .unset] [(.int (1 : Int32))])) _
    refine XS.ifYes X0.here hx rfl (pc0 := 8) (pc' := 22) rfl (hb hby at_8) rfl ((if0 _ _).trans (feq (by decide : ¬ ((1 : Int32) = (0 : Int32)))).2) (by decide) (by decide) ?_
    show Steps p.tables e below (s₁.setTop (mkF m 22 #[.val (.int i0), .val (.int (1 : Int32)), .unset, .unset, .unset] [])) _
    refine XS.iloadN X0.here hx rfl (hb hby at_22) rfl ?_
    show Steps p.tables e below (s₁.setTop (mkF m 23 #[.val (.int i0), .val (.int (1 : Int32)), .unset, .unset, .unset] [(.int (1 : Int32))])) _
    refine XS.iconst X0.here hx rfl (hb hby at_23) ?_
    show Steps p.tables e below (s₁.setTop (mkF m 24 #[.val (.int i0), .val (.int (1 : Int32)), .unset, .unset, .unset] [(.int (1 : Int32)), (.int (1 : Int32))])) _
    refine XS.icmpNo X0.here hx rfl (hb hby at_24) rfl (teq (by decide : (1 : Int32) = (1 : Int32))).2 ?_
    show Steps p.tables e below (s₁.setTop (mkF m 27 #[.val (.int i0), .val (.int (1 : Int32)), .unset, .unset, .unset] [])) _
    refine st1 _ ?_
    show Steps p.tables e below (T1.setTop (mkF m 30 #[.val (.int i0), .val (.int (1 : Int32)), .unset, .unset, .unset] [(.ref o_FLOW_DIRECTION)])) _
    refine XS.astoreN X1.here hx rfl (hb hby at_30) rfl rfl (l' := #[.val (.int i0), .val (.int (1 : Int32)), .val (.ref o_FLOW_DIRECTION), .unset, .unset]) rfl ?_
    show Steps p.tables e below (T1.setTop (mkF m 31 #[.val (.int i0), .val (.int (1 : Int32)), .val (.ref o_FLOW_DIRECTION), .unset, .unset] [])) _
    refine st2 _ ?_
    show Steps p.tables e below (T2.setTop (mkF m 34 #[.val (.int i0), .val (.int (1 : Int32)), .val (.ref o_FLOW_DIRECTION), .unset, .unset] [(.ref o_FLOW_DIRECTION_PAYMENT)])) _
    refine XS.astoreN X2.here hx rfl (hb hby at_34) rfl rfl (l' := #[.val (.int i0), .val (.int (1 : Int32)), .val (.ref o_FLOW_DIRECTION), .val (.ref o_FLOW_DIRECTION_PAYMENT), .unset]) rfl ?_
    show Steps p.tables e below (T2.setTop (mkF m 35 #[.val (.int i0), .val (.int (1 : Int32)), .val (.ref o_FLOW_DIRECTION), .val (.ref o_FLOW_DIRECTION_PAYMENT), .unset] [])) _
    refine XS.goto X2.here hx rfl (pc0 := 35) (pc' := 62) rfl (hb hby at_35) (by decide) (by decide) ?_
    show Steps p.tables e below (T2.setTop (mkF m 62 #[.val (.int i0), .val (.int (1 : Int32)), .val (.ref o_FLOW_DIRECTION), .val (.ref o_FLOW_DIRECTION_PAYMENT), .unset] [])) _
    refine XS.aloadN X2.here hx rfl (hb hby at_62) rfl rfl ?_
    show Steps p.tables e below (T2.setTop (mkF m 63 #[.val (.int i0), .val (.int (1 : Int32)), .val (.ref o_FLOW_DIRECTION), .val (.ref o_FLOW_DIRECTION_PAYMENT), .unset] [(.ref o_FLOW_DIRECTION)])) _
    refine st3.trans ?_
    show Steps p.tables e below (T3.setTop (mkF m 66 #[.val (.int i0), .val (.int (1 : Int32)), .val (.ref o_FLOW_DIRECTION), .val (.ref o_FLOW_DIRECTION_PAYMENT), .unset] [(.ref o_FLOW_DIRECTION_PAYMENT)])) _
    refine XS.astore X3.here hx rfl (hb hby at_66) rfl rfl (l' := #[.val (.int i0), .val (.int (1 : Int32)), .val (.ref o_FLOW_DIRECTION), .val (.ref o_FLOW_DIRECTION_PAYMENT), .val (.ref o_FLOW_DIRECTION_PAYMENT)]) rfl ?_
    show Steps p.tables e below (T3.setTop (mkF m 68 #[.val (.int i0), .val (.int (1 : Int32)), .val (.ref o_FLOW_DIRECTION), .val (.ref o_FLOW_DIRECTION_PAYMENT), .val (.ref o_FLOW_DIRECTION_PAYMENT)] [])) _
    refine XS.aload X3.here hx rfl (hb hby at_68) rfl rfl ?_
    show Steps p.tables e below (T3.setTop (mkF m 70 #[.val (.int i0), .val (.int (1 : Int32)), .val (.ref o_FLOW_DIRECTION), .val (.ref o_FLOW_DIRECTION_PAYMENT), .val (.ref o_FLOW_DIRECTION_PAYMENT)] [(.ref o_FLOW_DIRECTION_PAYMENT)])) _
    refine XS.aloadN X3.here hx rfl (hb hby at_70) rfl rfl ?_
    show Steps p.tables e below (T3.setTop (mkF m 71 #[.val (.int i0), .val (.int (1 : Int32)), .val (.ref o_FLOW_DIRECTION), .val (.ref o_FLOW_DIRECTION_PAYMENT), .val (.ref o_FLOW_DIRECTION_PAYMENT)] [(.ref o_FLOW_DIRECTION_PAYMENT), (.ref o_FLOW_DIRECTION_PAYMENT)])) _
    refine Jvm.RoadKit.acmp (g := (mkF m 71 #[.val (.int i0), .val (.int (1 : Int32)), .val (.ref o_FLOW_DIRECTION), .val (.ref o_FLOW_DIRECTION_PAYMENT), .val (.ref o_FLOW_DIRECTION_PAYMENT)] [(.ref o_FLOW_DIRECTION_PAYMENT), (.ref o_FLOW_DIRECTION_PAYMENT)])) X3 hx rfl rfl rfl (pc0 := 71) (pc' := 74) (same := true) rfl (hb hby at_71) rfl (decide_eq_true rfl) (by decide) (by decide) ?_
    show Steps p.tables e below (T3.setTop (mkF m 74 #[.val (.int i0), .val (.int (1 : Int32)), .val (.ref o_FLOW_DIRECTION), .val (.ref o_FLOW_DIRECTION_PAYMENT), .val (.ref o_FLOW_DIRECTION_PAYMENT)] [])) _
    refine XS.aload X3.here hx rfl (hb hby at_74) rfl rfl ?_
    show Steps p.tables e below (T3.setTop (mkF m 76 #[.val (.int i0), .val (.int (1 : Int32)), .val (.ref o_FLOW_DIRECTION), .val (.ref o_FLOW_DIRECTION_PAYMENT), .val (.ref o_FLOW_DIRECTION_PAYMENT)] [(.ref o_FLOW_DIRECTION_PAYMENT)])) _
    refine st4.trans ?_
    show Steps p.tables e below (T4.setTop (mkF m 79 #[.val (.int i0), .val (.int (1 : Int32)), .val (.ref o_FLOW_DIRECTION), .val (.ref o_FLOW_DIRECTION_PAYMENT), .val (.ref o_FLOW_DIRECTION_PAYMENT)] [(.int (0 : Int32))])) _
    refine XS.ifNo X4.here hx rfl (hb hby at_79) rfl ((if0 _ _).trans (teq (by decide : (0 : Int32) = (0 : Int32))).2) ?_
    show Steps p.tables e below (T4.setTop (mkF m 82 #[.val (.int i0), .val (.int (1 : Int32)), .val (.ref o_FLOW_DIRECTION), .val (.ref o_FLOW_DIRECTION_PAYMENT), .val (.ref o_FLOW_DIRECTION_PAYMENT)] [])) _
    refine XS.iconst X4.here hx rfl (hb hby at_82) ?_
    show Steps p.tables e below (T4.setTop (mkF m 83 #[.val (.int i0), .val (.int (1 : Int32)), .val (.ref o_FLOW_DIRECTION), .val (.ref o_FLOW_DIRECTION_PAYMENT), .val (.ref o_FLOW_DIRECTION_PAYMENT)] [(.int (1 : Int32))])) _
    refine XS.goto X4.here hx rfl (pc0 := 83) (pc' := 87) rfl (hb hby at_83) (by decide) (by decide) ?_
    show Steps p.tables e below (T4.setTop (mkF m 87 #[.val (.int i0), .val (.int (1 : Int32)), .val (.ref o_FLOW_DIRECTION), .val (.ref o_FLOW_DIRECTION_PAYMENT), .val (.ref o_FLOW_DIRECTION_PAYMENT)] [(.int (1 : Int32))])) _
    exact retN X4 hx (t := .boolean) Bd.returns (by simp) (hb hby at_87) hr
  · obtain ⟨T1, X1, e1, st1⟩ := getS2 X0 hx hZ hown (host := "") (Or.inl (own_w32 hw)) Via.refl e0 S_o_CAPACITY (g := (mkF m 43 #[.val (.int i0), .val (.int (2 : Int32)), .unset, .unset, .unset] [])) rfl (hb hby at_43)
    obtain ⟨T2, X2, e2, st2⟩ := getS2 X1 hx hZ hown (host := "") (Or.inl (own_w34 hw)) Via.refl e1 S_o_CAPACITY_PAYMENT (g := (mkF m 47 #[.val (.int i0), .val (.int (2 : Int32)), .val (.ref o_CAPACITY), .unset, .unset] [])) rfl (hb hby at_47)
    obtain ⟨cq3, kq3, q3a, q3b, q3c⟩ := isOf hZ e2 E_o_CAPACITY
    obtain ⟨_, _, ⟨T3, L3, k3, n3⟩, -, X3, ⟨Lc3, hQ3, l3, y3, z3⟩, st3⟩ := X2.virtualBack hx (y := (⟨"com/example/hubclear/hubclear/settlement/Component", "payment", "()Lcom/example/hubclear/hubclear/settlement/SettlementItem;"⟩ : MethodName)) (z := (⟨"com/example/hubclear/hubclear/settlement/Component", "payment", "()Lcom/example/hubclear/hubclear/settlement/SettlementItem;"⟩ : MethodName)) hown (mvT hZ (own_w7 hw)) (mvT hZ (own_w8 hw)) (notFace_of_selects (args := #[]) (mvT hZ (own_w10 hw))) (mvT hZ (own_w10 hw)) (mvT hZ (own_w9 hw)) (by decide) (backOf (W := 0) (rm1_1 l Z a0 hw [] o_CAPACITY o_CAPACITY_PAYMENT h0 n0 Z0 F_o_CAPACITY_payment) hZ (own_w11 hw) (own_w2 hw) (by decide) (by decide)) q3a q3c (g := (mkF m 63 #[.val (.int i0), .val (.int (2 : Int32)), .val (.ref o_CAPACITY), .val (.ref o_CAPACITY_PAYMENT), .unset] [(.ref o_CAPACITY)])) rfl (by rw [hml]; rfl) (Steps.refl _) (argsL := []) (rest := []) (lenOf pd___Lcom_example_hubclear_hubclear_settlement_SettlementItem_ rfl) rfl (by show 2 * 0 + _ ≤ _; exact Nat.le_of_eq rfl) (hb hby at_63) (fun _ _ => ⟨rfl, e2, (by decide : 0 + 0 ≤ _), (by decide : 0 + 0 ≤ _)⟩)
    dsimp only [Pt.U, Pt.locs, Pt.cells, Pt.slots] at X3 l3 y3 z3 st3 hQ3
    subst l3 y3 z3
    obtain ⟨rfl, N3q, e3⟩ := hQ3
    have N3 := Fr.app N0 N3q
    obtain ⟨cq4, kq4, q4a, q4b, q4c⟩ := isOf hZ e3 E_o_CAPACITY_PAYMENT
    obtain ⟨_, _, ⟨T4, L4, k4, n4⟩, -, X4, ⟨Lc4, hQ4, l4, y4, z4⟩, st4⟩ := X3.virtualBack hx (y := (⟨"com/example/hubclear/hubclear/settlement/SettlementItem", "isCharge", "()Z"⟩ : MethodName)) (z := (⟨"com/example/hubclear/hubclear/settlement/SettlementItem", "isCharge", "()Z"⟩ : MethodName)) hown (mvT hZ (own_w14 hw)) (mvT hZ (own_w15 hw)) (notFace_of_selects (args := #[]) (mvT hZ (own_w17 hw))) (mvT hZ (own_w17 hw)) (mvT hZ (own_w16 hw)) (by decide) (backOf (W := 0) (rm2_7 l Z a0 hw [] o_CAPACITY_PAYMENT h0 n0 Z0 E_o_CAPACITY_PAYMENT F_o_CAPACITY_PAYMENT_ordinal) hZ (own_w18 hw) (own_w5 hw) (by decide) (by decide)) q4a q4c (g := (mkF m 76 #[.val (.int i0), .val (.int (2 : Int32)), .val (.ref o_CAPACITY), .val (.ref o_CAPACITY_PAYMENT), .val (.ref o_CAPACITY_PAYMENT)] [(.ref o_CAPACITY_PAYMENT)])) rfl (by rw [hml]; rfl) (Steps.refl _) (argsL := []) (rest := []) (lenOf pd___Z rfl) rfl (by show 2 * 0 + _ ≤ _; exact Nat.le_of_eq rfl) (hb hby at_76) (fun _ _ => ⟨rfl, e3, (by decide : 0 + 0 ≤ _), (by decide : 0 + 0 ≤ _)⟩)
    dsimp only [Pt.U, Pt.locs, Pt.cells, Pt.slots] at X4 l4 y4 z4 st4 hQ4
    subst l4 y4 z4
    obtain ⟨rfl, N4q, e4⟩ := hQ4
    have N4 := Fr.app N3 N4q
    obtain ⟨fs, hr, hrun, hended, hW, hsame⟩ := X4.leave (v := some (.int (1 : Int32))) (fun h => by rw [Bd.returns] at h; cases h)
    refine ⟨_, _, pre1 _ ?_, hrun, hended, _, _, rfl, ⟨rfl, N4⟩, ⟨_, rfl⟩, hW, hsame.mono (by decide) (by decide)⟩
    show Steps p.tables e below (s₁.setTop (mkF m 6 #[.val (.int i0), .unset, .unset, .unset, .unset] [(.int ((i0 &&& (2147483647 : Int32)) % (4 : Int32)))])) _
    rw [he0]
    show Steps p.tables e below (s₁.setTop (mkF m 6 #[.val (.int i0), .unset, .unset, .unset, .unset] [(.int (2 : Int32))])) _
    refine XS.istoreN X0.here hx rfl (hb hby at_6) rfl (l' := #[.val (.int i0), .val (.int (2 : Int32)), .unset, .unset, .unset]) rfl ?_
    show Steps p.tables e below (s₁.setTop (mkF m 7 #[.val (.int i0), .val (.int (2 : Int32)), .unset, .unset, .unset] [])) _
    refine XS.iloadN X0.here hx rfl (hb hby at_7) rfl ?_
    show Steps p.tables e below (s₁.setTop (mkF m 8 #[.val (.int i0), .val (.int (2 : Int32)), .unset, .unset, .unset] [(.int (2 : Int32))])) _
    refine XS.ifYes X0.here hx rfl (pc0 := 8) (pc' := 22) rfl (hb hby at_8) rfl ((if0 _ _).trans (feq (by decide : ¬ ((2 : Int32) = (0 : Int32)))).2) (by decide) (by decide) ?_
    show Steps p.tables e below (s₁.setTop (mkF m 22 #[.val (.int i0), .val (.int (2 : Int32)), .unset, .unset, .unset] [])) _
    refine XS.iloadN X0.here hx rfl (hb hby at_22) rfl ?_
    show Steps p.tables e below (s₁.setTop (mkF m 23 #[.val (.int i0), .val (.int (2 : Int32)), .unset, .unset, .unset] [(.int (2 : Int32))])) _
    refine XS.iconst X0.here hx rfl (hb hby at_23) ?_
    show Steps p.tables e below (s₁.setTop (mkF m 24 #[.val (.int i0), .val (.int (2 : Int32)), .unset, .unset, .unset] [(.int (1 : Int32)), (.int (2 : Int32))])) _
    refine XS.icmpYes X0.here hx rfl (pc0 := 24) (pc' := 38) rfl (hb hby at_24) rfl (feq (by decide : ¬ ((2 : Int32) = (1 : Int32)))).2 (by decide) (by decide) ?_
    show Steps p.tables e below (s₁.setTop (mkF m 38 #[.val (.int i0), .val (.int (2 : Int32)), .unset, .unset, .unset] [])) _
    refine XS.iloadN X0.here hx rfl (hb hby at_38) rfl ?_
    show Steps p.tables e below (s₁.setTop (mkF m 39 #[.val (.int i0), .val (.int (2 : Int32)), .unset, .unset, .unset] [(.int (2 : Int32))])) _
    refine XS.iconst X0.here hx rfl (hb hby at_39) ?_
    show Steps p.tables e below (s₁.setTop (mkF m 40 #[.val (.int i0), .val (.int (2 : Int32)), .unset, .unset, .unset] [(.int (2 : Int32)), (.int (2 : Int32))])) _
    refine XS.icmpNo X0.here hx rfl (hb hby at_40) rfl (teq (by decide : (2 : Int32) = (2 : Int32))).2 ?_
    show Steps p.tables e below (s₁.setTop (mkF m 43 #[.val (.int i0), .val (.int (2 : Int32)), .unset, .unset, .unset] [])) _
    refine st1 _ ?_
    show Steps p.tables e below (T1.setTop (mkF m 46 #[.val (.int i0), .val (.int (2 : Int32)), .unset, .unset, .unset] [(.ref o_CAPACITY)])) _
    refine XS.astoreN X1.here hx rfl (hb hby at_46) rfl rfl (l' := #[.val (.int i0), .val (.int (2 : Int32)), .val (.ref o_CAPACITY), .unset, .unset]) rfl ?_
    show Steps p.tables e below (T1.setTop (mkF m 47 #[.val (.int i0), .val (.int (2 : Int32)), .val (.ref o_CAPACITY), .unset, .unset] [])) _
    refine st2 _ ?_
    show Steps p.tables e below (T2.setTop (mkF m 50 #[.val (.int i0), .val (.int (2 : Int32)), .val (.ref o_CAPACITY), .unset, .unset] [(.ref o_CAPACITY_PAYMENT)])) _
    refine XS.astoreN X2.here hx rfl (hb hby at_50) rfl rfl (l' := #[.val (.int i0), .val (.int (2 : Int32)), .val (.ref o_CAPACITY), .val (.ref o_CAPACITY_PAYMENT), .unset]) rfl ?_
    show Steps p.tables e below (T2.setTop (mkF m 51 #[.val (.int i0), .val (.int (2 : Int32)), .val (.ref o_CAPACITY), .val (.ref o_CAPACITY_PAYMENT), .unset] [])) _
    refine XS.goto X2.here hx rfl (pc0 := 51) (pc' := 62) rfl (hb hby at_51) (by decide) (by decide) ?_
    show Steps p.tables e below (T2.setTop (mkF m 62 #[.val (.int i0), .val (.int (2 : Int32)), .val (.ref o_CAPACITY), .val (.ref o_CAPACITY_PAYMENT), .unset] [])) _
    refine XS.aloadN X2.here hx rfl (hb hby at_62) rfl rfl ?_
    show Steps p.tables e below (T2.setTop (mkF m 63 #[.val (.int i0), .val (.int (2 : Int32)), .val (.ref o_CAPACITY), .val (.ref o_CAPACITY_PAYMENT), .unset] [(.ref o_CAPACITY)])) _
    refine st3.trans ?_
    show Steps p.tables e below (T3.setTop (mkF m 66 #[.val (.int i0), .val (.int (2 : Int32)), .val (.ref o_CAPACITY), .val (.ref o_CAPACITY_PAYMENT), .unset] [(.ref o_CAPACITY_PAYMENT)])) _
    refine XS.astore X3.here hx rfl (hb hby at_66) rfl rfl (l' := #[.val (.int i0), .val (.int (2 : Int32)), .val (.ref o_CAPACITY), .val (.ref o_CAPACITY_PAYMENT), .val (.ref o_CAPACITY_PAYMENT)]) rfl ?_
    show Steps p.tables e below (T3.setTop (mkF m 68 #[.val (.int i0), .val (.int (2 : Int32)), .val (.ref o_CAPACITY), .val (.ref o_CAPACITY_PAYMENT), .val (.ref o_CAPACITY_PAYMENT)] [])) _
    refine XS.aload X3.here hx rfl (hb hby at_68) rfl rfl ?_
    show Steps p.tables e below (T3.setTop (mkF m 70 #[.val (.int i0), .val (.int (2 : Int32)), .val (.ref o_CAPACITY), .val (.ref o_CAPACITY_PAYMENT), .val (.ref o_CAPACITY_PAYMENT)] [(.ref o_CAPACITY_PAYMENT)])) _
    refine XS.aloadN X3.here hx rfl (hb hby at_70) rfl rfl ?_
    show Steps p.tables e below (T3.setTop (mkF m 71 #[.val (.int i0), .val (.int (2 : Int32)), .val (.ref o_CAPACITY), .val (.ref o_CAPACITY_PAYMENT), .val (.ref o_CAPACITY_PAYMENT)] [(.ref o_CAPACITY_PAYMENT), (.ref o_CAPACITY_PAYMENT)])) _
    refine Jvm.RoadKit.acmp (g := (mkF m 71 #[.val (.int i0), .val (.int (2 : Int32)), .val (.ref o_CAPACITY), .val (.ref o_CAPACITY_PAYMENT), .val (.ref o_CAPACITY_PAYMENT)] [(.ref o_CAPACITY_PAYMENT), (.ref o_CAPACITY_PAYMENT)])) X3 hx rfl rfl rfl (pc0 := 71) (pc' := 74) (same := true) rfl (hb hby at_71) rfl (decide_eq_true rfl) (by decide) (by decide) ?_
    show Steps p.tables e below (T3.setTop (mkF m 74 #[.val (.int i0), .val (.int (2 : Int32)), .val (.ref o_CAPACITY), .val (.ref o_CAPACITY_PAYMENT), .val (.ref o_CAPACITY_PAYMENT)] [])) _
    refine XS.aload X3.here hx rfl (hb hby at_74) rfl rfl ?_
    show Steps p.tables e below (T3.setTop (mkF m 76 #[.val (.int i0), .val (.int (2 : Int32)), .val (.ref o_CAPACITY), .val (.ref o_CAPACITY_PAYMENT), .val (.ref o_CAPACITY_PAYMENT)] [(.ref o_CAPACITY_PAYMENT)])) _
    refine st4.trans ?_
    show Steps p.tables e below (T4.setTop (mkF m 79 #[.val (.int i0), .val (.int (2 : Int32)), .val (.ref o_CAPACITY), .val (.ref o_CAPACITY_PAYMENT), .val (.ref o_CAPACITY_PAYMENT)] [(.int (0 : Int32))])) _
    refine XS.ifNo X4.here hx rfl (hb hby at_79) rfl ((if0 _ _).trans (teq (by decide : (0 : Int32) = (0 : Int32))).2) ?_
    show Steps p.tables e below (T4.setTop (mkF m 82 #[.val (.int i0), .val (.int (2 : Int32)), .val (.ref o_CAPACITY), .val (.ref o_CAPACITY_PAYMENT), .val (.ref o_CAPACITY_PAYMENT)] [])) _
    refine XS.iconst X4.here hx rfl (hb hby at_82) ?_
    show Steps p.tables e below (T4.setTop (mkF m 83 #[.val (.int i0), .val (.int (2 : Int32)), .val (.ref o_CAPACITY), .val (.ref o_CAPACITY_PAYMENT), .val (.ref o_CAPACITY_PAYMENT)] [(.int (1 : Int32))])) _
    refine XS.goto X4.here hx rfl (pc0 := 83) (pc' := 87) rfl (hb hby at_83) (by decide) (by decide) ?_
    show Steps p.tables e below (T4.setTop (mkF m 87 #[.val (.int i0), .val (.int (2 : Int32)), .val (.ref o_CAPACITY), .val (.ref o_CAPACITY_PAYMENT), .val (.ref o_CAPACITY_PAYMENT)] [(.int (1 : Int32))])) _
    exact retN X4 hx (t := .boolean) Bd.returns (by simp) (hb hby at_87) hr
  · obtain ⟨T1, X1, e1, st1⟩ := getS2 X0 hx hZ hown (host := "") (Or.inl (own_w28 hw)) Via.refl e0 S_o_MOS (g := (mkF m 54 #[.val (.int i0), .val (.int (3 : Int32)), .unset, .unset, .unset] [])) rfl (hb hby at_54)
    obtain ⟨T2, X2, e2, st2⟩ := getS2 X1 hx hZ hown (host := "") (Or.inl (own_w30 hw)) Via.refl e1 S_o_MOS_PAYMENT (g := (mkF m 58 #[.val (.int i0), .val (.int (3 : Int32)), .val (.ref o_MOS), .unset, .unset] [])) rfl (hb hby at_58)
    obtain ⟨cq3, kq3, q3a, q3b, q3c⟩ := isOf hZ e2 E_o_MOS
    obtain ⟨_, _, ⟨T3, L3, k3, n3⟩, -, X3, ⟨Lc3, hQ3, l3, y3, z3⟩, st3⟩ := X2.virtualBack hx (y := (⟨"com/example/hubclear/hubclear/settlement/Component", "payment", "()Lcom/example/hubclear/hubclear/settlement/SettlementItem;"⟩ : MethodName)) (z := (⟨"com/example/hubclear/hubclear/settlement/Component", "payment", "()Lcom/example/hubclear/hubclear/settlement/SettlementItem;"⟩ : MethodName)) hown (mvT hZ (own_w7 hw)) (mvT hZ (own_w8 hw)) (notFace_of_selects (args := #[]) (mvT hZ (own_w10 hw))) (mvT hZ (own_w10 hw)) (mvT hZ (own_w9 hw)) (by decide) (backOf (W := 0) (rm1_1 l Z a0 hw [] o_MOS o_MOS_PAYMENT h0 n0 Z0 F_o_MOS_payment) hZ (own_w11 hw) (own_w2 hw) (by decide) (by decide)) q3a q3c (g := (mkF m 63 #[.val (.int i0), .val (.int (3 : Int32)), .val (.ref o_MOS), .val (.ref o_MOS_PAYMENT), .unset] [(.ref o_MOS)])) rfl (by rw [hml]; rfl) (Steps.refl _) (argsL := []) (rest := []) (lenOf pd___Lcom_example_hubclear_hubclear_settlement_SettlementItem_ rfl) rfl (by show 2 * 0 + _ ≤ _; exact Nat.le_of_eq rfl) (hb hby at_63) (fun _ _ => ⟨rfl, e2, (by decide : 0 + 0 ≤ _), (by decide : 0 + 0 ≤ _)⟩)
    dsimp only [Pt.U, Pt.locs, Pt.cells, Pt.slots] at X3 l3 y3 z3 st3 hQ3
    subst l3 y3 z3
    obtain ⟨rfl, N3q, e3⟩ := hQ3
    have N3 := Fr.app N0 N3q
    obtain ⟨cq4, kq4, q4a, q4b, q4c⟩ := isOf hZ e3 E_o_MOS_PAYMENT
    obtain ⟨_, _, ⟨T4, L4, k4, n4⟩, -, X4, ⟨Lc4, hQ4, l4, y4, z4⟩, st4⟩ := X3.virtualBack hx (y := (⟨"com/example/hubclear/hubclear/settlement/SettlementItem", "isCharge", "()Z"⟩ : MethodName)) (z := (⟨"com/example/hubclear/hubclear/settlement/SettlementItem", "isCharge", "()Z"⟩ : MethodName)) hown (mvT hZ (own_w14 hw)) (mvT hZ (own_w15 hw)) (notFace_of_selects (args := #[]) (mvT hZ (own_w17 hw))) (mvT hZ (own_w17 hw)) (mvT hZ (own_w16 hw)) (by decide) (backOf (W := 0) (rm2_9 l Z a0 hw [] o_MOS_PAYMENT h0 n0 Z0 E_o_MOS_PAYMENT F_o_MOS_PAYMENT_ordinal) hZ (own_w18 hw) (own_w5 hw) (by decide) (by decide)) q4a q4c (g := (mkF m 76 #[.val (.int i0), .val (.int (3 : Int32)), .val (.ref o_MOS), .val (.ref o_MOS_PAYMENT), .val (.ref o_MOS_PAYMENT)] [(.ref o_MOS_PAYMENT)])) rfl (by rw [hml]; rfl) (Steps.refl _) (argsL := []) (rest := []) (lenOf pd___Z rfl) rfl (by show 2 * 0 + _ ≤ _; exact Nat.le_of_eq rfl) (hb hby at_76) (fun _ _ => ⟨rfl, e3, (by decide : 0 + 0 ≤ _), (by decide : 0 + 0 ≤ _)⟩)
    dsimp only [Pt.U, Pt.locs, Pt.cells, Pt.slots] at X4 l4 y4 z4 st4 hQ4
    subst l4 y4 z4
    obtain ⟨rfl, N4q, e4⟩ := hQ4
    have N4 := Fr.app N3 N4q
    obtain ⟨fs, hr, hrun, hended, hW, hsame⟩ := X4.leave (v := some (.int (1 : Int32))) (fun h => by rw [Bd.returns] at h; cases h)
    refine ⟨_, _, pre1 _ ?_, hrun, hended, _, _, rfl, ⟨rfl, N4⟩, ⟨_, rfl⟩, hW, hsame.mono (by decide) (by decide)⟩
    show Steps p.tables e below (s₁.setTop (mkF m 6 #[.val (.int i0), .unset, .unset, .unset, .unset] [(.int ((i0 &&& (2147483647 : Int32)) % (4 : Int32)))])) _
    rw [he0]
    show Steps p.tables e below (s₁.setTop (mkF m 6 #[.val (.int i0), .unset, .unset, .unset, .unset] [(.int (3 : Int32))])) _
    refine XS.istoreN X0.here hx rfl (hb hby at_6) rfl (l' := #[.val (.int i0), .val (.int (3 : Int32)), .unset, .unset, .unset]) rfl ?_
    show Steps p.tables e below (s₁.setTop (mkF m 7 #[.val (.int i0), .val (.int (3 : Int32)), .unset, .unset, .unset] [])) _
    refine XS.iloadN X0.here hx rfl (hb hby at_7) rfl ?_
    show Steps p.tables e below (s₁.setTop (mkF m 8 #[.val (.int i0), .val (.int (3 : Int32)), .unset, .unset, .unset] [(.int (3 : Int32))])) _
    refine XS.ifYes X0.here hx rfl (pc0 := 8) (pc' := 22) rfl (hb hby at_8) rfl ((if0 _ _).trans (feq (by decide : ¬ ((3 : Int32) = (0 : Int32)))).2) (by decide) (by decide) ?_
    show Steps p.tables e below (s₁.setTop (mkF m 22 #[.val (.int i0), .val (.int (3 : Int32)), .unset, .unset, .unset] [])) _
    refine XS.iloadN X0.here hx rfl (hb hby at_22) rfl ?_
    show Steps p.tables e below (s₁.setTop (mkF m 23 #[.val (.int i0), .val (.int (3 : Int32)), .unset, .unset, .unset] [(.int (3 : Int32))])) _
    refine XS.iconst X0.here hx rfl (hb hby at_23) ?_
    show Steps p.tables e below (s₁.setTop (mkF m 24 #[.val (.int i0), .val (.int (3 : Int32)), .unset, .unset, .unset] [(.int (1 : Int32)), (.int (3 : Int32))])) _
    refine XS.icmpYes X0.here hx rfl (pc0 := 24) (pc' := 38) rfl (hb hby at_24) rfl (feq (by decide : ¬ ((3 : Int32) = (1 : Int32)))).2 (by decide) (by decide) ?_
    show Steps p.tables e below (s₁.setTop (mkF m 38 #[.val (.int i0), .val (.int (3 : Int32)), .unset, .unset, .unset] [])) _
    refine XS.iloadN X0.here hx rfl (hb hby at_38) rfl ?_
    show Steps p.tables e below (s₁.setTop (mkF m 39 #[.val (.int i0), .val (.int (3 : Int32)), .unset, .unset, .unset] [(.int (3 : Int32))])) _
    refine XS.iconst X0.here hx rfl (hb hby at_39) ?_
    show Steps p.tables e below (s₁.setTop (mkF m 40 #[.val (.int i0), .val (.int (3 : Int32)), .unset, .unset, .unset] [(.int (2 : Int32)), (.int (3 : Int32))])) _
    refine XS.icmpYes X0.here hx rfl (pc0 := 40) (pc' := 54) rfl (hb hby at_40) rfl (feq (by decide : ¬ ((3 : Int32) = (2 : Int32)))).2 (by decide) (by decide) ?_
    show Steps p.tables e below (s₁.setTop (mkF m 54 #[.val (.int i0), .val (.int (3 : Int32)), .unset, .unset, .unset] [])) _
    refine st1 _ ?_
    show Steps p.tables e below (T1.setTop (mkF m 57 #[.val (.int i0), .val (.int (3 : Int32)), .unset, .unset, .unset] [(.ref o_MOS)])) _
    refine XS.astoreN X1.here hx rfl (hb hby at_57) rfl rfl (l' := #[.val (.int i0), .val (.int (3 : Int32)), .val (.ref o_MOS), .unset, .unset]) rfl ?_
    show Steps p.tables e below (T1.setTop (mkF m 58 #[.val (.int i0), .val (.int (3 : Int32)), .val (.ref o_MOS), .unset, .unset] [])) _
    refine st2 _ ?_
    show Steps p.tables e below (T2.setTop (mkF m 61 #[.val (.int i0), .val (.int (3 : Int32)), .val (.ref o_MOS), .unset, .unset] [(.ref o_MOS_PAYMENT)])) _
    refine XS.astoreN X2.here hx rfl (hb hby at_61) rfl rfl (l' := #[.val (.int i0), .val (.int (3 : Int32)), .val (.ref o_MOS), .val (.ref o_MOS_PAYMENT), .unset]) rfl ?_
    show Steps p.tables e below (T2.setTop (mkF m 62 #[.val (.int i0), .val (.int (3 : Int32)), .val (.ref o_MOS), .val (.ref o_MOS_PAYMENT), .unset] [])) _
    refine XS.aloadN X2.here hx rfl (hb hby at_62) rfl rfl ?_
    show Steps p.tables e below (T2.setTop (mkF m 63 #[.val (.int i0), .val (.int (3 : Int32)), .val (.ref o_MOS), .val (.ref o_MOS_PAYMENT), .unset] [(.ref o_MOS)])) _
    refine st3.trans ?_
    show Steps p.tables e below (T3.setTop (mkF m 66 #[.val (.int i0), .val (.int (3 : Int32)), .val (.ref o_MOS), .val (.ref o_MOS_PAYMENT), .unset] [(.ref o_MOS_PAYMENT)])) _
    refine XS.astore X3.here hx rfl (hb hby at_66) rfl rfl (l' := #[.val (.int i0), .val (.int (3 : Int32)), .val (.ref o_MOS), .val (.ref o_MOS_PAYMENT), .val (.ref o_MOS_PAYMENT)]) rfl ?_
    show Steps p.tables e below (T3.setTop (mkF m 68 #[.val (.int i0), .val (.int (3 : Int32)), .val (.ref o_MOS), .val (.ref o_MOS_PAYMENT), .val (.ref o_MOS_PAYMENT)] [])) _
    refine XS.aload X3.here hx rfl (hb hby at_68) rfl rfl ?_
    show Steps p.tables e below (T3.setTop (mkF m 70 #[.val (.int i0), .val (.int (3 : Int32)), .val (.ref o_MOS), .val (.ref o_MOS_PAYMENT), .val (.ref o_MOS_PAYMENT)] [(.ref o_MOS_PAYMENT)])) _
    refine XS.aloadN X3.here hx rfl (hb hby at_70) rfl rfl ?_
    show Steps p.tables e below (T3.setTop (mkF m 71 #[.val (.int i0), .val (.int (3 : Int32)), .val (.ref o_MOS), .val (.ref o_MOS_PAYMENT), .val (.ref o_MOS_PAYMENT)] [(.ref o_MOS_PAYMENT), (.ref o_MOS_PAYMENT)])) _
    refine Jvm.RoadKit.acmp (g := (mkF m 71 #[.val (.int i0), .val (.int (3 : Int32)), .val (.ref o_MOS), .val (.ref o_MOS_PAYMENT), .val (.ref o_MOS_PAYMENT)] [(.ref o_MOS_PAYMENT), (.ref o_MOS_PAYMENT)])) X3 hx rfl rfl rfl (pc0 := 71) (pc' := 74) (same := true) rfl (hb hby at_71) rfl (decide_eq_true rfl) (by decide) (by decide) ?_
    show Steps p.tables e below (T3.setTop (mkF m 74 #[.val (.int i0), .val (.int (3 : Int32)), .val (.ref o_MOS), .val (.ref o_MOS_PAYMENT), .val (.ref o_MOS_PAYMENT)] [])) _
    refine XS.aload X3.here hx rfl (hb hby at_74) rfl rfl ?_
    show Steps p.tables e below (T3.setTop (mkF m 76 #[.val (.int i0), .val (.int (3 : Int32)), .val (.ref o_MOS), .val (.ref o_MOS_PAYMENT), .val (.ref o_MOS_PAYMENT)] [(.ref o_MOS_PAYMENT)])) _
    refine st4.trans ?_
    show Steps p.tables e below (T4.setTop (mkF m 79 #[.val (.int i0), .val (.int (3 : Int32)), .val (.ref o_MOS), .val (.ref o_MOS_PAYMENT), .val (.ref o_MOS_PAYMENT)] [(.int (0 : Int32))])) _
    refine XS.ifNo X4.here hx rfl (hb hby at_79) rfl ((if0 _ _).trans (teq (by decide : (0 : Int32) = (0 : Int32))).2) ?_
    show Steps p.tables e below (T4.setTop (mkF m 82 #[.val (.int i0), .val (.int (3 : Int32)), .val (.ref o_MOS), .val (.ref o_MOS_PAYMENT), .val (.ref o_MOS_PAYMENT)] [])) _
    refine XS.iconst X4.here hx rfl (hb hby at_82) ?_
    show Steps p.tables e below (T4.setTop (mkF m 83 #[.val (.int i0), .val (.int (3 : Int32)), .val (.ref o_MOS), .val (.ref o_MOS_PAYMENT), .val (.ref o_MOS_PAYMENT)] [(.int (1 : Int32))])) _
    refine XS.goto X4.here hx rfl (pc0 := 83) (pc' := 87) rfl (hb hby at_83) (by decide) (by decide) ?_
    show Steps p.tables e below (T4.setTop (mkF m 87 #[.val (.int i0), .val (.int (3 : Int32)), .val (.ref o_MOS), .val (.ref o_MOS_PAYMENT), .val (.ref o_MOS_PAYMENT)] [(.int (1 : Int32))])) _
    exact retN X4 hx (t := .boolean) Bd.returns (by simp) (hb hby at_87) hr
set_option maxRecDepth 65536 in
set_option maxHeartbeats 40000000 in
theorem comes_1 {Post : Tables → Env → Array Value → State → Outcome → State → Prop} (hpost : ∀ tb e args s v u, (limb_1_1.after args s (.returned v) u = true ∧ limb_1_2.after args s (.returned v) u = true ∧ True) → FrameEnd s (.returned v) u (Jvm.fieldLocs frame_1_writes args s ++ Jvm.arrayLocs frame_1_arrays args s ++ Jvm.staticLocs frame_1_statics s) 0 0 → Post tb e args s (.returned v) u) :
    ArmFor flags0 classFile x code maxLocals ret World_1 tables_1 room_1 Calls_1 rest_1 Pre_1 Post := by
  intro l hfl _ _ p e ha hc hk s m args below hf hA hF happ hP
  obtain ⟨hcalls, hrest, hpre⟩ := hP
  obtain ⟨-, -, -, hnamed, -, -, -, hat⟩ := (Spec.applies_iff hf).mp happ
  obtain ⟨hg, hn⟩ := and_e (Cond.before_iff.mp (show (Jvm.Cond.and given_1 narrow_1).before args s = true from hpre))
  obtain ⟨hg_1a, hg_1b⟩ := and_e hg
  obtain ⟨w0, rfl⟩ : ∃ w0 : Value, args = #[w0] := by
    have hs : args.size = 1 := by simpa [Cond.value, given_1] using hg_1a
    obtain ⟨L⟩ := args
    match L, hs with
    | [w0], _ => exact ⟨w0, rfl⟩
  have hw := fun d (hd : d ∈ tables_1) => atoms_spec (ws := Jvm.Cond.code x code maxLocals ret :: tables_1) hat d (List.mem_cons_of_mem _ hd)
  have hfit : Fit s := fun {y c} hc i hi => by
    obtain ⟨ha, rfl⟩ := Array.getElem?_eq_some_iff.mp hc
    have q := List.all_eq_true.mp ((Array.all_eq_true_iff_forall_mem.mp hF) _ (Array.getElem_mem ha)) i (List.mem_range.mpr hi)
    simpa [Array.getElem?_eq_getElem hi] using q
  obtain ⟨i0, ei0⟩ := is_v hg_1b
  obtain rfl : w0 = (.int i0) := Option.some.inj ei0
  obtain ⟨hn_1a, hn_1b⟩ := and_e hn
  obtain ⟨hn_2a, hn_2b⟩ := and_e hn_1b
  obtain ⟨hn_3a, hn_3b⟩ := and_e hn_2b
  obtain ⟨hn_4a, hn_4b⟩ := and_e hn_3b
  obtain ⟨hn_5a, hn_5b⟩ := and_e hn_4b
  obtain ⟨hn_6a, hn_6b⟩ := and_e hn_5b
  obtain ⟨hn_7a, hn_7b⟩ := and_e hn_6b
  obtain ⟨hn_8a, hn_8b⟩ := and_e hn_7b
  obtain ⟨hn_9a, hn_9b⟩ := and_e hn_8b
  obtain ⟨hn_10a, hn_10b⟩ := and_e hn_9b
  obtain ⟨hn_11a, hn_11b⟩ := and_e hn_10b
  obtain ⟨hn_12a, hn_12b⟩ := and_e hn_11b
  obtain ⟨hn_13a, hn_13b⟩ := and_e hn_12b
  obtain ⟨hn_14a, hn_14b⟩ := and_e hn_13b
  obtain ⟨hn_15a, hn_15b⟩ := and_e hn_14b
  obtain ⟨o_EX_ANTE, ev_o_EX_ANTE⟩ := exa_v hn_1a
  have S_o_EX_ANTE := Sta.start ev_o_EX_ANTE (Or.inr ⟨(own_w2 hw), (own_w3 hw)⟩)
  have E_o_EX_ANTE := Exa.start ev_o_EX_ANTE hn_1a
  obtain ⟨o_EX_ANTE_PAYMENT, ev_o_EX_ANTE_PAYMENT⟩ := exa_v hn_2a
  have S_o_EX_ANTE_PAYMENT := Sta.start ev_o_EX_ANTE_PAYMENT (Or.inr ⟨(own_w5 hw), (own_w6 hw)⟩)
  have E_o_EX_ANTE_PAYMENT := Exa.start ev_o_EX_ANTE_PAYMENT hn_2a
  obtain ⟨o_MOS, ev_o_MOS⟩ := exa_v hn_5a
  have S_o_MOS := Sta.start ev_o_MOS (Or.inr ⟨(own_w2 hw), (own_w29 hw)⟩)
  have E_o_MOS := Exa.start ev_o_MOS hn_5a
  obtain ⟨o_MOS_PAYMENT, ev_o_MOS_PAYMENT⟩ := exa_v hn_6a
  have S_o_MOS_PAYMENT := Sta.start ev_o_MOS_PAYMENT (Or.inr ⟨(own_w5 hw), (own_w31 hw)⟩)
  have E_o_MOS_PAYMENT := Exa.start ev_o_MOS_PAYMENT hn_6a
  obtain ⟨o_CAPACITY, ev_o_CAPACITY⟩ := exa_v hn_9a
  have S_o_CAPACITY := Sta.start ev_o_CAPACITY (Or.inr ⟨(own_w2 hw), (own_w33 hw)⟩)
  have E_o_CAPACITY := Exa.start ev_o_CAPACITY hn_9a
  obtain ⟨o_CAPACITY_PAYMENT, ev_o_CAPACITY_PAYMENT⟩ := exa_v hn_10a
  have S_o_CAPACITY_PAYMENT := Sta.start ev_o_CAPACITY_PAYMENT (Or.inr ⟨(own_w5 hw), (own_w35 hw)⟩)
  have E_o_CAPACITY_PAYMENT := Exa.start ev_o_CAPACITY_PAYMENT hn_10a
  obtain ⟨o_FLOW_DIRECTION, ev_o_FLOW_DIRECTION⟩ := exa_v hn_13a
  have S_o_FLOW_DIRECTION := Sta.start ev_o_FLOW_DIRECTION (Or.inr ⟨(own_w2 hw), (own_w37 hw)⟩)
  have E_o_FLOW_DIRECTION := Exa.start ev_o_FLOW_DIRECTION hn_13a
  obtain ⟨o_FLOW_DIRECTION_PAYMENT, ev_o_FLOW_DIRECTION_PAYMENT⟩ := exa_v hn_14a
  have S_o_FLOW_DIRECTION_PAYMENT := Sta.start ev_o_FLOW_DIRECTION_PAYMENT (Or.inr ⟨(own_w5 hw), (own_w39 hw)⟩)
  have E_o_FLOW_DIRECTION_PAYMENT := Exa.start ev_o_FLOW_DIRECTION_PAYMENT hn_14a
  have F_o_EX_ANTE_payment := own_fldR ev_o_EX_ANTE ev_o_EX_ANTE_PAYMENT hn_3a
  have F_o_EX_ANTE_PAYMENT_ordinal := own_fldI ev_o_EX_ANTE_PAYMENT hn_4a
  have F_o_MOS_payment := own_fldR ev_o_MOS ev_o_MOS_PAYMENT hn_7a
  have F_o_MOS_PAYMENT_ordinal := own_fldI ev_o_MOS_PAYMENT hn_8a
  have F_o_CAPACITY_payment := own_fldR ev_o_CAPACITY ev_o_CAPACITY_PAYMENT hn_11a
  have F_o_CAPACITY_PAYMENT_ordinal := own_fldI ev_o_CAPACITY_PAYMENT hn_12a
  have F_o_FLOW_DIRECTION_payment := own_fldR ev_o_FLOW_DIRECTION ev_o_FLOW_DIRECTION_PAYMENT hn_15a
  have F_o_FLOW_DIRECTION_PAYMENT_ordinal := own_fldI ev_o_FLOW_DIRECTION_PAYMENT hn_15b
  obtain ⟨n, o, h1, h2, h3, _, L, rfl, ⟨rfl, N⟩, hq⟩ := rm0 l s _ hw tables_1 i0 o_EX_ANTE o_EX_ANTE_PAYMENT o_MOS o_MOS_PAYMENT o_CAPACITY o_CAPACITY_PAYMENT o_FLOW_DIRECTION o_FLOW_DIRECTION_PAYMENT s.heap s.heap.size (Nat.le_refl _) S_o_EX_ANTE E_o_EX_ANTE S_o_EX_ANTE_PAYMENT E_o_EX_ANTE_PAYMENT S_o_MOS E_o_MOS S_o_MOS_PAYMENT E_o_MOS_PAYMENT S_o_CAPACITY E_o_CAPACITY S_o_CAPACITY_PAYMENT E_o_CAPACITY_PAYMENT S_o_FLOW_DIRECTION E_o_FLOW_DIRECTION S_o_FLOW_DIRECTION_PAYMENT E_o_FLOW_DIRECTION_PAYMENT F_o_EX_ANTE_payment F_o_EX_ANTE_PAYMENT_ordinal F_o_MOS_payment F_o_MOS_PAYMENT_ordinal F_o_CAPACITY_payment F_o_CAPACITY_PAYMENT_ordinal F_o_FLOW_DIRECTION_payment F_o_FLOW_DIRECTION_PAYMENT_ordinal p e ha hc hk s m _ below hf ((Spec.applies_iff_loose hf).mp happ).1 ⟨rfl, State.Warmed39.refl s, rfl⟩ trivial
  refine ⟨n, _, h1, h2, h3, hpost _ _ _ _ _ _ ⟨Cond.after_iff.mpr rfl, Cond.after_iff.mpr (eq_i res_at (Term.int_eval (1)) rfl), trivial⟩ ⟨hq.1, hq.2.1, (hq.2.2.sift fun y hy => Or.inr (N y hy)).mono (by decide) (by decide)⟩⟩
theorem main_1_1 : Claimed_1_1 := comes_1 fun _ _ _ _ _ _ h hF => ⟨h.1, hF⟩
theorem main_1_2 : Claimed_1_2 := comes_1 fun _ _ _ _ _ _ h hF => ⟨h.2.1, hF⟩
end Jvm.Pilot.@@N@@
namespace Jvm.Pilot.@@N@@
open Jvm Jvm.ClassFile Sem Op Lib Jvm.Free Jvm.Stand Jvm.Pilot.@@N@@.Jvm.D
/-! MADE BY PROGRAM (witnessworld.py) out of the Statement's table words and the real class files: 13 classes; the members and pool entries that the words name. The judged class is class 1, her method 1. -/
namespace start1
open Jvm.ClassFile
def u (s : String) : CpInfo := .utf8 (stringToUtf16 s)
/-- a pool by its gaps: so many unusable entries, then the entry; so many at the end -/
def gap : Nat → List CpInfo → List CpInfo
  | 0, r => r
  | n + 1, r => .unusable :: gap n r
def poolList (es : List (Nat × CpInfo)) (last : Nat) : List CpInfo := es.foldr (fun e r => gap e.1 (e.2 :: r)) (gap last [])
def pool (es : List (Nat × CpInfo)) (last : Nat) : Array CpInfo := ⟨poolList es last⟩
def fileOf (pool : Array CpInfo) (this : Nat) (attrs : Array Attribute := #[]) (ms : Array MethodInfo := #[]) (fl : Nat := 33) (sup : Nat := 0) (ifs : Array Nat := #[]) (fds : Array FieldInfo := #[]) : ClassFile where
  minorVersion := 0
  majorVersion := 65
  constantPool := pool
  accessFlags := fl
  thisClass := this
  superClass := sup
  interfaces := ifs
  fields := fds
  methods := ms
  attributes := attrs
def plain (name : String) (sup : Option ClassId) : Class where
  name := name
  kind := .ordinary
  loader := none
  accessFlags := 33
  super := sup
  interfaces := #[]
  cf := none
  fields := #[]
  methods := #[]
  instanceTypes := #[]
  staticTypes := #[]
  resolved := #[]
  callSites := []
  init := .initialized
  statics := none
  mirror := none

def pool0 : Array CpInfo := pool [(5, u "<init>"), (0, u "()V"), (1, .class_ 10), (1, u "java/lang/Object")] 113

def k0m0 : Method := { name := "<init>", desc := "()V", sig := { parameters := [], returnType := none }, accessFlags := 1, code := none }
/-- java/lang/Object -/
def k0 : Class := { plain "java/lang/Object" none with
  accessFlags := 33
  interfaces := #[]
  cf := some (fileOf pool0 8 #[] #[{ accessFlags := 1, nameIndex := 5, descriptorIndex := 6, attributes := #[] }] 33 0 #[] #[])
  fields := #[]
  methods := #[k0m0]
  instanceTypes := #[]
  staticTypes := #[]
  resolved := Array.replicate 124 none
  statics := none }

def pool1 : Array CpInfo := pool [(2, .class_ 4), (1, u "java/lang/Object"), (0, u "<init>"), (0, u "()V"), (0, .integer 2147483647), (0, .fieldref 9 10), (0, .class_ 11), (0, .nameAndType 12 13), (0, u "com/example/hubclear/hubclear/settlement/Component"), (0, u "EX_ANTE"), (0, u "Lcom/example/hubclear/hubclear/settlement/Component;"), (0, .fieldref 15 16), (0, .class_ 17), (0, .nameAndType 18 19), (0, u "com/example/hubclear/hubclear/settlement/SettlementItem"), (0, u "EX_ANTE_PAYMENT"), (0, u "Lcom/example/hubclear/hubclear/settlement/SettlementItem;"), (0, .fieldref 9 21), (0, .nameAndType 22 13), (0, u "FLOW_DIRECTION"), (0, .fieldref 15 24), (0, .nameAndType 25 19), (0, u "FLOW_DIRECTION_PAYMENT"), (0, .fieldref 9 27), (0, .nameAndType 28 13), (0, u "CAPACITY"), (0, .fieldref 15 30), (0, .nameAndType 31 19), (0, u "CAPACITY_PAYMENT"), (0, .fieldref 9 33), (0, .nameAndType 34 13), (0, u "MOS"), (0, .fieldref 15 36), (0, .nameAndType 37 19), (0, u "MOS_PAYMENT"), (0, .methodref 9 39), (0, .nameAndType 40 41), (0, u "payment"), (0, u "()Lcom/example/hubclear/hubclear/settlement/SettlementItem;"), (0, .methodref 15 43), (0, .nameAndType 44 45), (0, u "isCharge"), (0, u "()Z"), (0, .class_ 47), (0, u "com/example/hubclear/hubclear/settlement/ComponentPaymentPinLaw"), (2, u "law"), (0, u "(I)Z")] 3

def k1m0 : Method := { name := "<init>", desc := "()V", sig := { parameters := [], returnType := none }, accessFlags := 1, code := none }
def k1c1 : Code := { maxStack := 2, maxLocals := 5, code := code, exceptionTable := #[], attributes := #[] }
def k1m1 : Method := { name := "law", desc := "(I)Z", sig := { parameters := [.int], returnType := some .boolean }, accessFlags := 9, code := some k1c1 }
/-- com/example/hubclear/hubclear/settlement/ComponentPaymentPinLaw -/
def k1 : Class := { plain "com/example/hubclear/hubclear/settlement/ComponentPaymentPinLaw" (some 0) with
  accessFlags := 49
  interfaces := #[]
  cf := some (fileOf pool1 46 #[] #[{ accessFlags := 1, nameIndex := 5, descriptorIndex := 6, attributes := #[] }, { accessFlags := 9, nameIndex := 50, descriptorIndex := 51, attributes := #[] }] 49 2 #[] #[])
  fields := #[]
  methods := #[k1m0, k1m1]
  instanceTypes := #[]
  staticTypes := #[]
  resolved := Array.replicate 55 none
  statics := none }

def pool2 : Array CpInfo := pool [(1, .class_ 2), (0, u "java/lang/constant/Constable"), (0, .class_ 4), (0, u "java/lang/Object")] 6

/-- java/lang/constant/Constable -/
def k2 : Class := { plain "java/lang/constant/Constable" (some 0) with
  accessFlags := 1537
  interfaces := #[]
  cf := some (fileOf pool2 1 #[] #[] 1537 3 #[] #[])
  fields := #[]
  methods := #[]
  instanceTypes := #[]
  staticTypes := #[]
  resolved := Array.replicate 11 none
  statics := none }

def pool3 : Array CpInfo := pool [(1, .class_ 2), (0, u "java/lang/Comparable"), (0, .class_ 4), (0, u "java/lang/Object")] 7

/-- java/lang/Comparable -/
def k3 : Class := { plain "java/lang/Comparable" (some 0) with
  accessFlags := 1537
  interfaces := #[]
  cf := some (fileOf pool3 1 #[] #[] 1537 3 #[] #[])
  fields := #[]
  methods := #[]
  instanceTypes := #[]
  staticTypes := #[]
  resolved := Array.replicate 12 none
  statics := none }

def pool4 : Array CpInfo := pool [(1, .class_ 2), (0, u "java/io/Serializable"), (0, .class_ 4), (0, u "java/lang/Object")] 2

/-- java/io/Serializable -/
def k4 : Class := { plain "java/io/Serializable" (some 0) with
  accessFlags := 1537
  interfaces := #[]
  cf := some (fileOf pool4 1 #[] #[] 1537 3 #[] #[])
  fields := #[]
  methods := #[]
  instanceTypes := #[]
  staticTypes := #[]
  resolved := Array.replicate 7 none
  statics := none }

def pool5 : Array CpInfo := pool [(2, .class_ 4), (1, u "java/lang/Enum"), (0, u "name"), (0, u "Ljava/lang/String;"), (0, .fieldref 2 8), (0, .nameAndType 9 10), (0, u "ordinal"), (0, u "I"), (1, .class_ 14), (1, u "java/lang/Object"), (4, u "hash"), (86, .class_ 108), (1, u "java/lang/Enum$EnumDesc"), (2, .class_ 112), (0, u "java/lang/constant/Constable"), (0, .class_ 114), (0, u "java/lang/Comparable"), (0, .class_ 116), (0, u "java/io/Serializable"), (9, u "()I")] 77

def k5c0 : Code := { maxStack := 1, maxLocals := 1, code := jdk_37_method_2_code, exceptionTable := #[], attributes := #[] }
def k5m0 : Method := { name := "ordinal", desc := "()I", sig := { parameters := [], returnType := some .int }, accessFlags := 17, code := some k5c0 }
/-- java/lang/Enum -/
def k5 : Class := { plain "java/lang/Enum" (some 0) with
  accessFlags := 1057
  interfaces := #[2, 3, 4]
  cf := some (fileOf pool5 2 #[.nestMembers #[106]] #[{ accessFlags := 17, nameIndex := 9, descriptorIndex := 126, attributes := #[] }] 1057 12 #[111, 113, 115] #[{ accessFlags := 18, nameIndex := 5, descriptorIndex := 6, attributes := #[] }, { accessFlags := 18, nameIndex := 9, descriptorIndex := 10, attributes := #[] }, { accessFlags := 2, nameIndex := 19, descriptorIndex := 10, attributes := #[] }])
  fields := #[{ name := "name", type := (.object "java/lang/String"), accessFlags := 18, slot := 0, constantValue := 0 }, { name := "ordinal", type := .int, accessFlags := 18, slot := 1, constantValue := 0 }, { name := "hash", type := .int, accessFlags := 2, slot := 2, constantValue := 0 }]
  methods := #[k5m0]
  instanceTypes := #[(.object "java/lang/String"), .int, .int]
  staticTypes := #[]
  resolved := Array.replicate 204 none
  statics := none }

def pool6 : Array CpInfo := pool [(1, .class_ 2), (0, u "com/example/hubclear/hubclear/settlement/Component"), (2, u "EX_ANTE"), (0, u "Lcom/example/hubclear/hubclear/settlement/Component;"), (2, u "FLOW_DIRECTION"), (2, u "CAPACITY"), (2, u "VARIATION"), (2, u "MOS"), (2, u "$VALUES"), (0, u "[Lcom/example/hubclear/hubclear/settlement/Component;"), (6, .class_ 31), (1, u "java/lang/Enum"), (6, .fieldref 1 39), (0, .nameAndType 40 41), (0, u "payment"), (0, u "Lcom/example/hubclear/hubclear/settlement/SettlementItem;"), (2, u "charge"), (61, u "()Lcom/example/hubclear/hubclear/settlement/SettlementItem;")] 21

def k6c0 : Code := { maxStack := 3, maxLocals := 1, code := prog_56_method_4_code, exceptionTable := #[], attributes := #[] }
def k6m0 : Method := { name := "payment", desc := "()Lcom/example/hubclear/hubclear/settlement/SettlementItem;", sig := { parameters := [], returnType := some (.object "com/example/hubclear/hubclear/settlement/SettlementItem") }, accessFlags := 0, code := some k6c0 }
/-- com/example/hubclear/hubclear/settlement/Component -/
def k6 : Class := { plain "com/example/hubclear/hubclear/settlement/Component" (some 5) with
  accessFlags := 16432
  interfaces := #[]
  cf := some (fileOf pool6 1 #[] #[{ accessFlags := 0, nameIndex := 40, descriptorIndex := 106, attributes := #[] }] 16432 29 #[] #[{ accessFlags := 16409, nameIndex := 5, descriptorIndex := 6, attributes := #[] }, { accessFlags := 16409, nameIndex := 9, descriptorIndex := 6, attributes := #[] }, { accessFlags := 16409, nameIndex := 12, descriptorIndex := 6, attributes := #[] }, { accessFlags := 16409, nameIndex := 15, descriptorIndex := 6, attributes := #[] }, { accessFlags := 16409, nameIndex := 18, descriptorIndex := 6, attributes := #[] }, { accessFlags := 18, nameIndex := 40, descriptorIndex := 41, attributes := #[] }, { accessFlags := 18, nameIndex := 44, descriptorIndex := 41, attributes := #[] }, { accessFlags := 4122, nameIndex := 21, descriptorIndex := 22, attributes := #[] }])
  fields := #[{ name := "EX_ANTE", type := (.object "com/example/hubclear/hubclear/settlement/Component"), accessFlags := 16409, slot := 0, constantValue := 0 }, { name := "FLOW_DIRECTION", type := (.object "com/example/hubclear/hubclear/settlement/Component"), accessFlags := 16409, slot := 1, constantValue := 0 }, { name := "CAPACITY", type := (.object "com/example/hubclear/hubclear/settlement/Component"), accessFlags := 16409, slot := 2, constantValue := 0 }, { name := "VARIATION", type := (.object "com/example/hubclear/hubclear/settlement/Component"), accessFlags := 16409, slot := 3, constantValue := 0 }, { name := "MOS", type := (.object "com/example/hubclear/hubclear/settlement/Component"), accessFlags := 16409, slot := 4, constantValue := 0 }, { name := "payment", type := (.object "com/example/hubclear/hubclear/settlement/SettlementItem"), accessFlags := 18, slot := 3, constantValue := 0 }, { name := "charge", type := (.object "com/example/hubclear/hubclear/settlement/SettlementItem"), accessFlags := 18, slot := 4, constantValue := 0 }, { name := "$VALUES", type := (.array (.object "com/example/hubclear/hubclear/settlement/Component")), accessFlags := 4122, slot := 5, constantValue := 0 }]
  methods := #[k6m0]
  instanceTypes := #[(.object "java/lang/String"), .int, .int, (.object "com/example/hubclear/hubclear/settlement/SettlementItem"), (.object "com/example/hubclear/hubclear/settlement/SettlementItem")]
  staticTypes := #[(.object "com/example/hubclear/hubclear/settlement/Component"), (.object "com/example/hubclear/hubclear/settlement/Component"), (.object "com/example/hubclear/hubclear/settlement/Component"), (.object "com/example/hubclear/hubclear/settlement/Component"), (.object "com/example/hubclear/hubclear/settlement/Component"), (.array (.object "com/example/hubclear/hubclear/settlement/Component"))]
  resolved := Array.replicate 128 none
  statics := some 0 }

def pool7 : Array CpInfo := pool [(1, .class_ 2), (0, u "com/example/hubclear/hubclear/settlement/SettlementItem"), (2, u "EX_ANTE_PAYMENT"), (0, u "Lcom/example/hubclear/hubclear/settlement/SettlementItem;"), (2, u "EX_ANTE_CHARGE"), (2, u "FLOW_DIRECTION_PAYMENT"), (2, u "FLOW_DIRECTION_CHARGE"), (2, u "CAPACITY_PAYMENT"), (2, u "CAPACITY_CHARGE"), (2, u "VARIATION_CHARGE"), (2, u "MOS_PAYMENT"), (2, u "MOS_CHARGE"), (2, u "DEVIATION_PAYMENT"), (2, u "DEVIATION_CHARGE"), (2, u "$VALUES"), (0, u "[Lcom/example/hubclear/hubclear/settlement/SettlementItem;"), (6, .class_ 49), (1, u "java/lang/Enum"), (6, .methodref 1 57), (0, .nameAndType 58 59), (0, u "ordinal"), (0, u "()I"), (28, u "isCharge"), (0, u "()Z")] 5

def k7c0 : Code := { maxStack := 4, maxLocals := 1, code := prog_72_method_4_code, exceptionTable := #[], attributes := #[] }
def k7m0 : Method := { name := "isCharge", desc := "()Z", sig := { parameters := [], returnType := some .boolean }, accessFlags := 1, code := some k7c0 }
/-- com/example/hubclear/hubclear/settlement/SettlementItem -/
def k7 : Class := { plain "com/example/hubclear/hubclear/settlement/SettlementItem" (some 5) with
  accessFlags := 16433
  interfaces := #[]
  cf := some (fileOf pool7 1 #[] #[{ accessFlags := 1, nameIndex := 88, descriptorIndex := 89, attributes := #[] }] 16433 47 #[] #[{ accessFlags := 16409, nameIndex := 5, descriptorIndex := 6, attributes := #[] }, { accessFlags := 16409, nameIndex := 9, descriptorIndex := 6, attributes := #[] }, { accessFlags := 16409, nameIndex := 12, descriptorIndex := 6, attributes := #[] }, { accessFlags := 16409, nameIndex := 15, descriptorIndex := 6, attributes := #[] }, { accessFlags := 16409, nameIndex := 18, descriptorIndex := 6, attributes := #[] }, { accessFlags := 16409, nameIndex := 21, descriptorIndex := 6, attributes := #[] }, { accessFlags := 16409, nameIndex := 24, descriptorIndex := 6, attributes := #[] }, { accessFlags := 16409, nameIndex := 27, descriptorIndex := 6, attributes := #[] }, { accessFlags := 16409, nameIndex := 30, descriptorIndex := 6, attributes := #[] }, { accessFlags := 16409, nameIndex := 33, descriptorIndex := 6, attributes := #[] }, { accessFlags := 16409, nameIndex := 36, descriptorIndex := 6, attributes := #[] }, { accessFlags := 4122, nameIndex := 39, descriptorIndex := 40, attributes := #[] }])
  fields := #[{ name := "EX_ANTE_PAYMENT", type := (.object "com/example/hubclear/hubclear/settlement/SettlementItem"), accessFlags := 16409, slot := 0, constantValue := 0 }, { name := "EX_ANTE_CHARGE", type := (.object "com/example/hubclear/hubclear/settlement/SettlementItem"), accessFlags := 16409, slot := 1, constantValue := 0 }, { name := "FLOW_DIRECTION_PAYMENT", type := (.object "com/example/hubclear/hubclear/settlement/SettlementItem"), accessFlags := 16409, slot := 2, constantValue := 0 }, { name := "FLOW_DIRECTION_CHARGE", type := (.object "com/example/hubclear/hubclear/settlement/SettlementItem"), accessFlags := 16409, slot := 3, constantValue := 0 }, { name := "CAPACITY_PAYMENT", type := (.object "com/example/hubclear/hubclear/settlement/SettlementItem"), accessFlags := 16409, slot := 4, constantValue := 0 }, { name := "CAPACITY_CHARGE", type := (.object "com/example/hubclear/hubclear/settlement/SettlementItem"), accessFlags := 16409, slot := 5, constantValue := 0 }, { name := "VARIATION_CHARGE", type := (.object "com/example/hubclear/hubclear/settlement/SettlementItem"), accessFlags := 16409, slot := 6, constantValue := 0 }, { name := "MOS_PAYMENT", type := (.object "com/example/hubclear/hubclear/settlement/SettlementItem"), accessFlags := 16409, slot := 7, constantValue := 0 }, { name := "MOS_CHARGE", type := (.object "com/example/hubclear/hubclear/settlement/SettlementItem"), accessFlags := 16409, slot := 8, constantValue := 0 }, { name := "DEVIATION_PAYMENT", type := (.object "com/example/hubclear/hubclear/settlement/SettlementItem"), accessFlags := 16409, slot := 9, constantValue := 0 }, { name := "DEVIATION_CHARGE", type := (.object "com/example/hubclear/hubclear/settlement/SettlementItem"), accessFlags := 16409, slot := 10, constantValue := 0 }, { name := "$VALUES", type := (.array (.object "com/example/hubclear/hubclear/settlement/SettlementItem")), accessFlags := 4122, slot := 11, constantValue := 0 }]
  methods := #[k7m0]
  instanceTypes := #[(.object "java/lang/String"), .int, .int]
  staticTypes := #[(.object "com/example/hubclear/hubclear/settlement/SettlementItem"), (.object "com/example/hubclear/hubclear/settlement/SettlementItem"), (.object "com/example/hubclear/hubclear/settlement/SettlementItem"), (.object "com/example/hubclear/hubclear/settlement/SettlementItem"), (.object "com/example/hubclear/hubclear/settlement/SettlementItem"), (.object "com/example/hubclear/hubclear/settlement/SettlementItem"), (.object "com/example/hubclear/hubclear/settlement/SettlementItem"), (.object "com/example/hubclear/hubclear/settlement/SettlementItem"), (.object "com/example/hubclear/hubclear/settlement/SettlementItem"), (.object "com/example/hubclear/hubclear/settlement/SettlementItem"), (.object "com/example/hubclear/hubclear/settlement/SettlementItem"), (.array (.object "com/example/hubclear/hubclear/settlement/SettlementItem"))]
  resolved := Array.replicate 95 none
  statics := some 1 }

def pool8 : Array CpInfo := pool [(1, u "java/lang/Cloneable"), (0, .class_ 1), (0, u "java/lang/Object"), (0, .class_ 3)] 3

/-- java/lang/Cloneable -/
def k8 : Class := { plain "java/lang/Cloneable" (some 0) with
  accessFlags := 1537
  interfaces := #[]
  cf := some (fileOf pool8 2 #[] #[] 1537 4 #[] #[])
  fields := #[]
  methods := #[]
  instanceTypes := #[]
  staticTypes := #[]
  resolved := Array.replicate 8 none
  statics := none }

/-- the primitive byte -/
def k9 : Class := { plain "byte" none with kind := .primitive 'B', accessFlags := 0x411 }
/-- [B -/
def k10 : Class := { plain "[B" (some 0) with kind := .array 9 .byte, interfaces := #[8, 4], accessFlags := 1041 }

/-- the primitive int -/
def k11 : Class := { plain "int" none with kind := .primitive 'I', accessFlags := 0x411 }
/-- [I -/
def k12 : Class := { plain "[I" (some 0) with kind := .array 11 .int, interfaces := #[8, 4], accessFlags := 1041 }

def heap : Heap := #[{ cls := 6, slots := #[.ref 2, .ref 8, .ref 6, .null, .ref 4, .null], vm := .statics 6 },
  { cls := 7, slots := #[.ref 3, .null, .ref 9, .null, .ref 7, .null, .null, .ref 5, .null, .null, .null, .null], vm := .statics 7 },
  { cls := 6, slots := #[.null, .int 0, .int 0, .ref 3, .null], vm := .none },
  { cls := 7, slots := #[.null, .int 0, .int 0], vm := .none },
  { cls := 6, slots := #[.null, .int 0, .int 0, .ref 5, .null], vm := .none },
  { cls := 7, slots := #[.null, .int 7, .int 0], vm := .none },
  { cls := 6, slots := #[.null, .int 0, .int 0, .ref 7, .null], vm := .none },
  { cls := 7, slots := #[.null, .int 4, .int 0], vm := .none },
  { cls := 6, slots := #[.null, .int 0, .int 0, .ref 9, .null], vm := .none },
  { cls := 7, slots := #[.null, .int 2, .int 0], vm := .none }]
def classes : Array Class := #[k0, k1, k2, k3, k4, k5, k6, k7, k8, k9, k10, k11, k12]
def interned : List (Array UInt16 × Addr) := []
def slotsUsed : Nat := 50
def theMethod : MethodId := ⟨1, 1⟩
def args0 : Array Value := #[.int 5]
def aboutOver (below : List Frame) : State where
  vm := { classes := classes, interned := interned.toArray }
  heap := heap
  slotsUsed := slotsUsed
  threads := #[{ frames := .invoking theMethod args0 :: below }]
def below0 : List Frame := [.native { method := ⟨0, 0⟩, args := #[] }]
def about1 : State := aboutOver below0
def p0 : Program := .bare "" "" ""
def e0 : Env := launch0.env 0 0 0
theorem w_frames : about1.frames = Frame.invoking theMethod args0 :: below0 := rfl
set_option maxRecDepth 65536 in
theorem w_args : argsFit about1.vm theMethod args0 = true := by decide +kernel
set_option maxRecDepth 65536 in
theorem w_heap : heapFits about1 = true := by decide +kernel
set_option maxRecDepth 65536 in
theorem w_runnable : about1.curStatus? = some .runnable := by decide +kernel
set_option maxRecDepth 65536 in
theorem w_alone : about1.alone = true := by decide +kernel
set_option maxRecDepth 65536 in
theorem w_named : about1.methodNamed? x = some theMethod := by decide +kernel
set_option maxRecDepth 65536 in
theorem w_hears : about1.hears theMethod below0 = true := by decide +kernel
set_option maxRecDepth 65536 in
theorem w_ripe : about1.ripe theMethod args0 below0 = true := by decide +kernel
theorem w_running : about1.status = .running := rfl
set_option maxRecDepth 65536 in
theorem w_room : about1.hasRoom e0.platform room_1 = true :=
  launch0.hasRoom_least _ room_1 (by decide +kernel) (by decide +kernel) (by decide +kernel) (by decide +kernel) (by decide +kernel) (by decide +kernel)
theorem allAtoms_all (ts : List Jvm.Cond) (a : Array Jvm.Value) (st : Jvm.State) : (allAtoms ts).before a st = ts.all (fun c => c.before a st) := by
  induction ts with
  | nil => rfl
  | cons c t ih =>
    show (Jvm.Cond.and c (allAtoms t)).before a st = _
    rw [Jvm.Cond.before_and, ih, List.all_cons]
def words1 : List Jvm.Cond := Jvm.Cond.code x code maxLocals ret :: tables_1
/-- a 'code' word, met by the world's own term for the bytes: nothing is compared byte by byte -/
theorem code_word {y : MethodName} {bytes : ByteArray} {mx : Nat} {rt : Option FieldType} {a : Array Value} {s : State} {m : MethodId} {meth : Method} {c : Code} (h1 : s.methodNamed? y = some m) (h2 : s.vm.method? m = some meth) (h3 : meth.code = some c) (h4 : c.code = bytes)
    (h5 : (c.maxLocals == mx && c.exceptionTable.isEmpty && decide (c.maxStack ≤ mostOperands) && decide (meth.sig.returnType = rt) && !meth.locks && decide (parseMethodDescriptor y.desc = some meth.sig)) = true) : (Jvm.Cond.code y bytes mx rt).before a s = true := by
  simp only [Bool.and_eq_true, beq_iff_eq, Bool.not_eq_true', decide_eq_true_eq] at h5
  obtain ⟨⟨⟨⟨⟨g1, g2⟩, g3⟩, g4⟩, g5⟩, g6⟩ := h5
  simp [Cond.before, Cond.holds, Cond.value, h1, h2, h3, h4, g1, g2, g3, g4, g5, g6]
def isCode : Jvm.Cond → Bool
  | .code _ _ _ _ => true
  | _ => false
theorem all_split {L : List Jvm.Cond} {P : Jvm.Cond → Bool} (h1 : L.all (fun c => isCode c || P c) = true) (h2 : ∀ c ∈ L.filter isCode, P c = true) : L.all P = true := by
  refine List.all_eq_true.mpr fun c hc => ?_
  have h := List.all_eq_true.mp h1 c hc
  rcases Bool.eq_false_or_eq_true (isCode c) with hi | hi
  · exact h2 c (List.mem_filter.mpr ⟨hc, hi⟩)
  · simpa [hi] using h
set_option maxRecDepth 65536 in
theorem w_c0 : (Jvm.Cond.code x code maxLocals ret).before args0 about1 = true := code_word (m := ⟨1, 1⟩) (meth := k1m1) (c := k1c1) (by decide +kernel) rfl rfl rfl (by decide +kernel)
set_option maxRecDepth 65536 in
theorem w_c1 : (Jvm.Cond.code ({ cls := "com/example/hubclear/hubclear/settlement/Component", name := "payment", desc := "()Lcom/example/hubclear/hubclear/settlement/SettlementItem;" } : Jvm.MethodName) prog_56_method_4_code (1 : Nat) (Option.some (Jvm.ClassFile.FieldType.object "com/example/hubclear/hubclear/settlement/SettlementItem"))).before args0 about1 = true := code_word (m := ⟨6, 0⟩) (meth := k6m0) (c := k6c0) (by decide +kernel) rfl rfl rfl (by decide +kernel)
set_option maxRecDepth 65536 in
theorem w_c2 : (Jvm.Cond.code ({ cls := "com/example/hubclear/hubclear/settlement/SettlementItem", name := "isCharge", desc := "()Z" } : Jvm.MethodName) prog_72_method_4_code (1 : Nat) (Option.some Jvm.ClassFile.FieldType.boolean)).before args0 about1 = true := code_word (m := ⟨7, 0⟩) (meth := k7m0) (c := k7c0) (by decide +kernel) rfl rfl rfl (by decide +kernel)
set_option maxRecDepth 65536 in
theorem w_c3 : (Jvm.Cond.code ({ cls := "java/lang/Enum", name := "ordinal", desc := "()I" } : Jvm.MethodName) jdk_37_method_2_code (1 : Nat) (Option.some Jvm.ClassFile.FieldType.int)).before args0 about1 = true := code_word (m := ⟨5, 0⟩) (meth := k5m0) (c := k5c0) (by decide +kernel) rfl rfl rfl (by decide +kernel)
def codes1 : List Jvm.Cond := [Jvm.Cond.code x code maxLocals ret, Jvm.Cond.code ({ cls := "com/example/hubclear/hubclear/settlement/Component", name := "payment", desc := "()Lcom/example/hubclear/hubclear/settlement/SettlementItem;" } : Jvm.MethodName) prog_56_method_4_code (1 : Nat) (Option.some (Jvm.ClassFile.FieldType.object "com/example/hubclear/hubclear/settlement/SettlementItem")), Jvm.Cond.code ({ cls := "com/example/hubclear/hubclear/settlement/SettlementItem", name := "isCharge", desc := "()Z" } : Jvm.MethodName) prog_72_method_4_code (1 : Nat) (Option.some Jvm.ClassFile.FieldType.boolean), Jvm.Cond.code ({ cls := "java/lang/Enum", name := "ordinal", desc := "()I" } : Jvm.MethodName) jdk_37_method_2_code (1 : Nat) (Option.some Jvm.ClassFile.FieldType.int)]
set_option maxRecDepth 65536 in
theorem codes_eq : words1.filter isCode = codes1 := rfl
theorem w_codes : ∀ c ∈ words1.filter isCode, c.before args0 about1 = true := by
  rw [codes_eq]
  intro c hc
  simp only [codes1, List.mem_cons, List.not_mem_nil, or_false] at hc
  rcases hc with rfl | rfl | rfl | rfl
  · exact w_c0
  · exact w_c1
  · exact w_c2
  · exact w_c3
set_option maxRecDepth 65536 in
theorem w_t1 : (words1.take 24).all (fun c => isCode c || c.before args0 about1) = true := by decide +kernel
set_option maxRecDepth 65536 in
theorem w_t2 : (words1.drop 24).all (fun c => isCode c || c.before args0 about1) = true := by decide +kernel
theorem w_tables : (allAtoms (Jvm.Cond.code x code maxLocals ret :: tables_1)).before args0 about1 = true := by
  rw [allAtoms_all]
  show words1.all (fun c => c.before args0 about1) = true
  refine all_split ?_ w_codes
  rw [← List.take_append_drop 24 words1, List.all_append, w_t1, w_t2]
  rfl
set_option maxRecDepth 65536 in
theorem w_case : (Jvm.Cond.and given_1 narrow_1).before args0 about1 = true := by decide +kernel
theorem w_applies : (headSpec (Jvm.Cond.code x code maxLocals ret :: tables_1) room_1).applies x e0.platform about1 = true :=
  (Spec.applies_iff w_frames).mpr ⟨w_running, w_runnable, w_alone, w_named, w_hears, w_ripe, w_room, w_tables⟩
theorem atStart : AtStart classFile x code maxLocals ret World_1 tables_1 room_1 Calls_1 rest_1 Pre_1 launch0 p0 e0 about1 theMethod args0 below0 :=
  ⟨lists_1, trivial, launch0.admits_env _ _ _, launch0.least_env, fairChoices_fair.cas, fairChoices_fair.clock, w_frames, w_args, w_heap, w_applies, trivial, trivial, w_case⟩
end start1
theorem witness_1 : WitnessClaimed_1 := ⟨start1.p0, start1.e0, start1.about1, start1.theMethod, start1.args0, start1.below0, start1.atStart⟩
end Jvm.Pilot.@@N@@
