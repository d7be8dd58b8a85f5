import JvmDerived
import JvmDerived.Pilot.@@N@@Statement
import JvmDerived.Pilot.@@N@@Code
set_option linter.unusedVariables false
set_option linter.unusedSimpArgs false
namespace Jvm.RoadKit
open Sem ClassFile Op Lib Jvm.Stand Jvm.Free Jvm.LawKit
section New
variable {p : Program} {l : Launch} {e : Env} {R : Room} {s : State} {m : MethodId} {args : Array Value} {below : List Frame} {meth : Method} {c : Code} {T : State} {locs : List Loc} {cells slots : Nat}
theorem retI (X : Stand p l e R s m args below meth c T locs cells slots) (hx : p.tables.exec = Jvm.exec) {pc : Nat} {Ls : Array Slot} {z : Int32} {rest : List Value} (hret : meth.sig.returnType = some .int) (hd : decode c.code pc = .ok (.ireturn, 1)) {fs : List Frame}
    (hl : ∀ (f : JFrame) (acts : List Action), f.method = m → f.locked = none → f.entered = [] → (doReturn e (T.setTop f) acts (some (.int z))).1 = T.setFrames fs) : Steps p.tables e below (T.setTop (mkF m pc Ls (.int z :: rest))) (T.setFrames fs) :=
  retOut X hx hret rfl (Or.inl ⟨rfl, Or.inl rfl, z, rfl⟩) hd hl
end New
section Carry
variable {Z : State} {h h' : Heap} {C n d : String} {v : Value}
theorem own_ns0 : ∀ x ∈ ([] : List Addr), ∀ c : Cell, h[x]? = some c → c.vm.isStatics = false := fun _ q => nomatch q
theorem own_nsS {a : Addr} {K : String} {L : List Addr} (F : Exa Z h a K) (r : ∀ x ∈ L, ∀ c : Cell, h[x]? = some c → c.vm.isStatics = false) : ∀ x ∈ a :: L, ∀ c : Cell, h[x]? = some c → c.vm.isStatics = false := fun x z c hc => by
  rcases List.mem_cons.mp z with rfl | z
  · obtain ⟨c1, _, h1, -, -, h4, -⟩ := F
    cases h1.symm.trans hc; exact h4
  · exact r x z c hc
theorem own_sta_keep {ws : List Addr} (F : Sta Z h C n d v) (K : Keep h h' ws) (q : ∀ x ∈ ws, ∀ c : Cell, h[x]? = some c → c.vm.isStatics = false) : Sta Z h' C n d v := by
  obtain ⟨cf, i, k, f, st, cell, h1, h2, h3, h4, h5, h6, h7⟩ := F
  exact ⟨cf, i, k, f, st, cell, h1, h2, h3, h4, K.2.1 st cell h5 (fun z => by rw [q st z cell h5] at h6; cases h6), h6, h7⟩
theorem own_fitc {a : Addr} {cl : Cell} {ty : FieldType} {vs : List Value} {d : Value} (A : Arr Z h a cl ty) (H : Has cl vs d) (G : ∀ i, i < cl.slots.size → fits ty (vs.getD i d) = true) : FitC Z cl :=
  fitC_of A fun i hi v hv => by rw [H i hi] at hv; cases hv; exact G i hi
theorem own_evI {args : Array Value} {s : State} {t : Term} {k : Int32} (hh : (Cond.eq t (.int k)).value args s none s [] = some true) : t.eval args s none [] s = some (.int k) := by
  cases hf : t.eval args s none [] s with
  | none => simp [Cond.value, hf] at hh
  | some w => cases w <;> simp [Cond.value, hf, Term.eval] at hh ⊢; exact hh
theorem own_evJ {args : Array Value} {s : State} {t : Term} {k : Int64} (hh : (Cond.eq t (.long k)).value args s none s [] = some true) : t.eval args s none [] s = some (.long k) := by
  cases hf : t.eval args s none [] s with
  | none => simp [Cond.value, hf] at hh
  | some w => cases w <;> simp [Cond.value, hf, Term.eval] at hh ⊢; exact hh
theorem own_evR {args : Array Value} {s : State} {t u : Term} {y : Addr} (hu : u.eval args s none [] s = some (.ref y)) (hh : (Cond.eq t u).value args s none s [] = some true) : t.eval args s none [] s = some (.ref y) := by
  cases hf : t.eval args s none [] s with
  | none => simp [Cond.value, hf] at hh
  | some w => cases w <;> simp [Cond.value, hf, hu] at hh ⊢; exact hh
theorem own_elem {args : Array Value} {s : State} {t u : Term} {x y : Addr} {k : Int32} {cl : Cell} (ht : t.eval args s none [] s = some (.ref x)) (hu : u.eval args s none [] s = some (.ref y)) (hc : s.heap[x]? = some cl) (hh : (Cond.eq (.elem t (.int k)) u).value args s none s [] = some true) : cl.slots[k.toNatClampNeg]? = some (.ref y) :=
  (elem_in (own_evR hu hh) ht rfl hc).2
theorem own_arv {args : Array Value} {s : State} {t : Term} {a : Addr} {c : Cell} {ty : FieldType} {z : Int32} {vs : List Value} {dv : Value} (hf : Fit s) (ev : t.eval args s none [] s = some (.ref a)) (A : Arr s s.heap a c ty) (hl : (Cond.eq (.length t) (.int z)).value args s none s [] = some true) (hz : ¬ z < 0) (hn : z.toNatClampNeg = vs.length) (H : HasL c 0 vs) : Arv s s.heap a c.cls ty z vs dv := by
  have e1 := own_evI hl
  have e2 : s.arrayAt? a = some c := A.fin (Vm.Alike.refl _)
  have q : c.slots.size < 2 ^ 31 := by
    apply Decidable.byContradiction
    intro hq
    simp [Term.eval, ev, e2, hq] at e1
  have e3 := len_f ev e2 q
  exact Arv.start hf A q (Value.int.inj (Option.some.inj (e3.symm.trans e1))) hz hn H
theorem own_lam {s : State} {a0 : Array Value} {y : MethodName} {m : MethodId} {pc index : Nat} {σ : Lambda.Shape} (hZ : Z.Warmed39 s.vm) (w : (Cond.lambdaSite y pc index σ).before a0 Z = true) (hcap : σ.captured = []) (hn : s.methodNamed? y = some m) :
    ∃ (k : Class) (i0 p0 : Nat) (a : Addr), s.vm.classes[m.cls]? = some k ∧ (k.callSites.find? fun z => z.1 == m.idx && z.2.1 == pc) = some (i0, p0, .constant a) := by
  obtain ⟨c, one, hat⟩ := Cond.lambdaSite_spec w
  obtain ⟨m', kS, cfS, i0, p0, lk, hm', hkS, -, -, -, hfind, -, -, hlk⟩ := State.lambdaAt?_spec hat
  have e1 : s.methodNamed? y = Z.methodNamed? y := State.methodNamed?_setVm (s := Z) hZ.alike y
  rw [e1, hm'] at hn
  cases hn
  obtain ⟨k', hk', he⟩ := hZ.alike.2.2 _ _ hkS
  rcases hlk with ⟨a, cell, rfl, -⟩ | ⟨-, -, h⟩
  · exact ⟨k', i0, p0, a, hk', by rw [he]; exact hfind⟩
  · exact absurd hcap h
theorem own_cmp_self (x : Int64) : lcmpW x x = 0 := (lcW x x).trans ((lc_eq x x).mpr rfl)
theorem own_cmp_lt (x : Int64) : ¬ (lcmpW x x < (0 : Int32)) := by rw [own_cmp_self]; decide
theorem own_cmp_gt (x : Int64) : ¬ ((0 : Int32) < lcmpW x x) := by rw [own_cmp_self]; decide
theorem own_sel_priv {s : State} {args args' : Array Value} {K : String} {y z z' : MethodName} (w : (Cond.selects K z' z).before args s = true) (hz : z.cls = y.cls) (hpriv : s.PrivateAt y) (hinst : (Cond.instanceMethod y).before args' s = true) (hy : y.cls ≠ "java/lang/invoke/MethodHandle" ∧ y.cls ≠ "java/lang/invoke/VarHandle") : (Cond.selects y.cls y y).before args' s = true := by
  obtain ⟨c2, r2, m2, q1, q2, q3, q4, kP, hkP, hkPi⟩ := Cond.selects_spec w
  have hc : s.vm.findClass z.cls = some m2.cls := findClass_of_methodNamed q3
  rw [hz] at hc
  exact selects_self_of_private hc hkP hkPi hpriv hinst hy
theorem own_lt_ne {a b : Int32} (q : a < b) : ¬ (a = b) := by intro z; subst z; exact Int32.lt_irrefl q
theorem own_gt_ne {a b : Int32} (q : b < a) : ¬ (a = b) := by intro z; subst z; exact Int32.lt_irrefl q
theorem own_eq_nlt {a b : Int32} (q : a = b) : ¬ (a < b) := by subst q; exact Int32.lt_irrefl
theorem own_nlt {a b : Int32} (q : b < a) : ¬ (a < b) := fun z => Int32.lt_irrefl (Int32.lt_trans z q)
theorem own_tri2 {a b : Int32} (q : ¬ (a = b)) (r : ¬ (b < a)) : a < b := by
  rw [← Int32.toInt_inj] at q; rw [Int32.lt_iff_toInt_lt] at r ⊢; omega
theorem own_fldI {args : Array Value} {s : State} {t : Term} {x : Addr} {C n d : String} {k : Int32} (ht : t.eval args s none [] s = some (.ref x)) (hh : (Cond.eq (.field t C n d) (.int k)).value args s none s [] = some true) : Fld s s.heap x C n d (.int k) :=
  Fld.start ((fld_at ht).symm.trans (own_evI hh))
theorem own_fldJ {args : Array Value} {s : State} {t : Term} {x : Addr} {C n d : String} {k : Int64} (ht : t.eval args s none [] s = some (.ref x)) (hh : (Cond.eq (.field t C n d) (.long k)).value args s none s [] = some true) : Fld s s.heap x C n d (.long k) :=
  Fld.start ((fld_at ht).symm.trans (own_evJ hh))
theorem own_fldN {args : Array Value} {s : State} {t : Term} {x : Addr} {C n d : String} (ht : t.eval args s none [] s = some (.ref x)) (hh : (Cond.eq (.field t C n d) .null).value args s none s [] = some true) : Fld s s.heap x C n d .null := by
  refine Fld.start ?_
  have e1 : (Term.field t C n d).eval args s none [] s = s.fieldOf? x C n d := fld_at ht
  rw [← e1]; exact null_v hh
theorem own_fldR {args : Array Value} {s : State} {t u : Term} {x y : Addr} {C n d : String} (ht : t.eval args s none [] s = some (.ref x)) (hu : u.eval args s none [] s = some (.ref y)) (hh : (Cond.eq (.field t C n d) u).value args s none s [] = some true) : Fld s s.heap x C n d (.ref y) :=
  Fld.start ((fld_at ht).symm.trans (own_evR hu hh))
end Carry
end Jvm.RoadKit
namespace Jvm.Pilot.@@N@@
open Jvm Jvm.ClassFile Sem Op Lib Jvm.Free Jvm.Stand Jvm.LawKit Jvm.RoadKit Bundle Jvm.Pilot.@@N@@.Jvm.D
theorem own_en3 (x : Int32) : ((x &&& (2147483647 : Int32)) % (3 : Int32)) = (0 : Int32) ∨ ((x &&& (2147483647 : Int32)) % (3 : Int32)) = (1 : Int32) ∨ ((x &&& (2147483647 : Int32)) % (3 : Int32)) = (2 : Int32) := by
  have e1 := c_mask x (2147483647 : Int32) 31 (by decide) (by decide)
  have e2 : ((x &&& (2147483647 : Int32)) % (3 : Int32)).toInt = (x &&& (2147483647 : Int32)).toInt.tmod (3 : Int32).toInt := Int32.toInt_mod _ _
  have e3 : (3 : Int32).toInt = 3 := by decide
  have h0 : 0 ≤ (x &&& (2147483647 : Int32)).toInt := by first | omega | (rw [e1]; exact Int.emod_nonneg _ (by decide))
  rw [e3, Int.tmod_eq_emod_of_nonneg h0] at e2
  simp only [← Int32.toInt_inj]
  have l0 : (0 : Int32).toInt = 0 := by decide
  have l1 : (1 : Int32).toInt = 1 := by decide
  have l2 : (2 : Int32).toInt = 2 := by decide
  rw [l0, l1, l2]
  omega
theorem own_bit (x : Int32) : (x &&& (1 : Int32)) = (0 : Int32) ∨ (x &&& (1 : Int32)) = (1 : Int32) := by
  have e1 := c_mask x (1 : Int32) 1 (by decide) (by decide)
  simp only [← Int32.toInt_inj]
  have l0 : (0 : Int32).toInt = 0 := by decide
  have l1 : (1 : Int32).toInt = 1 := by decide
  rw [l0, l1]
  omega
theorem own_w7 {Z : State} {a0 : Array Value} (hw : ∀ d ∈ tables_1, d.before a0 Z = true) : (Jvm.Cond.laysStatic "com/example/erlaubnis/erlaubnis/policy/Truth" "TRUE" "Lcom/example/erlaubnis/erlaubnis/policy/Truth;").before a0 Z = true := hw _ (List.mem_of_getElem? (i := 7) rfl)
theorem own_w6 {Z : State} {a0 : Array Value} (hw : ∀ d ∈ tables_1, d.before a0 Z = true) : (Jvm.Cond.initialized "com/example/erlaubnis/erlaubnis/policy/Truth").before a0 Z = true := hw _ (List.mem_of_getElem? (i := 6) rfl)
theorem own_w15 {Z : State} {a0 : Array Value} (hw : ∀ d ∈ tables_1, d.before a0 Z = true) : (Jvm.Cond.laysStatic "com/example/erlaubnis/erlaubnis/policy/Truth" "FALSE" "Lcom/example/erlaubnis/erlaubnis/policy/Truth;").before a0 Z = true := hw _ (List.mem_of_getElem? (i := 15) rfl)
theorem own_w20 {Z : State} {a0 : Array Value} (hw : ∀ d ∈ tables_1, d.before a0 Z = true) : (Jvm.Cond.laysStatic "com/example/erlaubnis/erlaubnis/policy/Truth" "UNKNOWN" "Lcom/example/erlaubnis/erlaubnis/policy/Truth;").before a0 Z = true := hw _ (List.mem_of_getElem? (i := 20) rfl)
theorem own_w0 {Z : State} {a0 : Array Value} (hw : ∀ d ∈ tables_1, d.before a0 Z = true) : (Jvm.Cond.methodLink "com/example/erlaubnis/erlaubnis/policy/TruthNotPinLaw" (20 : Nat) ({ cls := "com/example/erlaubnis/erlaubnis/policy/TruthNotPinLaw", name := "pick", desc := "(I)Lcom/example/erlaubnis/erlaubnis/policy/Truth;" } : Jvm.MethodName)).before a0 Z = true := hw _ (List.mem_of_getElem? (i := 0) rfl)
theorem d1_0 : decode method_2_code 0 = .ok (.iload_n 0, 1) := by decide +kernel
theorem d1_1 : decode method_2_code 1 = .ok (.ldc 7, 2) := by decide +kernel
theorem own_w4 {Z : State} {a0 : Array Value} (hw : ∀ d ∈ tables_1, d.before a0 Z = true) : (Jvm.Cond.constant "com/example/erlaubnis/erlaubnis/policy/TruthNotPinLaw" (7 : Nat) (2147483647 : Int32)).before a0 Z = true := hw _ (List.mem_of_getElem? (i := 4) rfl)
theorem d1_3 : decode method_2_code 3 = .ok (.iand, 1) := by decide +kernel
theorem d1_4 : decode method_2_code 4 = .ok (.iconst 3, 1) := by decide +kernel
theorem d1_5 : decode method_2_code 5 = .ok (.irem, 1) := by decide +kernel
theorem d1_6 : decode method_2_code 6 = .ok (.istore_n 1, 1) := by decide +kernel
theorem d1_7 : decode method_2_code 7 = .ok (.iload_n 1, 1) := by decide +kernel
theorem d1_8 : decode method_2_code 8 = .ok (.ifCond .ne 7, 3) := by decide +kernel
theorem d1_11 : decode method_2_code 11 = .ok (.getstatic 8, 3) := by decide +kernel
theorem own_w5 {Z : State} {a0 : Array Value} (hw : ∀ d ∈ tables_1, d.before a0 Z = true) : (Jvm.Cond.fieldLink "com/example/erlaubnis/erlaubnis/policy/TruthNotPinLaw" (8 : Nat) "com/example/erlaubnis/erlaubnis/policy/Truth" "TRUE" "Lcom/example/erlaubnis/erlaubnis/policy/Truth;").before a0 Z = true := hw _ (List.mem_of_getElem? (i := 5) rfl)
theorem d1_14 : decode method_2_code 14 = .ok (.areturn, 1) := by decide +kernel
theorem pn_com_example_erlaubnis_erlaubnis_policy_TruthNotPinLaw : plainName "com/example/erlaubnis/erlaubnis/policy/TruthNotPinLaw" = true := by first | (simp [plainName, overriddenIn]; done) | decide +kernel
theorem own_w3 {Z : State} {a0 : Array Value} (hw : ∀ d ∈ tables_1, d.before a0 Z = true) : (Jvm.Cond.code ({ cls := "com/example/erlaubnis/erlaubnis/policy/TruthNotPinLaw", name := "pick", desc := "(I)Lcom/example/erlaubnis/erlaubnis/policy/Truth;" } : Jvm.MethodName) method_2_code (2 : Nat) (Option.some (Jvm.ClassFile.FieldType.object "com/example/erlaubnis/erlaubnis/policy/Truth"))).before a0 Z = true := hw _ (List.mem_of_getElem? (i := 3) rfl)
theorem own_w2 {Z : State} {a0 : Array Value} (hw : ∀ d ∈ tables_1, d.before a0 Z = true) : (Jvm.Cond.initialized "com/example/erlaubnis/erlaubnis/policy/TruthNotPinLaw").before a0 Z = true := hw _ (List.mem_of_getElem? (i := 2) rfl)
theorem pd__I_Lcom_example_erlaubnis_erlaubnis_policy_Truth_ : parseMethodDescriptor "(I)Lcom/example/erlaubnis/erlaubnis/policy/Truth;" = some ⟨[.int], some (.object "com/example/erlaubnis/erlaubnis/policy/Truth")⟩ := by decide +kernel
theorem own_w1 {Z : State} {a0 : Array Value} (hw : ∀ d ∈ tables_1, d.before a0 Z = true) : (Jvm.Cond.static ({ cls := "com/example/erlaubnis/erlaubnis/policy/TruthNotPinLaw", name := "pick", desc := "(I)Lcom/example/erlaubnis/erlaubnis/policy/Truth;" } : Jvm.MethodName)).before a0 Z = true := hw _ (List.mem_of_getElem? (i := 1) rfl)
theorem own_w8 {Z : State} {a0 : Array Value} (hw : ∀ d ∈ tables_1, d.before a0 Z = true) : (Jvm.Cond.methodLink "com/example/erlaubnis/erlaubnis/policy/TruthNotPinLaw" (26 : Nat) ({ cls := "com/example/erlaubnis/erlaubnis/policy/Truth", name := "not", desc := "()Lcom/example/erlaubnis/erlaubnis/policy/Truth;" } : Jvm.MethodName)).before a0 Z = true := hw _ (List.mem_of_getElem? (i := 8) rfl)
theorem d2_0 : decode prog_17_method_5_code 0 = .ok (.aload_n 0, 1) := by decide +kernel
theorem d2_1 : decode prog_17_method_5_code 1 = .ok (.getstatic 3, 3) := by decide +kernel
theorem own_w13 {Z : State} {a0 : Array Value} (hw : ∀ d ∈ tables_1, d.before a0 Z = true) : (Jvm.Cond.fieldLink "com/example/erlaubnis/erlaubnis/policy/Truth" (3 : Nat) "com/example/erlaubnis/erlaubnis/policy/Truth" "TRUE" "Lcom/example/erlaubnis/erlaubnis/policy/Truth;").before a0 Z = true := hw _ (List.mem_of_getElem? (i := 13) rfl)
theorem d2_4 : decode prog_17_method_5_code 4 = .ok (.if_acmp .ne 10, 3) := by decide +kernel
theorem d2_7 : decode prog_17_method_5_code 7 = .ok (.getstatic 7, 3) := by decide +kernel
theorem own_w14 {Z : State} {a0 : Array Value} (hw : ∀ d ∈ tables_1, d.before a0 Z = true) : (Jvm.Cond.fieldLink "com/example/erlaubnis/erlaubnis/policy/Truth" (7 : Nat) "com/example/erlaubnis/erlaubnis/policy/Truth" "FALSE" "Lcom/example/erlaubnis/erlaubnis/policy/Truth;").before a0 Z = true := hw _ (List.mem_of_getElem? (i := 14) rfl)
theorem d2_10 : decode prog_17_method_5_code 10 = .ok (.astore_n 1, 1) := by decide +kernel
theorem d2_11 : decode prog_17_method_5_code 11 = .ok (.goto 21, 3) := by decide +kernel
theorem d2_32 : decode prog_17_method_5_code 32 = .ok (.aload_n 1, 1) := by decide +kernel
theorem d2_33 : decode prog_17_method_5_code 33 = .ok (.areturn, 1) := by decide +kernel
theorem pn_com_example_erlaubnis_erlaubnis_policy_Truth : plainName "com/example/erlaubnis/erlaubnis/policy/Truth" = true := by first | (simp [plainName, overriddenIn]; done) | decide +kernel
theorem own_w12 {Z : State} {a0 : Array Value} (hw : ∀ d ∈ tables_1, d.before a0 Z = true) : (Jvm.Cond.code ({ cls := "com/example/erlaubnis/erlaubnis/policy/Truth", name := "not", desc := "()Lcom/example/erlaubnis/erlaubnis/policy/Truth;" } : Jvm.MethodName) prog_17_method_5_code (2 : Nat) (Option.some (Jvm.ClassFile.FieldType.object "com/example/erlaubnis/erlaubnis/policy/Truth"))).before a0 Z = true := hw _ (List.mem_of_getElem? (i := 12) rfl)
theorem pd___Lcom_example_erlaubnis_erlaubnis_policy_Truth_ : parseMethodDescriptor "()Lcom/example/erlaubnis/erlaubnis/policy/Truth;" = some ⟨[], some (.object "com/example/erlaubnis/erlaubnis/policy/Truth")⟩ := by decide +kernel
theorem own_w11 {Z : State} {a0 : Array Value} (hw : ∀ d ∈ tables_1, d.before a0 Z = true) : (Jvm.Cond.selects "com/example/erlaubnis/erlaubnis/policy/Truth" ({ cls := "com/example/erlaubnis/erlaubnis/policy/Truth", name := "not", desc := "()Lcom/example/erlaubnis/erlaubnis/policy/Truth;" } : Jvm.MethodName) ({ cls := "com/example/erlaubnis/erlaubnis/policy/Truth", name := "not", desc := "()Lcom/example/erlaubnis/erlaubnis/policy/Truth;" } : Jvm.MethodName)).before a0 Z = true := hw _ (List.mem_of_getElem? (i := 11) rfl)
theorem own_w9 {Z : State} {a0 : Array Value} (hw : ∀ d ∈ tables_1, d.before a0 Z = true) : (Jvm.Cond.declares ({ cls := "com/example/erlaubnis/erlaubnis/policy/Truth", name := "not", desc := "()Lcom/example/erlaubnis/erlaubnis/policy/Truth;" } : Jvm.MethodName)).before a0 Z = true := hw _ (List.mem_of_getElem? (i := 9) rfl)
theorem own_w10 {Z : State} {a0 : Array Value} (hw : ∀ d ∈ tables_1, d.before a0 Z = true) : (Jvm.Cond.instanceMethod ({ cls := "com/example/erlaubnis/erlaubnis/policy/Truth", name := "not", desc := "()Lcom/example/erlaubnis/erlaubnis/policy/Truth;" } : Jvm.MethodName)).before a0 Z = true := hw _ (List.mem_of_getElem? (i := 10) rfl)
theorem d2_14 : decode prog_17_method_5_code 14 = .ok (.aload_n 0, 1) := by decide +kernel
theorem d2_15 : decode prog_17_method_5_code 15 = .ok (.getstatic 7, 3) := by decide +kernel
theorem d2_18 : decode prog_17_method_5_code 18 = .ok (.if_acmp .ne 10, 3) := by decide +kernel
theorem d2_21 : decode prog_17_method_5_code 21 = .ok (.getstatic 3, 3) := by decide +kernel
theorem d2_24 : decode prog_17_method_5_code 24 = .ok (.astore_n 1, 1) := by decide +kernel
theorem d2_25 : decode prog_17_method_5_code 25 = .ok (.goto 7, 3) := by decide +kernel
theorem own_w16 {Z : State} {a0 : Array Value} (hw : ∀ d ∈ tables_1, d.before a0 Z = true) : (Jvm.Cond.methodLink "com/example/erlaubnis/erlaubnis/policy/TruthNotPinLaw" (30 : Nat) ({ cls := "com/example/erlaubnis/erlaubnis/policy/Truth", name := "of", desc := "(Z)Lcom/example/erlaubnis/erlaubnis/policy/Truth;" } : Jvm.MethodName)).before a0 Z = true := hw _ (List.mem_of_getElem? (i := 16) rfl)
theorem d3_0 : decode prog_17_method_4_code 0 = .ok (.iload_n 0, 1) := by decide +kernel
theorem d3_1 : decode prog_17_method_4_code 1 = .ok (.ifCond .eq 9, 3) := by decide +kernel
theorem d3_10 : decode prog_17_method_4_code 10 = .ok (.getstatic 7, 3) := by decide +kernel
theorem d3_13 : decode prog_17_method_4_code 13 = .ok (.areturn, 1) := by decide +kernel
theorem own_w18 {Z : State} {a0 : Array Value} (hw : ∀ d ∈ tables_1, d.before a0 Z = true) : (Jvm.Cond.code ({ cls := "com/example/erlaubnis/erlaubnis/policy/Truth", name := "of", desc := "(Z)Lcom/example/erlaubnis/erlaubnis/policy/Truth;" } : Jvm.MethodName) prog_17_method_4_code (1 : Nat) (Option.some (Jvm.ClassFile.FieldType.object "com/example/erlaubnis/erlaubnis/policy/Truth"))).before a0 Z = true := hw _ (List.mem_of_getElem? (i := 18) rfl)
theorem pd__Z_Lcom_example_erlaubnis_erlaubnis_policy_Truth_ : parseMethodDescriptor "(Z)Lcom/example/erlaubnis/erlaubnis/policy/Truth;" = some ⟨[.boolean], some (.object "com/example/erlaubnis/erlaubnis/policy/Truth")⟩ := by decide +kernel
theorem own_w17 {Z : State} {a0 : Array Value} (hw : ∀ d ∈ tables_1, d.before a0 Z = true) : (Jvm.Cond.static ({ cls := "com/example/erlaubnis/erlaubnis/policy/Truth", name := "of", desc := "(Z)Lcom/example/erlaubnis/erlaubnis/policy/Truth;" } : Jvm.MethodName)).before a0 Z = true := hw _ (List.mem_of_getElem? (i := 17) rfl)
theorem d3_4 : decode prog_17_method_4_code 4 = .ok (.getstatic 3, 3) := by decide +kernel
theorem d3_7 : decode prog_17_method_4_code 7 = .ok (.goto 6, 3) := by decide +kernel
theorem own_w19 {Z : State} {a0 : Array Value} (hw : ∀ d ∈ tables_1, d.before a0 Z = true) : (Jvm.Cond.fieldLink "com/example/erlaubnis/erlaubnis/policy/TruthNotPinLaw" (17 : Nat) "com/example/erlaubnis/erlaubnis/policy/Truth" "UNKNOWN" "Lcom/example/erlaubnis/erlaubnis/policy/Truth;").before a0 Z = true := hw _ (List.mem_of_getElem? (i := 19) rfl)
theorem d1_15 : decode method_2_code 15 = .ok (.iload_n 1, 1) := by decide +kernel
theorem d1_16 : decode method_2_code 16 = .ok (.iconst 1, 1) := by decide +kernel
theorem d1_17 : decode method_2_code 17 = .ok (.if_icmp .ne 7, 3) := by decide +kernel
theorem d1_20 : decode method_2_code 20 = .ok (.getstatic 14, 3) := by decide +kernel
theorem own_w22 {Z : State} {a0 : Array Value} (hw : ∀ d ∈ tables_1, d.before a0 Z = true) : (Jvm.Cond.fieldLink "com/example/erlaubnis/erlaubnis/policy/TruthNotPinLaw" (14 : Nat) "com/example/erlaubnis/erlaubnis/policy/Truth" "FALSE" "Lcom/example/erlaubnis/erlaubnis/policy/Truth;").before a0 Z = true := hw _ (List.mem_of_getElem? (i := 22) rfl)
theorem d1_23 : decode method_2_code 23 = .ok (.areturn, 1) := by decide +kernel
theorem d1_24 : decode method_2_code 24 = .ok (.getstatic 17, 3) := by decide +kernel
theorem d1_27 : decode method_2_code 27 = .ok (.areturn, 1) := by decide +kernel
theorem d2_28 : decode prog_17_method_5_code 28 = .ok (.getstatic 10, 3) := by decide +kernel
theorem own_w21 {Z : State} {a0 : Array Value} (hw : ∀ d ∈ tables_1, d.before a0 Z = true) : (Jvm.Cond.fieldLink "com/example/erlaubnis/erlaubnis/policy/Truth" (10 : Nat) "com/example/erlaubnis/erlaubnis/policy/Truth" "UNKNOWN" "Lcom/example/erlaubnis/erlaubnis/policy/Truth;").before a0 Z = true := hw _ (List.mem_of_getElem? (i := 21) rfl)
theorem d2_31 : decode prog_17_method_5_code 31 = .ok (.astore_n 1, 1) := by decide +kernel
theorem ef1_1 (m : MethodId) (p1 : Int32) : entryFrame m #[(.int p1)] 2 = mkF m 0 #[.val (.int p1), .unset] [] := by first | (simp [entryFrame, mkF, argsToLocals, Value.category]; done) | rfl
def Q1_1 (Z : State) (p1 : Int32) (a2 : Addr) (h0 : Heap) (n0 : Nat) (v : Option Value) (h : Heap) (L : List Loc) : Prop := v = some (.ref a2) ∧ Fr n0 L ∧ h = h0
set_option maxRecDepth 65536 in
set_option maxHeartbeats 40000000 in
theorem rm1_1 (l : Launch) (Z : State) (a0 : Array Value) (hw : ∀ d ∈ tables_1, d.before a0 Z = true) (ws : List Jvm.Cond) (p1 : Int32) (a2 : Addr) (h0 : Heap) (n0 : Nat) (Z0 : n0 ≤ h0.size) (hk0 : ((p1 &&& (2147483647 : Int32)) % (3 : Int32)) = (0 : Int32)) (S_Truth_TRUE : Sta Z h0 "com/example/erlaubnis/erlaubnis/policy/Truth" "TRUE" "Lcom/example/erlaubnis/erlaubnis/policy/Truth;" (.ref a2)) :
    MetFree l (⟨"com/example/erlaubnis/erlaubnis/policy/TruthNotPinLaw", "pick", "(I)Lcom/example/erlaubnis/erlaubnis/policy/Truth;"⟩ : MethodName) (head1 (Jvm.Cond.code (⟨"com/example/erlaubnis/erlaubnis/policy/TruthNotPinLaw", "pick", "(I)Lcom/example/erlaubnis/erlaubnis/policy/Truth;"⟩ : MethodName) method_2_code 2 (some (.object "com/example/erlaubnis/erlaubnis/policy/Truth")) :: ws) ({ frames := 0, cells := 0, slots := 0, locals := 0 } : Room)) (fun a U => a = #[(.int p1)] ∧ Z.Warmed39 U.vm ∧ U.heap = h0) (fun _ _ _ _ _ => True) (fun _ U o U' => ∃ v L, o = .returned v ∧ Q1_1 Z p1 a2 h0 n0 v U'.heap L ∧ FrameEnd U o U' L ({ frames := 0, cells := 0, slots := 0, locals := 0 } : Room).cells ({ frames := 0, cells := 0, slots := 0, locals := 0 } : Room).slots) := by
  refine MetFree.of_bodySF (plainFor_of_name pn_com_example_erlaubnis_erlaubnis_policy_TruthNotPinLaw) hisR ?_
  intro p e s m args below meth c s₁ Bd hml0 hP hK
  obtain ⟨rfl, hZ, hh⟩ := hP
  have hx := Bd.exec
  have hby := Bd.bytes
  have hml : c.maxLocals = 2 := hml0
  have hown : s.vm.findClass "com/example/erlaubnis/erlaubnis/policy/TruthNotPinLaw" = some m.cls := findClass_of_methodNamed Bd.named
  have hnm := (name_of_methodNamed Bd.named Bd.method).1
  have X0 : Stand p l e ({ frames := 0, cells := 0, slots := 0, locals := 0 } : Room) s m #[(.int p1)] below meth c s₁ [] 0 0 := Stand.of_body Bd
  have e0 : s₁.heap = h0 := by rw [← hh, Bd.state]; rfl
  have N0 := Fr.nil n0
  have pre0 : ∀ t, Steps p.tables e below (s₁.setTop (mkF m 0 #[.val (.int p1), .unset] [])) t → Steps p.tables e below (s₁.setTop (entryFrame m #[(.int p1)] 2)) t := fun t k => castTop (ef1_1 m p1) k
  obtain ⟨T1, X1, e1, st1⟩ := getS2 X0 hx hZ hown (host := "") (Or.inl (own_w5 hw)) Via.refl e0 S_Truth_TRUE (g := (mkF m 11 #[.val (.int p1), .val (.int (0 : Int32))] [])) rfl (hb hby d1_11)
  obtain ⟨fs, hr, hrun, hended, hW, hsame⟩ := X1.leave (v := some (.ref a2)) (fun h => by rw [Bd.returns] at h; cases h)
  refine ⟨_, _, pre0 _ ?_, hrun, hended, _, _, rfl, ?_, ⟨_, rfl⟩, hW, hsame.mono (by decide) (by decide)⟩
  · show Steps p.tables e below (s₁.setTop (mkF m 0 #[.val (.int p1), .unset] [])) _
    refine XS.iloadN X0.here hx rfl (hb hby d1_0) rfl ?_
    show Steps p.tables e below (s₁.setTop (mkF m 1 #[.val (.int p1), .unset] [(.int p1)])) _
    refine X0.ldcInt hx hown (mvT hZ (own_w4 hw)) (g := (mkF m 1 #[.val (.int p1), .unset] [(.int p1)])) rfl (hb hby d1_1) _ ?_
    show Steps p.tables e below (s₁.setTop (mkF m 3 #[.val (.int p1), .unset] [(.int (2147483647 : Int32)), (.int p1)])) _
    refine XS.iand X0.here hx rfl (hb hby d1_3) rfl ?_
    show Steps p.tables e below (s₁.setTop (mkF m 4 #[.val (.int p1), .unset] [(.int (p1 &&& (2147483647 : Int32)))])) _
    refine XS.iconst X0.here hx rfl (hb hby d1_4) ?_
    show Steps p.tables e below (s₁.setTop (mkF m 5 #[.val (.int p1), .unset] [(.int (3 : Int32)), (.int (p1 &&& (2147483647 : Int32)))])) _
    refine iremM X0 hx rfl (hb hby d1_5) rfl (by decide) ?_
    show Steps p.tables e below (s₁.setTop (mkF m 6 #[.val (.int p1), .unset] [(.int ((p1 &&& (2147483647 : Int32)) % (3 : Int32)))])) _
    rw [hk0]
    show Steps p.tables e below (s₁.setTop (mkF m 6 #[.val (.int p1), .unset] [(.int (0 : Int32))])) _
    refine XS.istoreN X0.here hx rfl (hb hby d1_6) rfl (l' := #[.val (.int p1), .val (.int (0 : Int32))]) rfl ?_
    show Steps p.tables e below (s₁.setTop (mkF m 7 #[.val (.int p1), .val (.int (0 : Int32))] [])) _
    refine XS.iloadN X0.here hx rfl (hb hby d1_7) rfl ?_
    show Steps p.tables e below (s₁.setTop (mkF m 8 #[.val (.int p1), .val (.int (0 : Int32))] [(.int (0 : Int32))])) _
    refine XS.ifNo X0.here hx rfl (hb hby d1_8) rfl ((if0 _ _).trans (teq (by decide : (0 : Int32) = (0 : Int32))).2) ?_
    show Steps p.tables e below (s₁.setTop (mkF m 11 #[.val (.int p1), .val (.int (0 : Int32))] [])) _
    refine st1 _ ?_
    show Steps p.tables e below (T1.setTop (mkF m 14 #[.val (.int p1), .val (.int (0 : Int32))] [(.ref a2)])) _
    exact retOut X1 hx Bd.returns rfl (Or.inr (Or.inr (Or.inr (Or.inr ⟨rfl, rfl, rfl⟩)))) (hb hby d1_14) hr
  · show Q1_1 Z p1 a2 h0 n0 _ T1.heap _
    rw [e1]
    exact ⟨rfl, N0, rfl⟩
theorem ef2_2 (m : MethodId) (a1 : Addr) : entryFrame m #[(.ref a1)] 2 = mkF m 0 #[.val (.ref a1), .unset] [] := by first | (simp [entryFrame, mkF, argsToLocals, Value.category]; done) | rfl
def Q2_2 (Z : State) (a1 : Addr) (a2 : Addr) (h0 : Heap) (n0 : Nat) (v : Option Value) (h : Heap) (L : List Loc) : Prop := v = some (.ref a2) ∧ Fr n0 L ∧ h = h0
set_option maxRecDepth 65536 in
set_option maxHeartbeats 40000000 in
theorem rm2_2 (l : Launch) (Z : State) (a0 : Array Value) (hw : ∀ d ∈ tables_1, d.before a0 Z = true) (ws : List Jvm.Cond) (a1 : Addr) (a2 : Addr) (h0 : Heap) (n0 : Nat) (Z0 : n0 ≤ h0.size) (S_Truth_TRUE : Sta Z h0 "com/example/erlaubnis/erlaubnis/policy/Truth" "TRUE" "Lcom/example/erlaubnis/erlaubnis/policy/Truth;" (.ref a1)) (S_Truth_FALSE : Sta Z h0 "com/example/erlaubnis/erlaubnis/policy/Truth" "FALSE" "Lcom/example/erlaubnis/erlaubnis/policy/Truth;" (.ref a2)) :
    MetFree l (⟨"com/example/erlaubnis/erlaubnis/policy/Truth", "not", "()Lcom/example/erlaubnis/erlaubnis/policy/Truth;"⟩ : MethodName) (head1 (Jvm.Cond.code (⟨"com/example/erlaubnis/erlaubnis/policy/Truth", "not", "()Lcom/example/erlaubnis/erlaubnis/policy/Truth;"⟩ : MethodName) prog_17_method_5_code 2 (some (.object "com/example/erlaubnis/erlaubnis/policy/Truth")) :: ws) ({ frames := 0, cells := 0, slots := 0, locals := 0 } : Room)) (fun a U => a = #[(.ref a1)] ∧ Z.Warmed39 U.vm ∧ U.heap = h0) (fun _ _ _ _ _ => True) (fun _ U o U' => ∃ v L, o = .returned v ∧ Q2_2 Z a1 a2 h0 n0 v U'.heap L ∧ FrameEnd U o U' L ({ frames := 0, cells := 0, slots := 0, locals := 0 } : Room).cells ({ frames := 0, cells := 0, slots := 0, locals := 0 } : Room).slots) := by
  refine MetFree.of_bodySF (plainFor_of_name pn_com_example_erlaubnis_erlaubnis_policy_Truth) hisR ?_
  intro p e s m args below meth c s₁ Bd hml0 hP hK
  obtain ⟨rfl, hZ, hh⟩ := hP
  have hx := Bd.exec
  have hby := Bd.bytes
  have hml : c.maxLocals = 2 := hml0
  have hown : s.vm.findClass "com/example/erlaubnis/erlaubnis/policy/Truth" = some m.cls := findClass_of_methodNamed Bd.named
  have hnm := (name_of_methodNamed Bd.named Bd.method).1
  have X0 : Stand p l e ({ frames := 0, cells := 0, slots := 0, locals := 0 } : Room) s m #[(.ref a1)] below meth c s₁ [] 0 0 := Stand.of_body Bd
  have e0 : s₁.heap = h0 := by rw [← hh, Bd.state]; rfl
  have N0 := Fr.nil n0
  have pre0 : ∀ t, Steps p.tables e below (s₁.setTop (mkF m 0 #[.val (.ref a1), .unset] [])) t → Steps p.tables e below (s₁.setTop (entryFrame m #[(.ref a1)] 2)) t := fun t k => castTop (ef2_2 m a1) k
  obtain ⟨T1, X1, e1, st1⟩ := getS2 X0 hx hZ hown (host := "") (Or.inl (own_w13 hw)) Via.refl e0 S_Truth_TRUE (g := (mkF m 1 #[.val (.ref a1), .unset] [(.ref a1)])) rfl (hb hby d2_1)
  obtain ⟨T2, X2, e2, st2⟩ := getS2 X1 hx hZ hown (host := "") (Or.inl (own_w14 hw)) Via.refl e1 S_Truth_FALSE (g := (mkF m 7 #[.val (.ref a1), .unset] [])) rfl (hb hby d2_7)
  obtain ⟨fs, hr, hrun, hended, hW, hsame⟩ := X2.leave (v := some (.ref a2)) (fun h => by rw [Bd.returns] at h; cases h)
  refine ⟨_, _, pre0 _ ?_, hrun, hended, _, _, rfl, ?_, ⟨_, rfl⟩, hW, hsame.mono (by decide) (by decide)⟩
  · show Steps p.tables e below (s₁.setTop (mkF m 0 #[.val (.ref a1), .unset] [])) _
    refine XS.aloadN X0.here hx rfl (hb hby d2_0) rfl rfl ?_
    show Steps p.tables e below (s₁.setTop (mkF m 1 #[.val (.ref a1), .unset] [(.ref a1)])) _
    refine st1 _ ?_
    show Steps p.tables e below (T1.setTop (mkF m 4 #[.val (.ref a1), .unset] [(.ref a1), (.ref a1)])) _
    refine Jvm.RoadKit.acmp (g := (mkF m 4 #[.val (.ref a1), .unset] [(.ref a1), (.ref a1)])) X1 hx rfl rfl rfl (pc0 := 4) (pc' := 7) (same := true) rfl (hb hby d2_4) rfl (decide_eq_true rfl) (by decide) (by decide) ?_
    show Steps p.tables e below (T1.setTop (mkF m 7 #[.val (.ref a1), .unset] [])) _
    refine st2 _ ?_
    show Steps p.tables e below (T2.setTop (mkF m 10 #[.val (.ref a1), .unset] [(.ref a2)])) _
    refine XS.astoreN X2.here hx rfl (hb hby d2_10) rfl rfl (l' := #[.val (.ref a1), .val (.ref a2)]) rfl ?_
    show Steps p.tables e below (T2.setTop (mkF m 11 #[.val (.ref a1), .val (.ref a2)] [])) _
    refine XS.goto X2.here hx rfl (pc0 := 11) (pc' := 32) rfl (hb hby d2_11) (by decide) (by decide) ?_
    show Steps p.tables e below (T2.setTop (mkF m 32 #[.val (.ref a1), .val (.ref a2)] [])) _
    refine XS.aloadN X2.here hx rfl (hb hby d2_32) rfl rfl ?_
    show Steps p.tables e below (T2.setTop (mkF m 33 #[.val (.ref a1), .val (.ref a2)] [(.ref a2)])) _
    exact retOut X2 hx Bd.returns rfl (Or.inr (Or.inr (Or.inr (Or.inr ⟨rfl, rfl, rfl⟩)))) (hb hby d2_33) hr
  · show Q2_2 Z a1 a2 h0 n0 _ T2.heap _
    rw [e2]
    exact ⟨rfl, N0, rfl⟩
theorem ef2_3 (m : MethodId) (a1 : Addr) : entryFrame m #[(.ref a1)] 2 = mkF m 0 #[.val (.ref a1), .unset] [] := by first | (simp [entryFrame, mkF, argsToLocals, Value.category]; done) | rfl
def Q2_3 (Z : State) (a1 : Addr) (a2 : Addr) (h0 : Heap) (n0 : Nat) (v : Option Value) (h : Heap) (L : List Loc) : Prop := v = some (.ref a2) ∧ Fr n0 L ∧ h = h0
set_option maxRecDepth 65536 in
set_option maxHeartbeats 40000000 in
theorem rm2_3 (l : Launch) (Z : State) (a0 : Array Value) (hw : ∀ d ∈ tables_1, d.before a0 Z = true) (ws : List Jvm.Cond) (a1 : Addr) (a2 : Addr) (h0 : Heap) (n0 : Nat) (Z0 : n0 ≤ h0.size) (S_Truth_TRUE : Sta Z h0 "com/example/erlaubnis/erlaubnis/policy/Truth" "TRUE" "Lcom/example/erlaubnis/erlaubnis/policy/Truth;" (.ref a2)) (hne_a1_a2 : a1 ≠ a2) (S_Truth_FALSE : Sta Z h0 "com/example/erlaubnis/erlaubnis/policy/Truth" "FALSE" "Lcom/example/erlaubnis/erlaubnis/policy/Truth;" (.ref a1)) :
    MetFree l (⟨"com/example/erlaubnis/erlaubnis/policy/Truth", "not", "()Lcom/example/erlaubnis/erlaubnis/policy/Truth;"⟩ : MethodName) (head1 (Jvm.Cond.code (⟨"com/example/erlaubnis/erlaubnis/policy/Truth", "not", "()Lcom/example/erlaubnis/erlaubnis/policy/Truth;"⟩ : MethodName) prog_17_method_5_code 2 (some (.object "com/example/erlaubnis/erlaubnis/policy/Truth")) :: ws) ({ frames := 0, cells := 0, slots := 0, locals := 0 } : Room)) (fun a U => a = #[(.ref a1)] ∧ Z.Warmed39 U.vm ∧ U.heap = h0) (fun _ _ _ _ _ => True) (fun _ U o U' => ∃ v L, o = .returned v ∧ Q2_3 Z a1 a2 h0 n0 v U'.heap L ∧ FrameEnd U o U' L ({ frames := 0, cells := 0, slots := 0, locals := 0 } : Room).cells ({ frames := 0, cells := 0, slots := 0, locals := 0 } : Room).slots) := by
  refine MetFree.of_bodySF (plainFor_of_name pn_com_example_erlaubnis_erlaubnis_policy_Truth) hisR ?_
  intro p e s m args below meth c s₁ Bd hml0 hP hK
  obtain ⟨rfl, hZ, hh⟩ := hP
  have hx := Bd.exec
  have hby := Bd.bytes
  have hml : c.maxLocals = 2 := hml0
  have hown : s.vm.findClass "com/example/erlaubnis/erlaubnis/policy/Truth" = some m.cls := findClass_of_methodNamed Bd.named
  have hnm := (name_of_methodNamed Bd.named Bd.method).1
  have X0 : Stand p l e ({ frames := 0, cells := 0, slots := 0, locals := 0 } : Room) s m #[(.ref a1)] below meth c s₁ [] 0 0 := Stand.of_body Bd
  have e0 : s₁.heap = h0 := by rw [← hh, Bd.state]; rfl
  have N0 := Fr.nil n0
  have pre0 : ∀ t, Steps p.tables e below (s₁.setTop (mkF m 0 #[.val (.ref a1), .unset] [])) t → Steps p.tables e below (s₁.setTop (entryFrame m #[(.ref a1)] 2)) t := fun t k => castTop (ef2_3 m a1) k
  obtain ⟨T1, X1, e1, st1⟩ := getS2 X0 hx hZ hown (host := "") (Or.inl (own_w13 hw)) Via.refl e0 S_Truth_TRUE (g := (mkF m 1 #[.val (.ref a1), .unset] [(.ref a1)])) rfl (hb hby d2_1)
  have ne2 : a1 ≠ a2 := hne_a1_a2
  obtain ⟨T3, X3, e3, st3⟩ := getS2 X1 hx hZ hown (host := "") (Or.inl (own_w14 hw)) Via.refl e1 S_Truth_FALSE (g := (mkF m 15 #[.val (.ref a1), .unset] [(.ref a1)])) rfl (hb hby d2_15)
  obtain ⟨T4, X4, e4, st4⟩ := getS2 X3 hx hZ hown (host := "") (Or.inl (own_w13 hw)) Via.refl e3 S_Truth_TRUE (g := (mkF m 21 #[.val (.ref a1), .unset] [])) rfl (hb hby d2_21)
  obtain ⟨fs, hr, hrun, hended, hW, hsame⟩ := X4.leave (v := some (.ref a2)) (fun h => by rw [Bd.returns] at h; cases h)
  refine ⟨_, _, pre0 _ ?_, hrun, hended, _, _, rfl, ?_, ⟨_, rfl⟩, hW, hsame.mono (by decide) (by decide)⟩
  · show Steps p.tables e below (s₁.setTop (mkF m 0 #[.val (.ref a1), .unset] [])) _
    refine XS.aloadN X0.here hx rfl (hb hby d2_0) rfl rfl ?_
    show Steps p.tables e below (s₁.setTop (mkF m 1 #[.val (.ref a1), .unset] [(.ref a1)])) _
    refine st1 _ ?_
    show Steps p.tables e below (T1.setTop (mkF m 4 #[.val (.ref a1), .unset] [(.ref a2), (.ref a1)])) _
    refine Jvm.RoadKit.acmp (g := (mkF m 4 #[.val (.ref a1), .unset] [(.ref a2), (.ref a1)])) X1 hx rfl rfl rfl (pc0 := 4) (pc' := 14) (same := false) rfl (hb hby d2_4) rfl (decide_eq_false fun q => ne2 (Value.ref.inj q)) (by decide) (by decide) ?_
    show Steps p.tables e below (T1.setTop (mkF m 14 #[.val (.ref a1), .unset] [])) _
    refine XS.aloadN X1.here hx rfl (hb hby d2_14) rfl rfl ?_
    show Steps p.tables e below (T1.setTop (mkF m 15 #[.val (.ref a1), .unset] [(.ref a1)])) _
    refine st3 _ ?_
    show Steps p.tables e below (T3.setTop (mkF m 18 #[.val (.ref a1), .unset] [(.ref a1), (.ref a1)])) _
    refine Jvm.RoadKit.acmp (g := (mkF m 18 #[.val (.ref a1), .unset] [(.ref a1), (.ref a1)])) X3 hx rfl rfl rfl (pc0 := 18) (pc' := 21) (same := true) rfl (hb hby d2_18) rfl (decide_eq_true rfl) (by decide) (by decide) ?_
    show Steps p.tables e below (T3.setTop (mkF m 21 #[.val (.ref a1), .unset] [])) _
    refine st4 _ ?_
    show Steps p.tables e below (T4.setTop (mkF m 24 #[.val (.ref a1), .unset] [(.ref a2)])) _
    refine XS.astoreN X4.here hx rfl (hb hby d2_24) rfl rfl (l' := #[.val (.ref a1), .val (.ref a2)]) rfl ?_
    show Steps p.tables e below (T4.setTop (mkF m 25 #[.val (.ref a1), .val (.ref a2)] [])) _
    refine XS.goto X4.here hx rfl (pc0 := 25) (pc' := 32) rfl (hb hby d2_25) (by decide) (by decide) ?_
    show Steps p.tables e below (T4.setTop (mkF m 32 #[.val (.ref a1), .val (.ref a2)] [])) _
    refine XS.aloadN X4.here hx rfl (hb hby d2_32) rfl rfl ?_
    show Steps p.tables e below (T4.setTop (mkF m 33 #[.val (.ref a1), .val (.ref a2)] [(.ref a2)])) _
    exact retOut X4 hx Bd.returns rfl (Or.inr (Or.inr (Or.inr (Or.inr ⟨rfl, rfl, rfl⟩)))) (hb hby d2_33) hr
  · show Q2_3 Z a1 a2 h0 n0 _ T4.heap _
    rw [e4]
    exact ⟨rfl, N0, rfl⟩
theorem ef3_4 (m : MethodId) : entryFrame m #[(.int (0 : Int32))] 1 = mkF m 0 #[.val (.int (0 : Int32))] [] := by first | (simp [entryFrame, mkF, argsToLocals, Value.category]; done) | rfl
def Q3_4 (Z : State) (a1 : Addr) (h0 : Heap) (n0 : Nat) (v : Option Value) (h : Heap) (L : List Loc) : Prop := v = some (.ref a1) ∧ Fr n0 L ∧ h = h0
set_option maxRecDepth 65536 in
set_option maxHeartbeats 40000000 in
theorem rm3_4 (l : Launch) (Z : State) (a0 : Array Value) (hw : ∀ d ∈ tables_1, d.before a0 Z = true) (ws : List Jvm.Cond) (a1 : Addr) (h0 : Heap) (n0 : Nat) (Z0 : n0 ≤ h0.size) (S_Truth_FALSE : Sta Z h0 "com/example/erlaubnis/erlaubnis/policy/Truth" "FALSE" "Lcom/example/erlaubnis/erlaubnis/policy/Truth;" (.ref a1)) :
    MetFree l (⟨"com/example/erlaubnis/erlaubnis/policy/Truth", "of", "(Z)Lcom/example/erlaubnis/erlaubnis/policy/Truth;"⟩ : MethodName) (head1 (Jvm.Cond.code (⟨"com/example/erlaubnis/erlaubnis/policy/Truth", "of", "(Z)Lcom/example/erlaubnis/erlaubnis/policy/Truth;"⟩ : MethodName) prog_17_method_4_code 1 (some (.object "com/example/erlaubnis/erlaubnis/policy/Truth")) :: ws) ({ frames := 0, cells := 0, slots := 0, locals := 0 } : Room)) (fun a U => a = #[(.int (0 : Int32))] ∧ Z.Warmed39 U.vm ∧ U.heap = h0) (fun _ _ _ _ _ => True) (fun _ U o U' => ∃ v L, o = .returned v ∧ Q3_4 Z a1 h0 n0 v U'.heap L ∧ FrameEnd U o U' L ({ frames := 0, cells := 0, slots := 0, locals := 0 } : Room).cells ({ frames := 0, cells := 0, slots := 0, locals := 0 } : Room).slots) := by
  refine MetFree.of_bodySF (plainFor_of_name pn_com_example_erlaubnis_erlaubnis_policy_Truth) hisR ?_
  intro p e s m args below meth c s₁ Bd hml0 hP hK
  obtain ⟨rfl, hZ, hh⟩ := hP
  have hx := Bd.exec
  have hby := Bd.bytes
  have hml : c.maxLocals = 1 := hml0
  have hown : s.vm.findClass "com/example/erlaubnis/erlaubnis/policy/Truth" = some m.cls := findClass_of_methodNamed Bd.named
  have hnm := (name_of_methodNamed Bd.named Bd.method).1
  have X0 : Stand p l e ({ frames := 0, cells := 0, slots := 0, locals := 0 } : Room) s m #[(.int (0 : Int32))] below meth c s₁ [] 0 0 := Stand.of_body Bd
  have e0 : s₁.heap = h0 := by rw [← hh, Bd.state]; rfl
  have N0 := Fr.nil n0
  have pre0 : ∀ t, Steps p.tables e below (s₁.setTop (mkF m 0 #[.val (.int (0 : Int32))] [])) t → Steps p.tables e below (s₁.setTop (entryFrame m #[(.int (0 : Int32))] 1)) t := fun t k => castTop (ef3_4 m) k
  obtain ⟨T1, X1, e1, st1⟩ := getS2 X0 hx hZ hown (host := "") (Or.inl (own_w14 hw)) Via.refl e0 S_Truth_FALSE (g := (mkF m 10 #[.val (.int (0 : Int32))] [])) rfl (hb hby d3_10)
  obtain ⟨fs, hr, hrun, hended, hW, hsame⟩ := X1.leave (v := some (.ref a1)) (fun h => by rw [Bd.returns] at h; cases h)
  refine ⟨_, _, pre0 _ ?_, hrun, hended, _, _, rfl, ?_, ⟨_, rfl⟩, hW, hsame.mono (by decide) (by decide)⟩
  · show Steps p.tables e below (s₁.setTop (mkF m 0 #[.val (.int (0 : Int32))] [])) _
    refine XS.iloadN X0.here hx rfl (hb hby d3_0) rfl ?_
    show Steps p.tables e below (s₁.setTop (mkF m 1 #[.val (.int (0 : Int32))] [(.int (0 : Int32))])) _
    refine XS.ifYes X0.here hx rfl (pc0 := 1) (pc' := 10) rfl (hb hby d3_1) rfl ((if0 _ _).trans (teq (by decide : (0 : Int32) = (0 : Int32))).1) (by decide) (by decide) ?_
    show Steps p.tables e below (s₁.setTop (mkF m 10 #[.val (.int (0 : Int32))] [])) _
    refine st1 _ ?_
    show Steps p.tables e below (T1.setTop (mkF m 13 #[.val (.int (0 : Int32))] [(.ref a1)])) _
    exact retOut X1 hx Bd.returns rfl (Or.inr (Or.inr (Or.inr (Or.inr ⟨rfl, rfl, rfl⟩)))) (hb hby d3_13) hr
  · show Q3_4 Z a1 h0 n0 _ T1.heap _
    rw [e1]
    exact ⟨rfl, N0, rfl⟩
theorem ef3_5 (m : MethodId) : entryFrame m #[(.int (1 : Int32))] 1 = mkF m 0 #[.val (.int (1 : Int32))] [] := by first | (simp [entryFrame, mkF, argsToLocals, Value.category]; done) | rfl
def Q3_5 (Z : State) (a1 : Addr) (h0 : Heap) (n0 : Nat) (v : Option Value) (h : Heap) (L : List Loc) : Prop := v = some (.ref a1) ∧ Fr n0 L ∧ h = h0
set_option maxRecDepth 65536 in
set_option maxHeartbeats 40000000 in
theorem rm3_5 (l : Launch) (Z : State) (a0 : Array Value) (hw : ∀ d ∈ tables_1, d.before a0 Z = true) (ws : List Jvm.Cond) (a1 : Addr) (h0 : Heap) (n0 : Nat) (Z0 : n0 ≤ h0.size) (S_Truth_TRUE : Sta Z h0 "com/example/erlaubnis/erlaubnis/policy/Truth" "TRUE" "Lcom/example/erlaubnis/erlaubnis/policy/Truth;" (.ref a1)) :
    MetFree l (⟨"com/example/erlaubnis/erlaubnis/policy/Truth", "of", "(Z)Lcom/example/erlaubnis/erlaubnis/policy/Truth;"⟩ : MethodName) (head1 (Jvm.Cond.code (⟨"com/example/erlaubnis/erlaubnis/policy/Truth", "of", "(Z)Lcom/example/erlaubnis/erlaubnis/policy/Truth;"⟩ : MethodName) prog_17_method_4_code 1 (some (.object "com/example/erlaubnis/erlaubnis/policy/Truth")) :: ws) ({ frames := 0, cells := 0, slots := 0, locals := 0 } : Room)) (fun a U => a = #[(.int (1 : Int32))] ∧ Z.Warmed39 U.vm ∧ U.heap = h0) (fun _ _ _ _ _ => True) (fun _ U o U' => ∃ v L, o = .returned v ∧ Q3_5 Z a1 h0 n0 v U'.heap L ∧ FrameEnd U o U' L ({ frames := 0, cells := 0, slots := 0, locals := 0 } : Room).cells ({ frames := 0, cells := 0, slots := 0, locals := 0 } : Room).slots) := by
  refine MetFree.of_bodySF (plainFor_of_name pn_com_example_erlaubnis_erlaubnis_policy_Truth) hisR ?_
  intro p e s m args below meth c s₁ Bd hml0 hP hK
  obtain ⟨rfl, hZ, hh⟩ := hP
  have hx := Bd.exec
  have hby := Bd.bytes
  have hml : c.maxLocals = 1 := hml0
  have hown : s.vm.findClass "com/example/erlaubnis/erlaubnis/policy/Truth" = some m.cls := findClass_of_methodNamed Bd.named
  have hnm := (name_of_methodNamed Bd.named Bd.method).1
  have X0 : Stand p l e ({ frames := 0, cells := 0, slots := 0, locals := 0 } : Room) s m #[(.int (1 : Int32))] below meth c s₁ [] 0 0 := Stand.of_body Bd
  have e0 : s₁.heap = h0 := by rw [← hh, Bd.state]; rfl
  have N0 := Fr.nil n0
  have pre0 : ∀ t, Steps p.tables e below (s₁.setTop (mkF m 0 #[.val (.int (1 : Int32))] [])) t → Steps p.tables e below (s₁.setTop (entryFrame m #[(.int (1 : Int32))] 1)) t := fun t k => castTop (ef3_5 m) k
  obtain ⟨T1, X1, e1, st1⟩ := getS2 X0 hx hZ hown (host := "") (Or.inl (own_w13 hw)) Via.refl e0 S_Truth_TRUE (g := (mkF m 4 #[.val (.int (1 : Int32))] [])) rfl (hb hby d3_4)
  obtain ⟨fs, hr, hrun, hended, hW, hsame⟩ := X1.leave (v := some (.ref a1)) (fun h => by rw [Bd.returns] at h; cases h)
  refine ⟨_, _, pre0 _ ?_, hrun, hended, _, _, rfl, ?_, ⟨_, rfl⟩, hW, hsame.mono (by decide) (by decide)⟩
  · show Steps p.tables e below (s₁.setTop (mkF m 0 #[.val (.int (1 : Int32))] [])) _
    refine XS.iloadN X0.here hx rfl (hb hby d3_0) rfl ?_
    show Steps p.tables e below (s₁.setTop (mkF m 1 #[.val (.int (1 : Int32))] [(.int (1 : Int32))])) _
    refine XS.ifNo X0.here hx rfl (hb hby d3_1) rfl ((if0 _ _).trans (feq (by decide : ¬ ((1 : Int32) = (0 : Int32)))).1) ?_
    show Steps p.tables e below (s₁.setTop (mkF m 4 #[.val (.int (1 : Int32))] [])) _
    refine st1 _ ?_
    show Steps p.tables e below (T1.setTop (mkF m 7 #[.val (.int (1 : Int32))] [(.ref a1)])) _
    refine XS.goto X1.here hx rfl (pc0 := 7) (pc' := 13) rfl (hb hby d3_7) (by decide) (by decide) ?_
    show Steps p.tables e below (T1.setTop (mkF m 13 #[.val (.int (1 : Int32))] [(.ref a1)])) _
    exact retOut X1 hx Bd.returns rfl (Or.inr (Or.inr (Or.inr (Or.inr ⟨rfl, rfl, rfl⟩)))) (hb hby d3_13) hr
  · show Q3_5 Z a1 h0 n0 _ T1.heap _
    rw [e1]
    exact ⟨rfl, N0, rfl⟩
theorem ef1_6 (m : MethodId) (p1 : Int32) : entryFrame m #[(.int p1)] 2 = mkF m 0 #[.val (.int p1), .unset] [] := by first | (simp [entryFrame, mkF, argsToLocals, Value.category]; done) | rfl
def Q1_6 (Z : State) (p1 : Int32) (a2 : Addr) (h0 : Heap) (n0 : Nat) (v : Option Value) (h : Heap) (L : List Loc) : Prop := v = some (.ref a2) ∧ Fr n0 L ∧ h = h0
set_option maxRecDepth 65536 in
set_option maxHeartbeats 40000000 in
theorem rm1_6 (l : Launch) (Z : State) (a0 : Array Value) (hw : ∀ d ∈ tables_1, d.before a0 Z = true) (ws : List Jvm.Cond) (p1 : Int32) (a2 : Addr) (h0 : Heap) (n0 : Nat) (Z0 : n0 ≤ h0.size) (hk0 : ((p1 &&& (2147483647 : Int32)) % (3 : Int32)) = (1 : Int32)) (S_Truth_FALSE : Sta Z h0 "com/example/erlaubnis/erlaubnis/policy/Truth" "FALSE" "Lcom/example/erlaubnis/erlaubnis/policy/Truth;" (.ref a2)) :
    MetFree l (⟨"com/example/erlaubnis/erlaubnis/policy/TruthNotPinLaw", "pick", "(I)Lcom/example/erlaubnis/erlaubnis/policy/Truth;"⟩ : MethodName) (head1 (Jvm.Cond.code (⟨"com/example/erlaubnis/erlaubnis/policy/TruthNotPinLaw", "pick", "(I)Lcom/example/erlaubnis/erlaubnis/policy/Truth;"⟩ : MethodName) method_2_code 2 (some (.object "com/example/erlaubnis/erlaubnis/policy/Truth")) :: ws) ({ frames := 0, cells := 0, slots := 0, locals := 0 } : Room)) (fun a U => a = #[(.int p1)] ∧ Z.Warmed39 U.vm ∧ U.heap = h0) (fun _ _ _ _ _ => True) (fun _ U o U' => ∃ v L, o = .returned v ∧ Q1_6 Z p1 a2 h0 n0 v U'.heap L ∧ FrameEnd U o U' L ({ frames := 0, cells := 0, slots := 0, locals := 0 } : Room).cells ({ frames := 0, cells := 0, slots := 0, locals := 0 } : Room).slots) := by
  refine MetFree.of_bodySF (plainFor_of_name pn_com_example_erlaubnis_erlaubnis_policy_TruthNotPinLaw) hisR ?_
  intro p e s m args below meth c s₁ Bd hml0 hP hK
  obtain ⟨rfl, hZ, hh⟩ := hP
  have hx := Bd.exec
  have hby := Bd.bytes
  have hml : c.maxLocals = 2 := hml0
  have hown : s.vm.findClass "com/example/erlaubnis/erlaubnis/policy/TruthNotPinLaw" = some m.cls := findClass_of_methodNamed Bd.named
  have hnm := (name_of_methodNamed Bd.named Bd.method).1
  have X0 : Stand p l e ({ frames := 0, cells := 0, slots := 0, locals := 0 } : Room) s m #[(.int p1)] below meth c s₁ [] 0 0 := Stand.of_body Bd
  have e0 : s₁.heap = h0 := by rw [← hh, Bd.state]; rfl
  have N0 := Fr.nil n0
  have pre0 : ∀ t, Steps p.tables e below (s₁.setTop (mkF m 0 #[.val (.int p1), .unset] [])) t → Steps p.tables e below (s₁.setTop (entryFrame m #[(.int p1)] 2)) t := fun t k => castTop (ef1_6 m p1) k
  obtain ⟨T1, X1, e1, st1⟩ := getS2 X0 hx hZ hown (host := "") (Or.inl (own_w22 hw)) Via.refl e0 S_Truth_FALSE (g := (mkF m 20 #[.val (.int p1), .val (.int (1 : Int32))] [])) rfl (hb hby d1_20)
  obtain ⟨fs, hr, hrun, hended, hW, hsame⟩ := X1.leave (v := some (.ref a2)) (fun h => by rw [Bd.returns] at h; cases h)
  refine ⟨_, _, pre0 _ ?_, hrun, hended, _, _, rfl, ?_, ⟨_, rfl⟩, hW, hsame.mono (by decide) (by decide)⟩
  · show Steps p.tables e below (s₁.setTop (mkF m 0 #[.val (.int p1), .unset] [])) _
    refine XS.iloadN X0.here hx rfl (hb hby d1_0) rfl ?_
    show Steps p.tables e below (s₁.setTop (mkF m 1 #[.val (.int p1), .unset] [(.int p1)])) _
    refine X0.ldcInt hx hown (mvT hZ (own_w4 hw)) (g := (mkF m 1 #[.val (.int p1), .unset] [(.int p1)])) rfl (hb hby d1_1) _ ?_
    show Steps p.tables e below (s₁.setTop (mkF m 3 #[.val (.int p1), .unset] [(.int (2147483647 : Int32)), (.int p1)])) _
    refine XS.iand X0.here hx rfl (hb hby d1_3) rfl ?_
    show Steps p.tables e below (s₁.setTop (mkF m 4 #[.val (.int p1), .unset] [(.int (p1 &&& (2147483647 : Int32)))])) _
    refine XS.iconst X0.here hx rfl (hb hby d1_4) ?_
    show Steps p.tables e below (s₁.setTop (mkF m 5 #[.val (.int p1), .unset] [(.int (3 : Int32)), (.int (p1 &&& (2147483647 : Int32)))])) _
    refine iremM X0 hx rfl (hb hby d1_5) rfl (by decide) ?_
    show Steps p.tables e below (s₁.setTop (mkF m 6 #[.val (.int p1), .unset] [(.int ((p1 &&& (2147483647 : Int32)) % (3 : Int32)))])) _
    rw [hk0]
    show Steps p.tables e below (s₁.setTop (mkF m 6 #[.val (.int p1), .unset] [(.int (1 : Int32))])) _
    refine XS.istoreN X0.here hx rfl (hb hby d1_6) rfl (l' := #[.val (.int p1), .val (.int (1 : Int32))]) rfl ?_
    show Steps p.tables e below (s₁.setTop (mkF m 7 #[.val (.int p1), .val (.int (1 : Int32))] [])) _
    refine XS.iloadN X0.here hx rfl (hb hby d1_7) rfl ?_
    show Steps p.tables e below (s₁.setTop (mkF m 8 #[.val (.int p1), .val (.int (1 : Int32))] [(.int (1 : Int32))])) _
    refine XS.ifYes X0.here hx rfl (pc0 := 8) (pc' := 15) rfl (hb hby d1_8) rfl ((if0 _ _).trans (feq (by decide : ¬ ((1 : Int32) = (0 : Int32)))).2) (by decide) (by decide) ?_
    show Steps p.tables e below (s₁.setTop (mkF m 15 #[.val (.int p1), .val (.int (1 : Int32))] [])) _
    refine XS.iloadN X0.here hx rfl (hb hby d1_15) rfl ?_
    show Steps p.tables e below (s₁.setTop (mkF m 16 #[.val (.int p1), .val (.int (1 : Int32))] [(.int (1 : Int32))])) _
    refine XS.iconst X0.here hx rfl (hb hby d1_16) ?_
    show Steps p.tables e below (s₁.setTop (mkF m 17 #[.val (.int p1), .val (.int (1 : Int32))] [(.int (1 : Int32)), (.int (1 : Int32))])) _
    refine XS.icmpNo X0.here hx rfl (hb hby d1_17) rfl (teq (by decide : (1 : Int32) = (1 : Int32))).2 ?_
    show Steps p.tables e below (s₁.setTop (mkF m 20 #[.val (.int p1), .val (.int (1 : Int32))] [])) _
    refine st1 _ ?_
    show Steps p.tables e below (T1.setTop (mkF m 23 #[.val (.int p1), .val (.int (1 : Int32))] [(.ref a2)])) _
    exact retOut X1 hx Bd.returns rfl (Or.inr (Or.inr (Or.inr (Or.inr ⟨rfl, rfl, rfl⟩)))) (hb hby d1_23) hr
  · show Q1_6 Z p1 a2 h0 n0 _ T1.heap _
    rw [e1]
    exact ⟨rfl, N0, rfl⟩
theorem ef1_7 (m : MethodId) (p1 : Int32) : entryFrame m #[(.int p1)] 2 = mkF m 0 #[.val (.int p1), .unset] [] := by first | (simp [entryFrame, mkF, argsToLocals, Value.category]; done) | rfl
def Q1_7 (Z : State) (p1 : Int32) (a2 : Addr) (h0 : Heap) (n0 : Nat) (v : Option Value) (h : Heap) (L : List Loc) : Prop := v = some (.ref a2) ∧ Fr n0 L ∧ h = h0
set_option maxRecDepth 65536 in
set_option maxHeartbeats 40000000 in
theorem rm1_7 (l : Launch) (Z : State) (a0 : Array Value) (hw : ∀ d ∈ tables_1, d.before a0 Z = true) (ws : List Jvm.Cond) (p1 : Int32) (a2 : Addr) (h0 : Heap) (n0 : Nat) (Z0 : n0 ≤ h0.size) (hk0 : ((p1 &&& (2147483647 : Int32)) % (3 : Int32)) = (2 : Int32)) (S_Truth_UNKNOWN : Sta Z h0 "com/example/erlaubnis/erlaubnis/policy/Truth" "UNKNOWN" "Lcom/example/erlaubnis/erlaubnis/policy/Truth;" (.ref a2)) :
    MetFree l (⟨"com/example/erlaubnis/erlaubnis/policy/TruthNotPinLaw", "pick", "(I)Lcom/example/erlaubnis/erlaubnis/policy/Truth;"⟩ : MethodName) (head1 (Jvm.Cond.code (⟨"com/example/erlaubnis/erlaubnis/policy/TruthNotPinLaw", "pick", "(I)Lcom/example/erlaubnis/erlaubnis/policy/Truth;"⟩ : MethodName) method_2_code 2 (some (.object "com/example/erlaubnis/erlaubnis/policy/Truth")) :: ws) ({ frames := 0, cells := 0, slots := 0, locals := 0 } : Room)) (fun a U => a = #[(.int p1)] ∧ Z.Warmed39 U.vm ∧ U.heap = h0) (fun _ _ _ _ _ => True) (fun _ U o U' => ∃ v L, o = .returned v ∧ Q1_7 Z p1 a2 h0 n0 v U'.heap L ∧ FrameEnd U o U' L ({ frames := 0, cells := 0, slots := 0, locals := 0 } : Room).cells ({ frames := 0, cells := 0, slots := 0, locals := 0 } : Room).slots) := by
  refine MetFree.of_bodySF (plainFor_of_name pn_com_example_erlaubnis_erlaubnis_policy_TruthNotPinLaw) hisR ?_
  intro p e s m args below meth c s₁ Bd hml0 hP hK
  obtain ⟨rfl, hZ, hh⟩ := hP
  have hx := Bd.exec
  have hby := Bd.bytes
  have hml : c.maxLocals = 2 := hml0
  have hown : s.vm.findClass "com/example/erlaubnis/erlaubnis/policy/TruthNotPinLaw" = some m.cls := findClass_of_methodNamed Bd.named
  have hnm := (name_of_methodNamed Bd.named Bd.method).1
  have X0 : Stand p l e ({ frames := 0, cells := 0, slots := 0, locals := 0 } : Room) s m #[(.int p1)] below meth c s₁ [] 0 0 := Stand.of_body Bd
  have e0 : s₁.heap = h0 := by rw [← hh, Bd.state]; rfl
  have N0 := Fr.nil n0
  have pre0 : ∀ t, Steps p.tables e below (s₁.setTop (mkF m 0 #[.val (.int p1), .unset] [])) t → Steps p.tables e below (s₁.setTop (entryFrame m #[(.int p1)] 2)) t := fun t k => castTop (ef1_7 m p1) k
  obtain ⟨T1, X1, e1, st1⟩ := getS2 X0 hx hZ hown (host := "") (Or.inl (own_w19 hw)) Via.refl e0 S_Truth_UNKNOWN (g := (mkF m 24 #[.val (.int p1), .val (.int (2 : Int32))] [])) rfl (hb hby d1_24)
  obtain ⟨fs, hr, hrun, hended, hW, hsame⟩ := X1.leave (v := some (.ref a2)) (fun h => by rw [Bd.returns] at h; cases h)
  refine ⟨_, _, pre0 _ ?_, hrun, hended, _, _, rfl, ?_, ⟨_, rfl⟩, hW, hsame.mono (by decide) (by decide)⟩
  · show Steps p.tables e below (s₁.setTop (mkF m 0 #[.val (.int p1), .unset] [])) _
    refine XS.iloadN X0.here hx rfl (hb hby d1_0) rfl ?_
    show Steps p.tables e below (s₁.setTop (mkF m 1 #[.val (.int p1), .unset] [(.int p1)])) _
    refine X0.ldcInt hx hown (mvT hZ (own_w4 hw)) (g := (mkF m 1 #[.val (.int p1), .unset] [(.int p1)])) rfl (hb hby d1_1) _ ?_
    show Steps p.tables e below (s₁.setTop (mkF m 3 #[.val (.int p1), .unset] [(.int (2147483647 : Int32)), (.int p1)])) _
    refine XS.iand X0.here hx rfl (hb hby d1_3) rfl ?_
    show Steps p.tables e below (s₁.setTop (mkF m 4 #[.val (.int p1), .unset] [(.int (p1 &&& (2147483647 : Int32)))])) _
    refine XS.iconst X0.here hx rfl (hb hby d1_4) ?_
    show Steps p.tables e below (s₁.setTop (mkF m 5 #[.val (.int p1), .unset] [(.int (3 : Int32)), (.int (p1 &&& (2147483647 : Int32)))])) _
    refine iremM X0 hx rfl (hb hby d1_5) rfl (by decide) ?_
    show Steps p.tables e below (s₁.setTop (mkF m 6 #[.val (.int p1), .unset] [(.int ((p1 &&& (2147483647 : Int32)) % (3 : Int32)))])) _
    rw [hk0]
    show Steps p.tables e below (s₁.setTop (mkF m 6 #[.val (.int p1), .unset] [(.int (2 : Int32))])) _
    refine XS.istoreN X0.here hx rfl (hb hby d1_6) rfl (l' := #[.val (.int p1), .val (.int (2 : Int32))]) rfl ?_
    show Steps p.tables e below (s₁.setTop (mkF m 7 #[.val (.int p1), .val (.int (2 : Int32))] [])) _
    refine XS.iloadN X0.here hx rfl (hb hby d1_7) rfl ?_
    show Steps p.tables e below (s₁.setTop (mkF m 8 #[.val (.int p1), .val (.int (2 : Int32))] [(.int (2 : Int32))])) _
    refine XS.ifYes X0.here hx rfl (pc0 := 8) (pc' := 15) rfl (hb hby d1_8) rfl ((if0 _ _).trans (feq (by decide : ¬ ((2 : Int32) = (0 : Int32)))).2) (by decide) (by decide) ?_
    show Steps p.tables e below (s₁.setTop (mkF m 15 #[.val (.int p1), .val (.int (2 : Int32))] [])) _
    refine XS.iloadN X0.here hx rfl (hb hby d1_15) rfl ?_
    show Steps p.tables e below (s₁.setTop (mkF m 16 #[.val (.int p1), .val (.int (2 : Int32))] [(.int (2 : Int32))])) _
    refine XS.iconst X0.here hx rfl (hb hby d1_16) ?_
    show Steps p.tables e below (s₁.setTop (mkF m 17 #[.val (.int p1), .val (.int (2 : Int32))] [(.int (1 : Int32)), (.int (2 : Int32))])) _
    refine XS.icmpYes X0.here hx rfl (pc0 := 17) (pc' := 24) rfl (hb hby d1_17) rfl (feq (by decide : ¬ ((2 : Int32) = (1 : Int32)))).2 (by decide) (by decide) ?_
    show Steps p.tables e below (s₁.setTop (mkF m 24 #[.val (.int p1), .val (.int (2 : Int32))] [])) _
    refine st1 _ ?_
    show Steps p.tables e below (T1.setTop (mkF m 27 #[.val (.int p1), .val (.int (2 : Int32))] [(.ref a2)])) _
    exact retOut X1 hx Bd.returns rfl (Or.inr (Or.inr (Or.inr (Or.inr ⟨rfl, rfl, rfl⟩)))) (hb hby d1_27) hr
  · show Q1_7 Z p1 a2 h0 n0 _ T1.heap _
    rw [e1]
    exact ⟨rfl, N0, rfl⟩
theorem ef2_8 (m : MethodId) (a1 : Addr) : entryFrame m #[(.ref a1)] 2 = mkF m 0 #[.val (.ref a1), .unset] [] := by first | (simp [entryFrame, mkF, argsToLocals, Value.category]; done) | rfl
def Q2_8 (Z : State) (a1 : Addr) (a2 : Addr) (a3 : Addr) (h0 : Heap) (n0 : Nat) (v : Option Value) (h : Heap) (L : List Loc) : Prop := v = some (.ref a1) ∧ Fr n0 L ∧ h = h0
set_option maxRecDepth 65536 in
set_option maxHeartbeats 40000000 in
theorem rm2_8 (l : Launch) (Z : State) (a0 : Array Value) (hw : ∀ d ∈ tables_1, d.before a0 Z = true) (ws : List Jvm.Cond) (a1 : Addr) (a2 : Addr) (a3 : Addr) (h0 : Heap) (n0 : Nat) (Z0 : n0 ≤ h0.size) (S_Truth_TRUE : Sta Z h0 "com/example/erlaubnis/erlaubnis/policy/Truth" "TRUE" "Lcom/example/erlaubnis/erlaubnis/policy/Truth;" (.ref a2)) (hne_a1_a2 : a1 ≠ a2) (S_Truth_FALSE : Sta Z h0 "com/example/erlaubnis/erlaubnis/policy/Truth" "FALSE" "Lcom/example/erlaubnis/erlaubnis/policy/Truth;" (.ref a3)) (hne_a1_a3 : a1 ≠ a3) (S_Truth_UNKNOWN : Sta Z h0 "com/example/erlaubnis/erlaubnis/policy/Truth" "UNKNOWN" "Lcom/example/erlaubnis/erlaubnis/policy/Truth;" (.ref a1)) :
    MetFree l (⟨"com/example/erlaubnis/erlaubnis/policy/Truth", "not", "()Lcom/example/erlaubnis/erlaubnis/policy/Truth;"⟩ : MethodName) (head1 (Jvm.Cond.code (⟨"com/example/erlaubnis/erlaubnis/policy/Truth", "not", "()Lcom/example/erlaubnis/erlaubnis/policy/Truth;"⟩ : MethodName) prog_17_method_5_code 2 (some (.object "com/example/erlaubnis/erlaubnis/policy/Truth")) :: ws) ({ frames := 0, cells := 0, slots := 0, locals := 0 } : Room)) (fun a U => a = #[(.ref a1)] ∧ Z.Warmed39 U.vm ∧ U.heap = h0) (fun _ _ _ _ _ => True) (fun _ U o U' => ∃ v L, o = .returned v ∧ Q2_8 Z a1 a2 a3 h0 n0 v U'.heap L ∧ FrameEnd U o U' L ({ frames := 0, cells := 0, slots := 0, locals := 0 } : Room).cells ({ frames := 0, cells := 0, slots := 0, locals := 0 } : Room).slots) := by
  refine MetFree.of_bodySF (plainFor_of_name pn_com_example_erlaubnis_erlaubnis_policy_Truth) hisR ?_
  intro p e s m args below meth c s₁ Bd hml0 hP hK
  obtain ⟨rfl, hZ, hh⟩ := hP
  have hx := Bd.exec
  have hby := Bd.bytes
  have hml : c.maxLocals = 2 := hml0
  have hown : s.vm.findClass "com/example/erlaubnis/erlaubnis/policy/Truth" = some m.cls := findClass_of_methodNamed Bd.named
  have hnm := (name_of_methodNamed Bd.named Bd.method).1
  have X0 : Stand p l e ({ frames := 0, cells := 0, slots := 0, locals := 0 } : Room) s m #[(.ref a1)] below meth c s₁ [] 0 0 := Stand.of_body Bd
  have e0 : s₁.heap = h0 := by rw [← hh, Bd.state]; rfl
  have N0 := Fr.nil n0
  have pre0 : ∀ t, Steps p.tables e below (s₁.setTop (mkF m 0 #[.val (.ref a1), .unset] [])) t → Steps p.tables e below (s₁.setTop (entryFrame m #[(.ref a1)] 2)) t := fun t k => castTop (ef2_8 m a1) k
  obtain ⟨T1, X1, e1, st1⟩ := getS2 X0 hx hZ hown (host := "") (Or.inl (own_w13 hw)) Via.refl e0 S_Truth_TRUE (g := (mkF m 1 #[.val (.ref a1), .unset] [(.ref a1)])) rfl (hb hby d2_1)
  have ne2 : a1 ≠ a2 := hne_a1_a2
  obtain ⟨T3, X3, e3, st3⟩ := getS2 X1 hx hZ hown (host := "") (Or.inl (own_w14 hw)) Via.refl e1 S_Truth_FALSE (g := (mkF m 15 #[.val (.ref a1), .unset] [(.ref a1)])) rfl (hb hby d2_15)
  have ne4 : a1 ≠ a3 := hne_a1_a3
  obtain ⟨T5, X5, e5, st5⟩ := getS2 X3 hx hZ hown (host := "") (Or.inl (own_w21 hw)) Via.refl e3 S_Truth_UNKNOWN (g := (mkF m 28 #[.val (.ref a1), .unset] [])) rfl (hb hby d2_28)
  obtain ⟨fs, hr, hrun, hended, hW, hsame⟩ := X5.leave (v := some (.ref a1)) (fun h => by rw [Bd.returns] at h; cases h)
  refine ⟨_, _, pre0 _ ?_, hrun, hended, _, _, rfl, ?_, ⟨_, rfl⟩, hW, hsame.mono (by decide) (by decide)⟩
  · show Steps p.tables e below (s₁.setTop (mkF m 0 #[.val (.ref a1), .unset] [])) _
    refine XS.aloadN X0.here hx rfl (hb hby d2_0) rfl rfl ?_
    show Steps p.tables e below (s₁.setTop (mkF m 1 #[.val (.ref a1), .unset] [(.ref a1)])) _
    refine st1 _ ?_
    show Steps p.tables e below (T1.setTop (mkF m 4 #[.val (.ref a1), .unset] [(.ref a2), (.ref a1)])) _
    refine Jvm.RoadKit.acmp (g := (mkF m 4 #[.val (.ref a1), .unset] [(.ref a2), (.ref a1)])) X1 hx rfl rfl rfl (pc0 := 4) (pc' := 14) (same := false) rfl (hb hby d2_4) rfl (decide_eq_false fun q => ne2 (Value.ref.inj q)) (by decide) (by decide) ?_
    show Steps p.tables e below (T1.setTop (mkF m 14 #[.val (.ref a1), .unset] [])) _
    refine XS.aloadN X1.here hx rfl (hb hby d2_14) rfl rfl ?_
    show Steps p.tables e below (T1.setTop (mkF m 15 #[.val (.ref a1), .unset] [(.ref a1)])) _
    refine st3 _ ?_
    show Steps p.tables e below (T3.setTop (mkF m 18 #[.val (.ref a1), .unset] [(.ref a3), (.ref a1)])) _
    refine Jvm.RoadKit.acmp (g := (mkF m 18 #[.val (.ref a1), .unset] [(.ref a3), (.ref a1)])) X3 hx rfl rfl rfl (pc0 := 18) (pc' := 28) (same := false) rfl (hb hby d2_18) rfl (decide_eq_false fun q => ne4 (Value.ref.inj q)) (by decide) (by decide) ?_
    show Steps p.tables e below (T3.setTop (mkF m 28 #[.val (.ref a1), .unset] [])) _
    refine st5 _ ?_
    show Steps p.tables e below (T5.setTop (mkF m 31 #[.val (.ref a1), .unset] [(.ref a1)])) _
    refine XS.astoreN X5.here hx rfl (hb hby d2_31) rfl rfl (l' := #[.val (.ref a1), .val (.ref a1)]) rfl ?_
    show Steps p.tables e below (T5.setTop (mkF m 32 #[.val (.ref a1), .val (.ref a1)] [])) _
    refine XS.aloadN X5.here hx rfl (hb hby d2_32) rfl rfl ?_
    show Steps p.tables e below (T5.setTop (mkF m 33 #[.val (.ref a1), .val (.ref a1)] [(.ref a1)])) _
    exact retOut X5 hx Bd.returns rfl (Or.inr (Or.inr (Or.inr (Or.inr ⟨rfl, rfl, rfl⟩)))) (hb hby d2_33) hr
  · show Q2_8 Z a1 a2 a3 h0 n0 _ T5.heap _
    rw [e5]
    exact ⟨rfl, N0, rfl⟩
theorem ef0 (m : MethodId) (i0 : Int32) (i1 : Int32) : entryFrame m #[(.int i0), (.int i1)] maxLocals = mkF m 0 #[.val (.int i0), .val (.int i1), .unset, .unset, .unset, .unset, .unset, .unset] [] := by first | (simp [entryFrame, mkF, argsToLocals, Value.category, maxLocals]; done) | rfl
set_option maxRecDepth 65536 in
set_option maxHeartbeats 400000000 in
theorem rm0 (l : Launch) (Z : State) (a0 : Array Value) (hw : ∀ d ∈ tables_1, d.before a0 Z = true) (ws : List Jvm.Cond) (i0 : Int32) (i1 : Int32) (o_TRUE : Addr) (o_FALSE : Addr) (o_UNKNOWN : Addr) (h0 : Heap) (n0 : Nat) (Z0 : n0 ≤ h0.size) (S_o_TRUE : Sta Z h0 "com/example/erlaubnis/erlaubnis/policy/Truth" "TRUE" "Lcom/example/erlaubnis/erlaubnis/policy/Truth;" (.ref o_TRUE)) (E_o_TRUE : Exa Z h0 o_TRUE "com/example/erlaubnis/erlaubnis/policy/Truth") (S_o_FALSE : Sta Z h0 "com/example/erlaubnis/erlaubnis/policy/Truth" "FALSE" "Lcom/example/erlaubnis/erlaubnis/policy/Truth;" (.ref o_FALSE)) (E_o_FALSE : Exa Z h0 o_FALSE "com/example/erlaubnis/erlaubnis/policy/Truth") (S_o_UNKNOWN : Sta Z h0 "com/example/erlaubnis/erlaubnis/policy/Truth" "UNKNOWN" "Lcom/example/erlaubnis/erlaubnis/policy/Truth;" (.ref o_UNKNOWN)) (E_o_UNKNOWN : Exa Z h0 o_UNKNOWN "com/example/erlaubnis/erlaubnis/policy/Truth") (F_o_FALSE_ordinal : Fld Z h0 o_FALSE "java/lang/Enum" "ordinal" "I" (.int (1 : Int32))) (F_o_TRUE_ordinal : Fld Z h0 o_TRUE "java/lang/Enum" "ordinal" "I" (.int (0 : Int32))) (F_o_UNKNOWN_ordinal : Fld Z h0 o_UNKNOWN "java/lang/Enum" "ordinal" "I" (.int (2 : Int32))) :
    MetFree l x (head1 (Jvm.Cond.code x code maxLocals ret :: ws) room_1) (fun a U => a = #[(.int i0), (.int i1)] ∧ Z.Warmed39 U.vm ∧ U.heap = h0) (fun _ _ _ _ _ => True) (fun _ U o U' => ∃ v L, o = .returned v ∧ (v = some (.int (1 : Int32)) ∧ Fr n0 L) ∧ FrameEnd U o U' L room_1.cells room_1.slots) := by
  refine MetFree.of_bodySF (plainFor_of_name pn_com_example_erlaubnis_erlaubnis_policy_TruthNotPinLaw) hisR ?_
  intro p e s m args below meth c s₁ Bd hml0 hP hK
  obtain ⟨rfl, hZ, hh⟩ := hP
  have hx := Bd.exec
  have hby := Bd.bytes
  have hml : c.maxLocals = 8 := hml0
  have hown : s.vm.findClass "com/example/erlaubnis/erlaubnis/policy/TruthNotPinLaw" = some m.cls := findClass_of_methodNamed Bd.named
  have hnm := (name_of_methodNamed Bd.named Bd.method).1
  have X0 : Stand p l e room_1 s m #[(.int i0), (.int i1)] below meth c s₁ [] 0 0 := Stand.of_body Bd
  have e0 : s₁.heap = h0 := by rw [← hh, Bd.state]; rfl
  have N0 := Fr.nil n0
  have pre0 : ∀ t, Steps p.tables e below (s₁.setTop (mkF m 0 #[.val (.int i0), .val (.int i1), .unset, .unset, .unset, .unset, .unset, .unset] [])) t → Steps p.tables e below (s₁.setTop (entryFrame m #[(.int i0), (.int i1)] maxLocals)) t := fun t k => castTop (ef0 m i0 i1) k
  have pre1 : ∀ t, Steps p.tables e below (s₁.setTop (mkF m 1 #[.val (.int i0), .val (.int i1), .unset, .unset, .unset, .unset, .unset, .unset] [(.int i0)])) t → Steps p.tables e below (s₁.setTop (entryFrame m #[(.int i0), (.int i1)] maxLocals)) t := fun t kk => pre0 t (by
    show Steps p.tables e below (s₁.setTop (mkF m 0 #[.val (.int i0), .val (.int i1), .unset, .unset, .unset, .unset, .unset, .unset] [])) _
    refine XS.iloadN X0.here hx rfl (hb hby at_0) rfl ?_
    show Steps p.tables e below (s₁.setTop (mkF m 1 #[.val (.int i0), .val (.int i1), .unset, .unset, .unset, .unset, .unset, .unset] [(.int i0)])) _
    exact kk)
  rcases own_en3 i0 with he0 | he0 | he0
  · obtain ⟨_, _, ⟨T1, L1, k1, n1⟩, -, X1, ⟨Lc1, hQ1, l1, y1, z1⟩, st1⟩ := Jvm.LawKit.callS X0 hx (y := (⟨"com/example/erlaubnis/erlaubnis/policy/TruthNotPinLaw", "pick", "(I)Lcom/example/erlaubnis/erlaubnis/policy/Truth;"⟩ : MethodName)) hown (mvT hZ (own_w0 hw)) (mvT hZ (own_w1 hw)) (mvT hZ (own_w2 hw)) (mvT hZ (own_w3 hw)) (by decide) (backOf (W := 0) (rm1_1 l Z a0 hw [] i0 o_TRUE h0 n0 Z0 he0 S_o_TRUE) hZ (own_w3 hw) (own_w2 hw) (by decide) (by decide)) (g := (mkF m 1 #[.val (.int i0), .val (.int i1), .unset, .unset, .unset, .unset, .unset, .unset] [(.int i0)])) rfl (by rw [hml]; rfl) (argsL := [(.int i0)]) (rest := []) (lenOf pd__I_Lcom_example_erlaubnis_erlaubnis_policy_Truth_ rfl) rfl (by show 2 * 0 + _ ≤ _; exact Nat.le_of_eq rfl) (hb hby at_1) (fun _ _ => ⟨rfl, e0, (by decide : 0 + 0 ≤ _), (by decide : 0 + 0 ≤ _)⟩)
    dsimp only [Pt.U, Pt.locs, Pt.cells, Pt.slots] at X1 l1 y1 z1 st1 hQ1
    subst l1 y1 z1
    obtain ⟨rfl, N1q, e1⟩ := hQ1
    have N1 := Fr.app N0 N1q
    have pre2 : ∀ t, Steps p.tables e below (T1.setTop (mkF m 8 #[.val (.int i0), .val (.int i1), .val (.ref o_TRUE), .unset, .unset, .unset, .unset, .unset] [(.int (i1 &&& (1 : Int32)))])) t → Steps p.tables e below (s₁.setTop (entryFrame m #[(.int i0), (.int i1)] maxLocals)) t := fun t kk => pre1 t (by
      show Steps p.tables e below (s₁.setTop (mkF m 1 #[.val (.int i0), .val (.int i1), .unset, .unset, .unset, .unset, .unset, .unset] [(.int i0)])) _
      refine st1 _ ?_
      show Steps p.tables e below (T1.setTop (mkF m 4 #[.val (.int i0), .val (.int i1), .unset, .unset, .unset, .unset, .unset, .unset] [(.ref o_TRUE)])) _
      refine XS.astoreN X1.here hx rfl (hb hby at_4) rfl rfl (l' := #[.val (.int i0), .val (.int i1), .val (.ref o_TRUE), .unset, .unset, .unset, .unset, .unset]) rfl ?_
      show Steps p.tables e below (T1.setTop (mkF m 5 #[.val (.int i0), .val (.int i1), .val (.ref o_TRUE), .unset, .unset, .unset, .unset, .unset] [])) _
      refine XS.iloadN X1.here hx rfl (hb hby at_5) rfl ?_
      show Steps p.tables e below (T1.setTop (mkF m 6 #[.val (.int i0), .val (.int i1), .val (.ref o_TRUE), .unset, .unset, .unset, .unset, .unset] [(.int i1)])) _
      refine XS.iconst X1.here hx rfl (hb hby at_6) ?_
      show Steps p.tables e below (T1.setTop (mkF m 7 #[.val (.int i0), .val (.int i1), .val (.ref o_TRUE), .unset, .unset, .unset, .unset, .unset] [(.int (1 : Int32)), (.int i1)])) _
      refine XS.iand X1.here hx rfl (hb hby at_7) rfl ?_
      show Steps p.tables e below (T1.setTop (mkF m 8 #[.val (.int i0), .val (.int i1), .val (.ref o_TRUE), .unset, .unset, .unset, .unset, .unset] [(.int (i1 &&& (1 : Int32)))])) _
      exact kk)
    rcases own_bit i1 with he1 | he1
    · obtain ⟨cq2, kq2, q2a, q2b, q2c⟩ := isOf hZ e1 E_o_TRUE
      obtain ⟨_, _, ⟨T2, L2, k2, n2⟩, -, X2, ⟨Lc2, hQ2, l2, y2, z2⟩, st2⟩ := X1.virtualBack hx (y := (⟨"com/example/erlaubnis/erlaubnis/policy/Truth", "not", "()Lcom/example/erlaubnis/erlaubnis/policy/Truth;"⟩ : MethodName)) (z := (⟨"com/example/erlaubnis/erlaubnis/policy/Truth", "not", "()Lcom/example/erlaubnis/erlaubnis/policy/Truth;"⟩ : MethodName)) hown (mvT hZ (own_w8 hw)) (mvT hZ (own_w9 hw)) (notFace_of_selects (args := #[]) (mvT hZ (own_w11 hw))) (mvT hZ (own_w11 hw)) (mvT hZ (own_w10 hw)) (by decide) (backOf (W := 0) (rm2_2 l Z a0 hw [] o_TRUE o_FALSE h0 n0 Z0 S_o_TRUE S_o_FALSE) hZ (own_w12 hw) (own_w6 hw) (by decide) (by decide)) q2a q2c (g := (mkF m 18 #[.val (.int i0), .val (.int i1), .val (.ref o_TRUE), .val (.int (0 : Int32)), .unset, .unset, .unset, .unset] [(.ref o_TRUE)])) rfl (by rw [hml]; rfl) (Steps.refl _) (argsL := []) (rest := []) (lenOf pd___Lcom_example_erlaubnis_erlaubnis_policy_Truth_ rfl) rfl (by show 2 * 0 + _ ≤ _; exact Nat.le_of_eq rfl) (hb hby at_18) (fun _ _ => ⟨rfl, e1, (by decide : 0 + 0 ≤ _), (by decide : 0 + 0 ≤ _)⟩)
      dsimp only [Pt.U, Pt.locs, Pt.cells, Pt.slots] at X2 l2 y2 z2 st2 hQ2
      subst l2 y2 z2
      obtain ⟨rfl, N2q, e2⟩ := hQ2
      have N2 := Fr.app N1 N2q
      have ne3 : o_FALSE ≠ o_TRUE := (F_o_FALSE_ordinal.ne F_o_TRUE_ordinal (fun q => absurd (Value.int.inj q) (by decide)))
      obtain ⟨cq4, kq4, q4a, q4b, q4c⟩ := isOf hZ e2 E_o_FALSE
      obtain ⟨_, _, ⟨T4, L4, k4, n4⟩, -, X4, ⟨Lc4, hQ4, l4, y4, z4⟩, st4⟩ := X2.virtualBack hx (y := (⟨"com/example/erlaubnis/erlaubnis/policy/Truth", "not", "()Lcom/example/erlaubnis/erlaubnis/policy/Truth;"⟩ : MethodName)) (z := (⟨"com/example/erlaubnis/erlaubnis/policy/Truth", "not", "()Lcom/example/erlaubnis/erlaubnis/policy/Truth;"⟩ : MethodName)) hown (mvT hZ (own_w8 hw)) (mvT hZ (own_w9 hw)) (notFace_of_selects (args := #[]) (mvT hZ (own_w11 hw))) (mvT hZ (own_w11 hw)) (mvT hZ (own_w10 hw)) (by decide) (backOf (W := 0) (rm2_3 l Z a0 hw [] o_FALSE o_TRUE h0 n0 Z0 S_o_TRUE ne3 S_o_FALSE) hZ (own_w12 hw) (own_w6 hw) (by decide) (by decide)) q4a q4c (g := (mkF m 25 #[.val (.int i0), .val (.int i1), .val (.ref o_TRUE), .val (.int (0 : Int32)), .val (.ref o_FALSE), .unset, .unset, .unset] [(.ref o_FALSE)])) rfl (by rw [hml]; rfl) (Steps.refl _) (argsL := []) (rest := []) (lenOf pd___Lcom_example_erlaubnis_erlaubnis_policy_Truth_ rfl) rfl (by show 2 * 0 + _ ≤ _; exact Nat.le_of_eq rfl) (hb hby at_25) (fun _ _ => ⟨rfl, e2, (by decide : 0 + 0 ≤ _), (by decide : 0 + 0 ≤ _)⟩)
      dsimp only [Pt.U, Pt.locs, Pt.cells, Pt.slots] at X4 l4 y4 z4 st4 hQ4
      subst l4 y4 z4
      obtain ⟨rfl, N4q, e4⟩ := hQ4
      have N4 := Fr.app N2 N4q
      obtain ⟨_, _, ⟨T5, L5, k5, n5⟩, -, X5, ⟨Lc5, hQ5, l5, y5, z5⟩, st5⟩ := Jvm.LawKit.callS X4 hx (y := (⟨"com/example/erlaubnis/erlaubnis/policy/Truth", "of", "(Z)Lcom/example/erlaubnis/erlaubnis/policy/Truth;"⟩ : MethodName)) hown (mvT hZ (own_w16 hw)) (mvT hZ (own_w17 hw)) (mvT hZ (own_w6 hw)) (mvT hZ (own_w18 hw)) (by decide) (backOf (W := 0) (rm3_4 l Z a0 hw [] o_FALSE h0 n0 Z0 S_o_FALSE) hZ (own_w18 hw) (own_w6 hw) (by decide) (by decide)) (g := (mkF m 40 #[.val (.int i0), .val (.int i1), .val (.ref o_TRUE), .val (.int (0 : Int32)), .val (.ref o_FALSE), .val (.int (1 : Int32)), .unset, .unset] [(.int (0 : Int32))])) rfl (by rw [hml]; rfl) (argsL := [(.int (0 : Int32))]) (rest := []) (lenOf pd__Z_Lcom_example_erlaubnis_erlaubnis_policy_Truth_ rfl) rfl (by show 2 * 0 + _ ≤ _; exact Nat.le_of_eq rfl) (hb hby at_40) (fun _ _ => ⟨rfl, e4, (by decide : 0 + 0 ≤ _), (by decide : 0 + 0 ≤ _)⟩)
      dsimp only [Pt.U, Pt.locs, Pt.cells, Pt.slots] at X5 l5 y5 z5 st5 hQ5
      subst l5 y5 z5
      obtain ⟨rfl, N5q, e5⟩ := hQ5
      have N5 := Fr.app N4 N5q
      obtain ⟨cq6, kq6, q6a, q6b, q6c⟩ := isOf hZ e5 E_o_FALSE
      obtain ⟨_, _, ⟨T6, L6, k6, n6⟩, -, X6, ⟨Lc6, hQ6, l6, y6, z6⟩, st6⟩ := X5.virtualBack hx (y := (⟨"com/example/erlaubnis/erlaubnis/policy/Truth", "not", "()Lcom/example/erlaubnis/erlaubnis/policy/Truth;"⟩ : MethodName)) (z := (⟨"com/example/erlaubnis/erlaubnis/policy/Truth", "not", "()Lcom/example/erlaubnis/erlaubnis/policy/Truth;"⟩ : MethodName)) hown (mvT hZ (own_w8 hw)) (mvT hZ (own_w9 hw)) (notFace_of_selects (args := #[]) (mvT hZ (own_w11 hw))) (mvT hZ (own_w11 hw)) (mvT hZ (own_w10 hw)) (by decide) (backOf (W := 0) (rm2_3 l Z a0 hw [] o_FALSE o_TRUE h0 n0 Z0 S_o_TRUE ne3 S_o_FALSE) hZ (own_w12 hw) (own_w6 hw) (by decide) (by decide)) q6a q6c (g := (mkF m 43 #[.val (.int i0), .val (.int i1), .val (.ref o_TRUE), .val (.int (0 : Int32)), .val (.ref o_FALSE), .val (.int (1 : Int32)), .unset, .unset] [(.ref o_FALSE)])) rfl (by rw [hml]; rfl) (Steps.refl _) (argsL := []) (rest := []) (lenOf pd___Lcom_example_erlaubnis_erlaubnis_policy_Truth_ rfl) rfl (by show 2 * 0 + _ ≤ _; exact Nat.le_of_eq rfl) (hb hby at_43) (fun _ _ => ⟨rfl, e5, (by decide : 0 + 0 ≤ _), (by decide : 0 + 0 ≤ _)⟩)
      dsimp only [Pt.U, Pt.locs, Pt.cells, Pt.slots] at X6 l6 y6 z6 st6 hQ6
      subst l6 y6 z6
      obtain ⟨rfl, N6q, e6⟩ := hQ6
      have N6 := Fr.app N5 N6q
      obtain ⟨_, _, ⟨T7, L7, k7, n7⟩, -, X7, ⟨Lc7, hQ7, l7, y7, z7⟩, st7⟩ := Jvm.LawKit.callS X6 hx (y := (⟨"com/example/erlaubnis/erlaubnis/policy/Truth", "of", "(Z)Lcom/example/erlaubnis/erlaubnis/policy/Truth;"⟩ : MethodName)) hown (mvT hZ (own_w16 hw)) (mvT hZ (own_w17 hw)) (mvT hZ (own_w6 hw)) (mvT hZ (own_w18 hw)) (by decide) (backOf (W := 1) (rm3_5 l Z a0 hw [] o_TRUE h0 n0 Z0 S_o_TRUE) hZ (own_w18 hw) (own_w6 hw) (by decide) (by decide)) (g := (mkF m 55 #[.val (.int i0), .val (.int i1), .val (.ref o_TRUE), .val (.int (0 : Int32)), .val (.ref o_FALSE), .val (.int (1 : Int32)), .unset, .unset] [(.int (1 : Int32)), (.ref o_TRUE)])) rfl (by rw [hml]; rfl) (argsL := [(.int (1 : Int32))]) (rest := [(.ref o_TRUE)]) (lenOf pd__Z_Lcom_example_erlaubnis_erlaubnis_policy_Truth_ rfl) rfl (by show 2 * 0 + _ ≤ _; exact Nat.le_of_eq rfl) (hb hby at_55) (fun _ _ => ⟨rfl, e6, (by decide : 0 + 0 ≤ _), (by decide : 0 + 0 ≤ _)⟩)
      dsimp only [Pt.U, Pt.locs, Pt.cells, Pt.slots] at X7 l7 y7 z7 st7 hQ7
      subst l7 y7 z7
      obtain ⟨rfl, N7q, e7⟩ := hQ7
      have N7 := Fr.app N6 N7q
      obtain ⟨T8, X8, e8, st8⟩ := getS2 X7 hx hZ hown (host := "") (Or.inl (own_w19 hw)) Via.refl e7 S_o_UNKNOWN (g := (mkF m 80 #[.val (.int i0), .val (.int i1), .val (.ref o_TRUE), .val (.int (0 : Int32)), .val (.ref o_FALSE), .val (.int (1 : Int32)), .val (.int (1 : Int32)), .unset] [(.ref o_TRUE), (.int (0 : Int32))])) rfl (hb hby at_80)
      have ne9 : o_TRUE ≠ o_UNKNOWN := (F_o_TRUE_ordinal.ne F_o_UNKNOWN_ordinal (fun q => absurd (Value.int.inj q) (by decide)))
      obtain ⟨fs, hr, hrun, hended, hW, hsame⟩ := X8.leave (v := some (.int (1 : Int32))) (fun h => by rw [Bd.returns] at h; cases h)
      refine ⟨_, _, pre2 _ ?_, hrun, hended, _, _, rfl, ⟨rfl, N7⟩, ⟨_, rfl⟩, hW, hsame.mono (by decide) (by decide)⟩
      show Steps p.tables e below (T1.setTop (mkF m 8 #[.val (.int i0), .val (.int i1), .val (.ref o_TRUE), .unset, .unset, .unset, .unset, .unset] [(.int (i1 &&& (1 : Int32)))])) _
      rw [he1]
      show Steps p.tables e below (T1.setTop (mkF m 8 #[.val (.int i0), .val (.int i1), .val (.ref o_TRUE), .unset, .unset, .unset, .unset, .unset] [(.int (0 : Int32))])) _
      refine XS.ifYes X1.here hx rfl (pc0 := 8) (pc' := 15) rfl (hb hby at_8) rfl ((if0 _ _).trans (teq (by decide : (0 : Int32) = (0 : Int32))).1) (by decide) (by decide) ?_
      show Steps p.tables e below (T1.setTop (mkF m 15 #[.val (.int i0), .val (.int i1), .val (.ref o_TRUE), .unset, .unset, .unset, .unset, .unset] [])) _
      refine XS.iconst X1.here hx rfl (hb hby at_15) ?_
      show Steps p.tables e below (T1.setTop (mkF m 16 #[.val (.int i0), .val (.int i1), .val (.ref o_TRUE), .unset, .unset, .unset, .unset, .unset] [(.int (0 : Int32))])) _
      refine XS.istoreN X1.here hx rfl (hb hby at_16) rfl (l' := #[.val (.int i0), .val (.int i1), .val (.ref o_TRUE), .val (.int (0 : Int32)), .unset, .unset, .unset, .unset]) rfl ?_
      show Steps p.tables e below (T1.setTop (mkF m 17 #[.val (.int i0), .val (.int i1), .val (.ref o_TRUE), .val (.int (0 : Int32)), .unset, .unset, .unset, .unset] [])) _
      refine XS.aloadN X1.here hx rfl (hb hby at_17) rfl rfl ?_
      show Steps p.tables e below (T1.setTop (mkF m 18 #[.val (.int i0), .val (.int i1), .val (.ref o_TRUE), .val (.int (0 : Int32)), .unset, .unset, .unset, .unset] [(.ref o_TRUE)])) _
      refine st2.trans ?_
      show Steps p.tables e below (T2.setTop (mkF m 21 #[.val (.int i0), .val (.int i1), .val (.ref o_TRUE), .val (.int (0 : Int32)), .unset, .unset, .unset, .unset] [(.ref o_FALSE)])) _
      refine XS.astore X2.here hx rfl (hb hby at_21) rfl rfl (l' := #[.val (.int i0), .val (.int i1), .val (.ref o_TRUE), .val (.int (0 : Int32)), .val (.ref o_FALSE), .unset, .unset, .unset]) rfl ?_
      show Steps p.tables e below (T2.setTop (mkF m 23 #[.val (.int i0), .val (.int i1), .val (.ref o_TRUE), .val (.int (0 : Int32)), .val (.ref o_FALSE), .unset, .unset, .unset] [])) _
      refine XS.aload X2.here hx rfl (hb hby at_23) rfl rfl ?_
      show Steps p.tables e below (T2.setTop (mkF m 25 #[.val (.int i0), .val (.int i1), .val (.ref o_TRUE), .val (.int (0 : Int32)), .val (.ref o_FALSE), .unset, .unset, .unset] [(.ref o_FALSE)])) _
      refine st4.trans ?_
      show Steps p.tables e below (T4.setTop (mkF m 28 #[.val (.int i0), .val (.int i1), .val (.ref o_TRUE), .val (.int (0 : Int32)), .val (.ref o_FALSE), .unset, .unset, .unset] [(.ref o_TRUE)])) _
      refine XS.aloadN X4.here hx rfl (hb hby at_28) rfl rfl ?_
      show Steps p.tables e below (T4.setTop (mkF m 29 #[.val (.int i0), .val (.int i1), .val (.ref o_TRUE), .val (.int (0 : Int32)), .val (.ref o_FALSE), .unset, .unset, .unset] [(.ref o_TRUE), (.ref o_TRUE)])) _
      refine Jvm.RoadKit.acmp (g := (mkF m 29 #[.val (.int i0), .val (.int i1), .val (.ref o_TRUE), .val (.int (0 : Int32)), .val (.ref o_FALSE), .unset, .unset, .unset] [(.ref o_TRUE), (.ref o_TRUE)])) X4 hx rfl rfl rfl (pc0 := 29) (pc' := 32) (same := true) rfl (hb hby at_29) rfl (decide_eq_true rfl) (by decide) (by decide) ?_
      show Steps p.tables e below (T4.setTop (mkF m 32 #[.val (.int i0), .val (.int i1), .val (.ref o_TRUE), .val (.int (0 : Int32)), .val (.ref o_FALSE), .unset, .unset, .unset] [])) _
      refine XS.iconst X4.here hx rfl (hb hby at_32) ?_
      show Steps p.tables e below (T4.setTop (mkF m 33 #[.val (.int i0), .val (.int i1), .val (.ref o_TRUE), .val (.int (0 : Int32)), .val (.ref o_FALSE), .unset, .unset, .unset] [(.int (1 : Int32))])) _
      refine XS.goto X4.here hx rfl (pc0 := 33) (pc' := 37) rfl (hb hby at_33) (by decide) (by decide) ?_
      show Steps p.tables e below (T4.setTop (mkF m 37 #[.val (.int i0), .val (.int i1), .val (.ref o_TRUE), .val (.int (0 : Int32)), .val (.ref o_FALSE), .unset, .unset, .unset] [(.int (1 : Int32))])) _
      refine XS.istore X4.here hx rfl (hb hby at_37) rfl (l' := #[.val (.int i0), .val (.int i1), .val (.ref o_TRUE), .val (.int (0 : Int32)), .val (.ref o_FALSE), .val (.int (1 : Int32)), .unset, .unset]) rfl ?_
      show Steps p.tables e below (T4.setTop (mkF m 39 #[.val (.int i0), .val (.int i1), .val (.ref o_TRUE), .val (.int (0 : Int32)), .val (.ref o_FALSE), .val (.int (1 : Int32)), .unset, .unset] [])) _
      refine XS.iloadN X4.here hx rfl (hb hby at_39) rfl ?_
      show Steps p.tables e below (T4.setTop (mkF m 40 #[.val (.int i0), .val (.int i1), .val (.ref o_TRUE), .val (.int (0 : Int32)), .val (.ref o_FALSE), .val (.int (1 : Int32)), .unset, .unset] [(.int (0 : Int32))])) _
      refine st5 _ ?_
      show Steps p.tables e below (T5.setTop (mkF m 43 #[.val (.int i0), .val (.int i1), .val (.ref o_TRUE), .val (.int (0 : Int32)), .val (.ref o_FALSE), .val (.int (1 : Int32)), .unset, .unset] [(.ref o_FALSE)])) _
      refine st6.trans ?_
      show Steps p.tables e below (T6.setTop (mkF m 46 #[.val (.int i0), .val (.int i1), .val (.ref o_TRUE), .val (.int (0 : Int32)), .val (.ref o_FALSE), .val (.int (1 : Int32)), .unset, .unset] [(.ref o_TRUE)])) _
      refine XS.iloadN X6.here hx rfl (hb hby at_46) rfl ?_
      show Steps p.tables e below (T6.setTop (mkF m 47 #[.val (.int i0), .val (.int i1), .val (.ref o_TRUE), .val (.int (0 : Int32)), .val (.ref o_FALSE), .val (.int (1 : Int32)), .unset, .unset] [(.int (0 : Int32)), (.ref o_TRUE)])) _
      refine XS.ifNo X6.here hx rfl (hb hby at_47) rfl ((if0 _ _).trans (teq (by decide : (0 : Int32) = (0 : Int32))).2) ?_
      show Steps p.tables e below (T6.setTop (mkF m 50 #[.val (.int i0), .val (.int i1), .val (.ref o_TRUE), .val (.int (0 : Int32)), .val (.ref o_FALSE), .val (.int (1 : Int32)), .unset, .unset] [(.ref o_TRUE)])) _
      refine XS.iconst X6.here hx rfl (hb hby at_50) ?_
      show Steps p.tables e below (T6.setTop (mkF m 51 #[.val (.int i0), .val (.int i1), .val (.ref o_TRUE), .val (.int (0 : Int32)), .val (.ref o_FALSE), .val (.int (1 : Int32)), .unset, .unset] [(.int (1 : Int32)), (.ref o_TRUE)])) _
      refine XS.goto X6.here hx rfl (pc0 := 51) (pc' := 55) rfl (hb hby at_51) (by decide) (by decide) ?_
      show Steps p.tables e below (T6.setTop (mkF m 55 #[.val (.int i0), .val (.int i1), .val (.ref o_TRUE), .val (.int (0 : Int32)), .val (.ref o_FALSE), .val (.int (1 : Int32)), .unset, .unset] [(.int (1 : Int32)), (.ref o_TRUE)])) _
      refine st7 _ ?_
      show Steps p.tables e below (T7.setTop (mkF m 58 #[.val (.int i0), .val (.int i1), .val (.ref o_TRUE), .val (.int (0 : Int32)), .val (.ref o_FALSE), .val (.int (1 : Int32)), .unset, .unset] [(.ref o_TRUE), (.ref o_TRUE)])) _
      refine Jvm.RoadKit.acmp (g := (mkF m 58 #[.val (.int i0), .val (.int i1), .val (.ref o_TRUE), .val (.int (0 : Int32)), .val (.ref o_FALSE), .val (.int (1 : Int32)), .unset, .unset] [(.ref o_TRUE), (.ref o_TRUE)])) X7 hx rfl rfl rfl (pc0 := 58) (pc' := 61) (same := true) rfl (hb hby at_58) rfl (decide_eq_true rfl) (by decide) (by decide) ?_
      show Steps p.tables e below (T7.setTop (mkF m 61 #[.val (.int i0), .val (.int i1), .val (.ref o_TRUE), .val (.int (0 : Int32)), .val (.ref o_FALSE), .val (.int (1 : Int32)), .unset, .unset] [])) _
      refine XS.iconst X7.here hx rfl (hb hby at_61) ?_
      show Steps p.tables e below (T7.setTop (mkF m 62 #[.val (.int i0), .val (.int i1), .val (.ref o_TRUE), .val (.int (0 : Int32)), .val (.ref o_FALSE), .val (.int (1 : Int32)), .unset, .unset] [(.int (1 : Int32))])) _
      refine XS.goto X7.here hx rfl (pc0 := 62) (pc' := 66) rfl (hb hby at_62) (by decide) (by decide) ?_
      show Steps p.tables e below (T7.setTop (mkF m 66 #[.val (.int i0), .val (.int i1), .val (.ref o_TRUE), .val (.int (0 : Int32)), .val (.ref o_FALSE), .val (.int (1 : Int32)), .unset, .unset] [(.int (1 : Int32))])) _
      refine XS.istore X7.here hx rfl (hb hby at_66) rfl (l' := #[.val (.int i0), .val (.int i1), .val (.ref o_TRUE), .val (.int (0 : Int32)), .val (.ref o_FALSE), .val (.int (1 : Int32)), .val (.int (1 : Int32)), .unset]) rfl ?_
      show Steps p.tables e below (T7.setTop (mkF m 68 #[.val (.int i0), .val (.int i1), .val (.ref o_TRUE), .val (.int (0 : Int32)), .val (.ref o_FALSE), .val (.int (1 : Int32)), .val (.int (1 : Int32)), .unset] [])) _
      refine XS.aload X7.here hx rfl (hb hby at_68) rfl rfl ?_
      show Steps p.tables e below (T7.setTop (mkF m 70 #[.val (.int i0), .val (.int i1), .val (.ref o_TRUE), .val (.int (0 : Int32)), .val (.ref o_FALSE), .val (.int (1 : Int32)), .val (.int (1 : Int32)), .unset] [(.ref o_FALSE)])) _
      refine XS.aloadN X7.here hx rfl (hb hby at_70) rfl rfl ?_
      show Steps p.tables e below (T7.setTop (mkF m 71 #[.val (.int i0), .val (.int i1), .val (.ref o_TRUE), .val (.int (0 : Int32)), .val (.ref o_FALSE), .val (.int (1 : Int32)), .val (.int (1 : Int32)), .unset] [(.ref o_TRUE), (.ref o_FALSE)])) _
      refine Jvm.RoadKit.acmp (g := (mkF m 71 #[.val (.int i0), .val (.int i1), .val (.ref o_TRUE), .val (.int (0 : Int32)), .val (.ref o_FALSE), .val (.int (1 : Int32)), .val (.int (1 : Int32)), .unset] [(.ref o_TRUE), (.ref o_FALSE)])) X7 hx rfl rfl rfl (pc0 := 71) (pc' := 78) (same := false) rfl (hb hby at_71) rfl (decide_eq_false fun q => ne3 (Value.ref.inj q)) (by decide) (by decide) ?_
      show Steps p.tables e below (T7.setTop (mkF m 78 #[.val (.int i0), .val (.int i1), .val (.ref o_TRUE), .val (.int (0 : Int32)), .val (.ref o_FALSE), .val (.int (1 : Int32)), .val (.int (1 : Int32)), .unset] [])) _
      refine XS.iconst X7.here hx rfl (hb hby at_78) ?_
      show Steps p.tables e below (T7.setTop (mkF m 79 #[.val (.int i0), .val (.int i1), .val (.ref o_TRUE), .val (.int (0 : Int32)), .val (.ref o_FALSE), .val (.int (1 : Int32)), .val (.int (1 : Int32)), .unset] [(.int (0 : Int32))])) _
      refine XS.aloadN X7.here hx rfl (hb hby at_79) rfl rfl ?_
      show Steps p.tables e below (T7.setTop (mkF m 80 #[.val (.int i0), .val (.int i1), .val (.ref o_TRUE), .val (.int (0 : Int32)), .val (.ref o_FALSE), .val (.int (1 : Int32)), .val (.int (1 : Int32)), .unset] [(.ref o_TRUE), (.int (0 : Int32))])) _
      refine st8 _ ?_
      show Steps p.tables e below (T8.setTop (mkF m 83 #[.val (.int i0), .val (.int i1), .val (.ref o_TRUE), .val (.int (0 : Int32)), .val (.ref o_FALSE), .val (.int (1 : Int32)), .val (.int (1 : Int32)), .unset] [(.ref o_UNKNOWN), (.ref o_TRUE), (.int (0 : Int32))])) _
      refine Jvm.RoadKit.acmp (g := (mkF m 83 #[.val (.int i0), .val (.int i1), .val (.ref o_TRUE), .val (.int (0 : Int32)), .val (.ref o_FALSE), .val (.int (1 : Int32)), .val (.int (1 : Int32)), .unset] [(.ref o_UNKNOWN), (.ref o_TRUE), (.int (0 : Int32))])) X8 hx rfl rfl rfl (pc0 := 83) (pc' := 90) (same := false) rfl (hb hby at_83) rfl (decide_eq_false fun q => ne9 (Value.ref.inj q)) (by decide) (by decide) ?_
      show Steps p.tables e below (T8.setTop (mkF m 90 #[.val (.int i0), .val (.int i1), .val (.ref o_TRUE), .val (.int (0 : Int32)), .val (.ref o_FALSE), .val (.int (1 : Int32)), .val (.int (1 : Int32)), .unset] [(.int (0 : Int32))])) _
      refine XS.iconst X8.here hx rfl (hb hby at_90) ?_
      show Steps p.tables e below (T8.setTop (mkF m 91 #[.val (.int i0), .val (.int i1), .val (.ref o_TRUE), .val (.int (0 : Int32)), .val (.ref o_FALSE), .val (.int (1 : Int32)), .val (.int (1 : Int32)), .unset] [(.int (0 : Int32)), (.int (0 : Int32))])) _
      refine XS.icmpNo X8.here hx rfl (hb hby at_91) rfl (teq (by decide : (0 : Int32) = (0 : Int32))).2 ?_
      show Steps p.tables e below (T8.setTop (mkF m 94 #[.val (.int i0), .val (.int i1), .val (.ref o_TRUE), .val (.int (0 : Int32)), .val (.ref o_FALSE), .val (.int (1 : Int32)), .val (.int (1 : Int32)), .unset] [])) _
      refine XS.iconst X8.here hx rfl (hb hby at_94) ?_
      show Steps p.tables e below (T8.setTop (mkF m 95 #[.val (.int i0), .val (.int i1), .val (.ref o_TRUE), .val (.int (0 : Int32)), .val (.ref o_FALSE), .val (.int (1 : Int32)), .val (.int (1 : Int32)), .unset] [(.int (1 : Int32))])) _
      refine XS.goto X8.here hx rfl (pc0 := 95) (pc' := 99) rfl (hb hby at_95) (by decide) (by decide) ?_
      show Steps p.tables e below (T8.setTop (mkF m 99 #[.val (.int i0), .val (.int i1), .val (.ref o_TRUE), .val (.int (0 : Int32)), .val (.ref o_FALSE), .val (.int (1 : Int32)), .val (.int (1 : Int32)), .unset] [(.int (1 : Int32))])) _
      refine XS.istore X8.here hx rfl (hb hby at_99) rfl (l' := #[.val (.int i0), .val (.int i1), .val (.ref o_TRUE), .val (.int (0 : Int32)), .val (.ref o_FALSE), .val (.int (1 : Int32)), .val (.int (1 : Int32)), .val (.int (1 : Int32))]) rfl ?_
      show Steps p.tables e below (T8.setTop (mkF m 101 #[.val (.int i0), .val (.int i1), .val (.ref o_TRUE), .val (.int (0 : Int32)), .val (.ref o_FALSE), .val (.int (1 : Int32)), .val (.int (1 : Int32)), .val (.int (1 : Int32))] [])) _
      refine XS.iload X8.here hx rfl (hb hby at_101) rfl ?_
      show Steps p.tables e below (T8.setTop (mkF m 103 #[.val (.int i0), .val (.int i1), .val (.ref o_TRUE), .val (.int (0 : Int32)), .val (.ref o_FALSE), .val (.int (1 : Int32)), .val (.int (1 : Int32)), .val (.int (1 : Int32))] [(.int (1 : Int32))])) _
      refine XS.ifNo X8.here hx rfl (hb hby at_103) rfl ((if0 _ _).trans (feq (by decide : ¬ ((1 : Int32) = (0 : Int32)))).1) ?_
      show Steps p.tables e below (T8.setTop (mkF m 106 #[.val (.int i0), .val (.int i1), .val (.ref o_TRUE), .val (.int (0 : Int32)), .val (.ref o_FALSE), .val (.int (1 : Int32)), .val (.int (1 : Int32)), .val (.int (1 : Int32))] [])) _
      refine XS.iload X8.here hx rfl (hb hby at_106) rfl ?_
      show Steps p.tables e below (T8.setTop (mkF m 108 #[.val (.int i0), .val (.int i1), .val (.ref o_TRUE), .val (.int (0 : Int32)), .val (.ref o_FALSE), .val (.int (1 : Int32)), .val (.int (1 : Int32)), .val (.int (1 : Int32))] [(.int (1 : Int32))])) _
      refine XS.ifNo X8.here hx rfl (hb hby at_108) rfl ((if0 _ _).trans (feq (by decide : ¬ ((1 : Int32) = (0 : Int32)))).1) ?_
      show Steps p.tables e below (T8.setTop (mkF m 111 #[.val (.int i0), .val (.int i1), .val (.ref o_TRUE), .val (.int (0 : Int32)), .val (.ref o_FALSE), .val (.int (1 : Int32)), .val (.int (1 : Int32)), .val (.int (1 : Int32))] [])) _
      refine XS.iload X8.here hx rfl (hb hby at_111) rfl ?_
      show Steps p.tables e below (T8.setTop (mkF m 113 #[.val (.int i0), .val (.int i1), .val (.ref o_TRUE), .val (.int (0 : Int32)), .val (.ref o_FALSE), .val (.int (1 : Int32)), .val (.int (1 : Int32)), .val (.int (1 : Int32))] [(.int (1 : Int32))])) _
      refine XS.ifNo X8.here hx rfl (hb hby at_113) rfl ((if0 _ _).trans (feq (by decide : ¬ ((1 : Int32) = (0 : Int32)))).1) ?_
      show Steps p.tables e below (T8.setTop (mkF m 116 #[.val (.int i0), .val (.int i1), .val (.ref o_TRUE), .val (.int (0 : Int32)), .val (.ref o_FALSE), .val (.int (1 : Int32)), .val (.int (1 : Int32)), .val (.int (1 : Int32))] [])) _
      refine XS.iconst X8.here hx rfl (hb hby at_116) ?_
      show Steps p.tables e below (T8.setTop (mkF m 117 #[.val (.int i0), .val (.int i1), .val (.ref o_TRUE), .val (.int (0 : Int32)), .val (.ref o_FALSE), .val (.int (1 : Int32)), .val (.int (1 : Int32)), .val (.int (1 : Int32))] [(.int (1 : Int32))])) _
      refine XS.goto X8.here hx rfl (pc0 := 117) (pc' := 121) rfl (hb hby at_117) (by decide) (by decide) ?_
      show Steps p.tables e below (T8.setTop (mkF m 121 #[.val (.int i0), .val (.int i1), .val (.ref o_TRUE), .val (.int (0 : Int32)), .val (.ref o_FALSE), .val (.int (1 : Int32)), .val (.int (1 : Int32)), .val (.int (1 : Int32))] [(.int (1 : Int32))])) _
      exact retN X8 hx (t := .boolean) Bd.returns (by simp) (hb hby at_121) hr
    · obtain ⟨cq2, kq2, q2a, q2b, q2c⟩ := isOf hZ e1 E_o_TRUE
      obtain ⟨_, _, ⟨T2, L2, k2, n2⟩, -, X2, ⟨Lc2, hQ2, l2, y2, z2⟩, st2⟩ := X1.virtualBack hx (y := (⟨"com/example/erlaubnis/erlaubnis/policy/Truth", "not", "()Lcom/example/erlaubnis/erlaubnis/policy/Truth;"⟩ : MethodName)) (z := (⟨"com/example/erlaubnis/erlaubnis/policy/Truth", "not", "()Lcom/example/erlaubnis/erlaubnis/policy/Truth;"⟩ : MethodName)) hown (mvT hZ (own_w8 hw)) (mvT hZ (own_w9 hw)) (notFace_of_selects (args := #[]) (mvT hZ (own_w11 hw))) (mvT hZ (own_w11 hw)) (mvT hZ (own_w10 hw)) (by decide) (backOf (W := 0) (rm2_2 l Z a0 hw [] o_TRUE o_FALSE h0 n0 Z0 S_o_TRUE S_o_FALSE) hZ (own_w12 hw) (own_w6 hw) (by decide) (by decide)) q2a q2c (g := (mkF m 18 #[.val (.int i0), .val (.int i1), .val (.ref o_TRUE), .val (.int (1 : Int32)), .unset, .unset, .unset, .unset] [(.ref o_TRUE)])) rfl (by rw [hml]; rfl) (Steps.refl _) (argsL := []) (rest := []) (lenOf pd___Lcom_example_erlaubnis_erlaubnis_policy_Truth_ rfl) rfl (by show 2 * 0 + _ ≤ _; exact Nat.le_of_eq rfl) (hb hby at_18) (fun _ _ => ⟨rfl, e1, (by decide : 0 + 0 ≤ _), (by decide : 0 + 0 ≤ _)⟩)
      dsimp only [Pt.U, Pt.locs, Pt.cells, Pt.slots] at X2 l2 y2 z2 st2 hQ2
      subst l2 y2 z2
      obtain ⟨rfl, N2q, e2⟩ := hQ2
      have N2 := Fr.app N1 N2q
      have ne3 : o_FALSE ≠ o_TRUE := (F_o_FALSE_ordinal.ne F_o_TRUE_ordinal (fun q => absurd (Value.int.inj q) (by decide)))
      obtain ⟨cq4, kq4, q4a, q4b, q4c⟩ := isOf hZ e2 E_o_FALSE
      obtain ⟨_, _, ⟨T4, L4, k4, n4⟩, -, X4, ⟨Lc4, hQ4, l4, y4, z4⟩, st4⟩ := X2.virtualBack hx (y := (⟨"com/example/erlaubnis/erlaubnis/policy/Truth", "not", "()Lcom/example/erlaubnis/erlaubnis/policy/Truth;"⟩ : MethodName)) (z := (⟨"com/example/erlaubnis/erlaubnis/policy/Truth", "not", "()Lcom/example/erlaubnis/erlaubnis/policy/Truth;"⟩ : MethodName)) hown (mvT hZ (own_w8 hw)) (mvT hZ (own_w9 hw)) (notFace_of_selects (args := #[]) (mvT hZ (own_w11 hw))) (mvT hZ (own_w11 hw)) (mvT hZ (own_w10 hw)) (by decide) (backOf (W := 0) (rm2_3 l Z a0 hw [] o_FALSE o_TRUE h0 n0 Z0 S_o_TRUE ne3 S_o_FALSE) hZ (own_w12 hw) (own_w6 hw) (by decide) (by decide)) q4a q4c (g := (mkF m 25 #[.val (.int i0), .val (.int i1), .val (.ref o_TRUE), .val (.int (1 : Int32)), .val (.ref o_FALSE), .unset, .unset, .unset] [(.ref o_FALSE)])) rfl (by rw [hml]; rfl) (Steps.refl _) (argsL := []) (rest := []) (lenOf pd___Lcom_example_erlaubnis_erlaubnis_policy_Truth_ rfl) rfl (by show 2 * 0 + _ ≤ _; exact Nat.le_of_eq rfl) (hb hby at_25) (fun _ _ => ⟨rfl, e2, (by decide : 0 + 0 ≤ _), (by decide : 0 + 0 ≤ _)⟩)
      dsimp only [Pt.U, Pt.locs, Pt.cells, Pt.slots] at X4 l4 y4 z4 st4 hQ4
      subst l4 y4 z4
      obtain ⟨rfl, N4q, e4⟩ := hQ4
      have N4 := Fr.app N2 N4q
      obtain ⟨_, _, ⟨T5, L5, k5, n5⟩, -, X5, ⟨Lc5, hQ5, l5, y5, z5⟩, st5⟩ := Jvm.LawKit.callS X4 hx (y := (⟨"com/example/erlaubnis/erlaubnis/policy/Truth", "of", "(Z)Lcom/example/erlaubnis/erlaubnis/policy/Truth;"⟩ : MethodName)) hown (mvT hZ (own_w16 hw)) (mvT hZ (own_w17 hw)) (mvT hZ (own_w6 hw)) (mvT hZ (own_w18 hw)) (by decide) (backOf (W := 0) (rm3_5 l Z a0 hw [] o_TRUE h0 n0 Z0 S_o_TRUE) hZ (own_w18 hw) (own_w6 hw) (by decide) (by decide)) (g := (mkF m 40 #[.val (.int i0), .val (.int i1), .val (.ref o_TRUE), .val (.int (1 : Int32)), .val (.ref o_FALSE), .val (.int (1 : Int32)), .unset, .unset] [(.int (1 : Int32))])) rfl (by rw [hml]; rfl) (argsL := [(.int (1 : Int32))]) (rest := []) (lenOf pd__Z_Lcom_example_erlaubnis_erlaubnis_policy_Truth_ rfl) rfl (by show 2 * 0 + _ ≤ _; exact Nat.le_of_eq rfl) (hb hby at_40) (fun _ _ => ⟨rfl, e4, (by decide : 0 + 0 ≤ _), (by decide : 0 + 0 ≤ _)⟩)
      dsimp only [Pt.U, Pt.locs, Pt.cells, Pt.slots] at X5 l5 y5 z5 st5 hQ5
      subst l5 y5 z5
      obtain ⟨rfl, N5q, e5⟩ := hQ5
      have N5 := Fr.app N4 N5q
      obtain ⟨cq6, kq6, q6a, q6b, q6c⟩ := isOf hZ e5 E_o_TRUE
      obtain ⟨_, _, ⟨T6, L6, k6, n6⟩, -, X6, ⟨Lc6, hQ6, l6, y6, z6⟩, st6⟩ := X5.virtualBack hx (y := (⟨"com/example/erlaubnis/erlaubnis/policy/Truth", "not", "()Lcom/example/erlaubnis/erlaubnis/policy/Truth;"⟩ : MethodName)) (z := (⟨"com/example/erlaubnis/erlaubnis/policy/Truth", "not", "()Lcom/example/erlaubnis/erlaubnis/policy/Truth;"⟩ : MethodName)) hown (mvT hZ (own_w8 hw)) (mvT hZ (own_w9 hw)) (notFace_of_selects (args := #[]) (mvT hZ (own_w11 hw))) (mvT hZ (own_w11 hw)) (mvT hZ (own_w10 hw)) (by decide) (backOf (W := 0) (rm2_2 l Z a0 hw [] o_TRUE o_FALSE h0 n0 Z0 S_o_TRUE S_o_FALSE) hZ (own_w12 hw) (own_w6 hw) (by decide) (by decide)) q6a q6c (g := (mkF m 43 #[.val (.int i0), .val (.int i1), .val (.ref o_TRUE), .val (.int (1 : Int32)), .val (.ref o_FALSE), .val (.int (1 : Int32)), .unset, .unset] [(.ref o_TRUE)])) rfl (by rw [hml]; rfl) (Steps.refl _) (argsL := []) (rest := []) (lenOf pd___Lcom_example_erlaubnis_erlaubnis_policy_Truth_ rfl) rfl (by show 2 * 0 + _ ≤ _; exact Nat.le_of_eq rfl) (hb hby at_43) (fun _ _ => ⟨rfl, e5, (by decide : 0 + 0 ≤ _), (by decide : 0 + 0 ≤ _)⟩)
      dsimp only [Pt.U, Pt.locs, Pt.cells, Pt.slots] at X6 l6 y6 z6 st6 hQ6
      subst l6 y6 z6
      obtain ⟨rfl, N6q, e6⟩ := hQ6
      have N6 := Fr.app N5 N6q
      obtain ⟨_, _, ⟨T7, L7, k7, n7⟩, -, X7, ⟨Lc7, hQ7, l7, y7, z7⟩, st7⟩ := Jvm.LawKit.callS X6 hx (y := (⟨"com/example/erlaubnis/erlaubnis/policy/Truth", "of", "(Z)Lcom/example/erlaubnis/erlaubnis/policy/Truth;"⟩ : MethodName)) hown (mvT hZ (own_w16 hw)) (mvT hZ (own_w17 hw)) (mvT hZ (own_w6 hw)) (mvT hZ (own_w18 hw)) (by decide) (backOf (W := 1) (rm3_4 l Z a0 hw [] o_FALSE h0 n0 Z0 S_o_FALSE) hZ (own_w18 hw) (own_w6 hw) (by decide) (by decide)) (g := (mkF m 55 #[.val (.int i0), .val (.int i1), .val (.ref o_TRUE), .val (.int (1 : Int32)), .val (.ref o_FALSE), .val (.int (1 : Int32)), .unset, .unset] [(.int (0 : Int32)), (.ref o_FALSE)])) rfl (by rw [hml]; rfl) (argsL := [(.int (0 : Int32))]) (rest := [(.ref o_FALSE)]) (lenOf pd__Z_Lcom_example_erlaubnis_erlaubnis_policy_Truth_ rfl) rfl (by show 2 * 0 + _ ≤ _; exact Nat.le_of_eq rfl) (hb hby at_55) (fun _ _ => ⟨rfl, e6, (by decide : 0 + 0 ≤ _), (by decide : 0 + 0 ≤ _)⟩)
      dsimp only [Pt.U, Pt.locs, Pt.cells, Pt.slots] at X7 l7 y7 z7 st7 hQ7
      subst l7 y7 z7
      obtain ⟨rfl, N7q, e7⟩ := hQ7
      have N7 := Fr.app N6 N7q
      obtain ⟨T8, X8, e8, st8⟩ := getS2 X7 hx hZ hown (host := "") (Or.inl (own_w19 hw)) Via.refl e7 S_o_UNKNOWN (g := (mkF m 80 #[.val (.int i0), .val (.int i1), .val (.ref o_TRUE), .val (.int (1 : Int32)), .val (.ref o_FALSE), .val (.int (1 : Int32)), .val (.int (1 : Int32)), .unset] [(.ref o_TRUE), (.int (0 : Int32))])) rfl (hb hby at_80)
      have ne9 : o_TRUE ≠ o_UNKNOWN := (F_o_TRUE_ordinal.ne F_o_UNKNOWN_ordinal (fun q => absurd (Value.int.inj q) (by decide)))
      obtain ⟨fs, hr, hrun, hended, hW, hsame⟩ := X8.leave (v := some (.int (1 : Int32))) (fun h => by rw [Bd.returns] at h; cases h)
      refine ⟨_, _, pre2 _ ?_, hrun, hended, _, _, rfl, ⟨rfl, N7⟩, ⟨_, rfl⟩, hW, hsame.mono (by decide) (by decide)⟩
      show Steps p.tables e below (T1.setTop (mkF m 8 #[.val (.int i0), .val (.int i1), .val (.ref o_TRUE), .unset, .unset, .unset, .unset, .unset] [(.int (i1 &&& (1 : Int32)))])) _
      rw [he1]
      show Steps p.tables e below (T1.setTop (mkF m 8 #[.val (.int i0), .val (.int i1), .val (.ref o_TRUE), .unset, .unset, .unset, .unset, .unset] [(.int (1 : Int32))])) _
      refine XS.ifNo X1.here hx rfl (hb hby at_8) rfl ((if0 _ _).trans (feq (by decide : ¬ ((1 : Int32) = (0 : Int32)))).1) ?_
      show Steps p.tables e below (T1.setTop (mkF m 11 #[.val (.int i0), .val (.int i1), .val (.ref o_TRUE), .unset, .unset, .unset, .unset, .unset] [])) _
      refine XS.iconst X1.here hx rfl (hb hby at_11) ?_
      show Steps p.tables e below (T1.setTop (mkF m 12 #[.val (.int i0), .val (.int i1), .val (.ref o_TRUE), .unset, .unset, .unset, .unset, .unset] [(.int (1 : Int32))])) _
      refine XS.goto X1.here hx rfl (pc0 := 12) (pc' := 16) rfl (hb hby at_12) (by decide) (by decide) ?_
      show Steps p.tables e below (T1.setTop (mkF m 16 #[.val (.int i0), .val (.int i1), .val (.ref o_TRUE), .unset, .unset, .unset, .unset, .unset] [(.int (1 : Int32))])) _
      refine XS.istoreN X1.here hx rfl (hb hby at_16) rfl (l' := #[.val (.int i0), .val (.int i1), .val (.ref o_TRUE), .val (.int (1 : Int32)), .unset, .unset, .unset, .unset]) rfl ?_
      show Steps p.tables e below (T1.setTop (mkF m 17 #[.val (.int i0), .val (.int i1), .val (.ref o_TRUE), .val (.int (1 : Int32)), .unset, .unset, .unset, .unset] [])) _
      refine XS.aloadN X1.here hx rfl (hb hby at_17) rfl rfl ?_
      show Steps p.tables e below (T1.setTop (mkF m 18 #[.val (.int i0), .val (.int i1), .val (.ref o_TRUE), .val (.int (1 : Int32)), .unset, .unset, .unset, .unset] [(.ref o_TRUE)])) _
      refine st2.trans ?_
      show Steps p.tables e below (T2.setTop (mkF m 21 #[.val (.int i0), .val (.int i1), .val (.ref o_TRUE), .val (.int (1 : Int32)), .unset, .unset, .unset, .unset] [(.ref o_FALSE)])) _
      refine XS.astore X2.here hx rfl (hb hby at_21) rfl rfl (l' := #[.val (.int i0), .val (.int i1), .val (.ref o_TRUE), .val (.int (1 : Int32)), .val (.ref o_FALSE), .unset, .unset, .unset]) rfl ?_
      show Steps p.tables e below (T2.setTop (mkF m 23 #[.val (.int i0), .val (.int i1), .val (.ref o_TRUE), .val (.int (1 : Int32)), .val (.ref o_FALSE), .unset, .unset, .unset] [])) _
      refine XS.aload X2.here hx rfl (hb hby at_23) rfl rfl ?_
      show Steps p.tables e below (T2.setTop (mkF m 25 #[.val (.int i0), .val (.int i1), .val (.ref o_TRUE), .val (.int (1 : Int32)), .val (.ref o_FALSE), .unset, .unset, .unset] [(.ref o_FALSE)])) _
      refine st4.trans ?_
      show Steps p.tables e below (T4.setTop (mkF m 28 #[.val (.int i0), .val (.int i1), .val (.ref o_TRUE), .val (.int (1 : Int32)), .val (.ref o_FALSE), .unset, .unset, .unset] [(.ref o_TRUE)])) _
      refine XS.aloadN X4.here hx rfl (hb hby at_28) rfl rfl ?_
      show Steps p.tables e below (T4.setTop (mkF m 29 #[.val (.int i0), .val (.int i1), .val (.ref o_TRUE), .val (.int (1 : Int32)), .val (.ref o_FALSE), .unset, .unset, .unset] [(.ref o_TRUE), (.ref o_TRUE)])) _
      refine Jvm.RoadKit.acmp (g := (mkF m 29 #[.val (.int i0), .val (.int i1), .val (.ref o_TRUE), .val (.int (1 : Int32)), .val (.ref o_FALSE), .unset, .unset, .unset] [(.ref o_TRUE), (.ref o_TRUE)])) X4 hx rfl rfl rfl (pc0 := 29) (pc' := 32) (same := true) rfl (hb hby at_29) rfl (decide_eq_true rfl) (by decide) (by decide) ?_
      show Steps p.tables e below (T4.setTop (mkF m 32 #[.val (.int i0), .val (.int i1), .val (.ref o_TRUE), .val (.int (1 : Int32)), .val (.ref o_FALSE), .unset, .unset, .unset] [])) _
      refine XS.iconst X4.here hx rfl (hb hby at_32) ?_
      show Steps p.tables e below (T4.setTop (mkF m 33 #[.val (.int i0), .val (.int i1), .val (.ref o_TRUE), .val (.int (1 : Int32)), .val (.ref o_FALSE), .unset, .unset, .unset] [(.int (1 : Int32))])) _
      refine XS.goto X4.here hx rfl (pc0 := 33) (pc' := 37) rfl (hb hby at_33) (by decide) (by decide) ?_
      show Steps p.tables e below (T4.setTop (mkF m 37 #[.val (.int i0), .val (.int i1), .val (.ref o_TRUE), .val (.int (1 : Int32)), .val (.ref o_FALSE), .unset, .unset, .unset] [(.int (1 : Int32))])) _
      refine XS.istore X4.here hx rfl (hb hby at_37) rfl (l' := #[.val (.int i0), .val (.int i1), .val (.ref o_TRUE), .val (.int (1 : Int32)), .val (.ref o_FALSE), .val (.int (1 : Int32)), .unset, .unset]) rfl ?_
      show Steps p.tables e below (T4.setTop (mkF m 39 #[.val (.int i0), .val (.int i1), .val (.ref o_TRUE), .val (.int (1 : Int32)), .val (.ref o_FALSE), .val (.int (1 : Int32)), .unset, .unset] [])) _
      refine XS.iloadN X4.here hx rfl (hb hby at_39) rfl ?_
      show Steps p.tables e below (T4.setTop (mkF m 40 #[.val (.int i0), .val (.int i1), .val (.ref o_TRUE), .val (.int (1 : Int32)), .val (.ref o_FALSE), .val (.int (1 : Int32)), .unset, .unset] [(.int (1 : Int32))])) _
      refine st5 _ ?_
      show Steps p.tables e below (T5.setTop (mkF m 43 #[.val (.int i0), .val (.int i1), .val (.ref o_TRUE), .val (.int (1 : Int32)), .val (.ref o_FALSE), .val (.int (1 : Int32)), .unset, .unset] [(.ref o_TRUE)])) _
      refine st6.trans ?_
      show Steps p.tables e below (T6.setTop (mkF m 46 #[.val (.int i0), .val (.int i1), .val (.ref o_TRUE), .val (.int (1 : Int32)), .val (.ref o_FALSE), .val (.int (1 : Int32)), .unset, .unset] [(.ref o_FALSE)])) _
      refine XS.iloadN X6.here hx rfl (hb hby at_46) rfl ?_
      show Steps p.tables e below (T6.setTop (mkF m 47 #[.val (.int i0), .val (.int i1), .val (.ref o_TRUE), .val (.int (1 : Int32)), .val (.ref o_FALSE), .val (.int (1 : Int32)), .unset, .unset] [(.int (1 : Int32)), (.ref o_FALSE)])) _
      refine XS.ifYes X6.here hx rfl (pc0 := 47) (pc' := 54) rfl (hb hby at_47) rfl ((if0 _ _).trans (feq (by decide : ¬ ((1 : Int32) = (0 : Int32)))).2) (by decide) (by decide) ?_
      show Steps p.tables e below (T6.setTop (mkF m 54 #[.val (.int i0), .val (.int i1), .val (.ref o_TRUE), .val (.int (1 : Int32)), .val (.ref o_FALSE), .val (.int (1 : Int32)), .unset, .unset] [(.ref o_FALSE)])) _
      refine XS.iconst X6.here hx rfl (hb hby at_54) ?_
      show Steps p.tables e below (T6.setTop (mkF m 55 #[.val (.int i0), .val (.int i1), .val (.ref o_TRUE), .val (.int (1 : Int32)), .val (.ref o_FALSE), .val (.int (1 : Int32)), .unset, .unset] [(.int (0 : Int32)), (.ref o_FALSE)])) _
      refine st7 _ ?_
      show Steps p.tables e below (T7.setTop (mkF m 58 #[.val (.int i0), .val (.int i1), .val (.ref o_TRUE), .val (.int (1 : Int32)), .val (.ref o_FALSE), .val (.int (1 : Int32)), .unset, .unset] [(.ref o_FALSE), (.ref o_FALSE)])) _
      refine Jvm.RoadKit.acmp (g := (mkF m 58 #[.val (.int i0), .val (.int i1), .val (.ref o_TRUE), .val (.int (1 : Int32)), .val (.ref o_FALSE), .val (.int (1 : Int32)), .unset, .unset] [(.ref o_FALSE), (.ref o_FALSE)])) X7 hx rfl rfl rfl (pc0 := 58) (pc' := 61) (same := true) rfl (hb hby at_58) rfl (decide_eq_true rfl) (by decide) (by decide) ?_
      show Steps p.tables e below (T7.setTop (mkF m 61 #[.val (.int i0), .val (.int i1), .val (.ref o_TRUE), .val (.int (1 : Int32)), .val (.ref o_FALSE), .val (.int (1 : Int32)), .unset, .unset] [])) _
      refine XS.iconst X7.here hx rfl (hb hby at_61) ?_
      show Steps p.tables e below (T7.setTop (mkF m 62 #[.val (.int i0), .val (.int i1), .val (.ref o_TRUE), .val (.int (1 : Int32)), .val (.ref o_FALSE), .val (.int (1 : Int32)), .unset, .unset] [(.int (1 : Int32))])) _
      refine XS.goto X7.here hx rfl (pc0 := 62) (pc' := 66) rfl (hb hby at_62) (by decide) (by decide) ?_
      show Steps p.tables e below (T7.setTop (mkF m 66 #[.val (.int i0), .val (.int i1), .val (.ref o_TRUE), .val (.int (1 : Int32)), .val (.ref o_FALSE), .val (.int (1 : Int32)), .unset, .unset] [(.int (1 : Int32))])) _
      refine XS.istore X7.here hx rfl (hb hby at_66) rfl (l' := #[.val (.int i0), .val (.int i1), .val (.ref o_TRUE), .val (.int (1 : Int32)), .val (.ref o_FALSE), .val (.int (1 : Int32)), .val (.int (1 : Int32)), .unset]) rfl ?_
      show Steps p.tables e below (T7.setTop (mkF m 68 #[.val (.int i0), .val (.int i1), .val (.ref o_TRUE), .val (.int (1 : Int32)), .val (.ref o_FALSE), .val (.int (1 : Int32)), .val (.int (1 : Int32)), .unset] [])) _
      refine XS.aload X7.here hx rfl (hb hby at_68) rfl rfl ?_
      show Steps p.tables e below (T7.setTop (mkF m 70 #[.val (.int i0), .val (.int i1), .val (.ref o_TRUE), .val (.int (1 : Int32)), .val (.ref o_FALSE), .val (.int (1 : Int32)), .val (.int (1 : Int32)), .unset] [(.ref o_FALSE)])) _
      refine XS.aloadN X7.here hx rfl (hb hby at_70) rfl rfl ?_
      show Steps p.tables e below (T7.setTop (mkF m 71 #[.val (.int i0), .val (.int i1), .val (.ref o_TRUE), .val (.int (1 : Int32)), .val (.ref o_FALSE), .val (.int (1 : Int32)), .val (.int (1 : Int32)), .unset] [(.ref o_TRUE), (.ref o_FALSE)])) _
      refine Jvm.RoadKit.acmp (g := (mkF m 71 #[.val (.int i0), .val (.int i1), .val (.ref o_TRUE), .val (.int (1 : Int32)), .val (.ref o_FALSE), .val (.int (1 : Int32)), .val (.int (1 : Int32)), .unset] [(.ref o_TRUE), (.ref o_FALSE)])) X7 hx rfl rfl rfl (pc0 := 71) (pc' := 78) (same := false) rfl (hb hby at_71) rfl (decide_eq_false fun q => ne3 (Value.ref.inj q)) (by decide) (by decide) ?_
      show Steps p.tables e below (T7.setTop (mkF m 78 #[.val (.int i0), .val (.int i1), .val (.ref o_TRUE), .val (.int (1 : Int32)), .val (.ref o_FALSE), .val (.int (1 : Int32)), .val (.int (1 : Int32)), .unset] [])) _
      refine XS.iconst X7.here hx rfl (hb hby at_78) ?_
      show Steps p.tables e below (T7.setTop (mkF m 79 #[.val (.int i0), .val (.int i1), .val (.ref o_TRUE), .val (.int (1 : Int32)), .val (.ref o_FALSE), .val (.int (1 : Int32)), .val (.int (1 : Int32)), .unset] [(.int (0 : Int32))])) _
      refine XS.aloadN X7.here hx rfl (hb hby at_79) rfl rfl ?_
      show Steps p.tables e below (T7.setTop (mkF m 80 #[.val (.int i0), .val (.int i1), .val (.ref o_TRUE), .val (.int (1 : Int32)), .val (.ref o_FALSE), .val (.int (1 : Int32)), .val (.int (1 : Int32)), .unset] [(.ref o_TRUE), (.int (0 : Int32))])) _
      refine st8 _ ?_
      show Steps p.tables e below (T8.setTop (mkF m 83 #[.val (.int i0), .val (.int i1), .val (.ref o_TRUE), .val (.int (1 : Int32)), .val (.ref o_FALSE), .val (.int (1 : Int32)), .val (.int (1 : Int32)), .unset] [(.ref o_UNKNOWN), (.ref o_TRUE), (.int (0 : Int32))])) _
      refine Jvm.RoadKit.acmp (g := (mkF m 83 #[.val (.int i0), .val (.int i1), .val (.ref o_TRUE), .val (.int (1 : Int32)), .val (.ref o_FALSE), .val (.int (1 : Int32)), .val (.int (1 : Int32)), .unset] [(.ref o_UNKNOWN), (.ref o_TRUE), (.int (0 : Int32))])) X8 hx rfl rfl rfl (pc0 := 83) (pc' := 90) (same := false) rfl (hb hby at_83) rfl (decide_eq_false fun q => ne9 (Value.ref.inj q)) (by decide) (by decide) ?_
      show Steps p.tables e below (T8.setTop (mkF m 90 #[.val (.int i0), .val (.int i1), .val (.ref o_TRUE), .val (.int (1 : Int32)), .val (.ref o_FALSE), .val (.int (1 : Int32)), .val (.int (1 : Int32)), .unset] [(.int (0 : Int32))])) _
      refine XS.iconst X8.here hx rfl (hb hby at_90) ?_
      show Steps p.tables e below (T8.setTop (mkF m 91 #[.val (.int i0), .val (.int i1), .val (.ref o_TRUE), .val (.int (1 : Int32)), .val (.ref o_FALSE), .val (.int (1 : Int32)), .val (.int (1 : Int32)), .unset] [(.int (0 : Int32)), (.int (0 : Int32))])) _
      refine XS.icmpNo X8.here hx rfl (hb hby at_91) rfl (teq (by decide : (0 : Int32) = (0 : Int32))).2 ?_
      show Steps p.tables e below (T8.setTop (mkF m 94 #[.val (.int i0), .val (.int i1), .val (.ref o_TRUE), .val (.int (1 : Int32)), .val (.ref o_FALSE), .val (.int (1 : Int32)), .val (.int (1 : Int32)), .unset] [])) _
      refine XS.iconst X8.here hx rfl (hb hby at_94) ?_
      show Steps p.tables e below (T8.setTop (mkF m 95 #[.val (.int i0), .val (.int i1), .val (.ref o_TRUE), .val (.int (1 : Int32)), .val (.ref o_FALSE), .val (.int (1 : Int32)), .val (.int (1 : Int32)), .unset] [(.int (1 : Int32))])) _
      refine XS.goto X8.here hx rfl (pc0 := 95) (pc' := 99) rfl (hb hby at_95) (by decide) (by decide) ?_
      show Steps p.tables e below (T8.setTop (mkF m 99 #[.val (.int i0), .val (.int i1), .val (.ref o_TRUE), .val (.int (1 : Int32)), .val (.ref o_FALSE), .val (.int (1 : Int32)), .val (.int (1 : Int32)), .unset] [(.int (1 : Int32))])) _
      refine XS.istore X8.here hx rfl (hb hby at_99) rfl (l' := #[.val (.int i0), .val (.int i1), .val (.ref o_TRUE), .val (.int (1 : Int32)), .val (.ref o_FALSE), .val (.int (1 : Int32)), .val (.int (1 : Int32)), .val (.int (1 : Int32))]) rfl ?_
      show Steps p.tables e below (T8.setTop (mkF m 101 #[.val (.int i0), .val (.int i1), .val (.ref o_TRUE), .val (.int (1 : Int32)), .val (.ref o_FALSE), .val (.int (1 : Int32)), .val (.int (1 : Int32)), .val (.int (1 : Int32))] [])) _
      refine XS.iload X8.here hx rfl (hb hby at_101) rfl ?_
      show Steps p.tables e below (T8.setTop (mkF m 103 #[.val (.int i0), .val (.int i1), .val (.ref o_TRUE), .val (.int (1 : Int32)), .val (.ref o_FALSE), .val (.int (1 : Int32)), .val (.int (1 : Int32)), .val (.int (1 : Int32))] [(.int (1 : Int32))])) _
      refine XS.ifNo X8.here hx rfl (hb hby at_103) rfl ((if0 _ _).trans (feq (by decide : ¬ ((1 : Int32) = (0 : Int32)))).1) ?_
      show Steps p.tables e below (T8.setTop (mkF m 106 #[.val (.int i0), .val (.int i1), .val (.ref o_TRUE), .val (.int (1 : Int32)), .val (.ref o_FALSE), .val (.int (1 : Int32)), .val (.int (1 : Int32)), .val (.int (1 : Int32))] [])) _
      refine XS.iload X8.here hx rfl (hb hby at_106) rfl ?_
      show Steps p.tables e below (T8.setTop (mkF m 108 #[.val (.int i0), .val (.int i1), .val (.ref o_TRUE), .val (.int (1 : Int32)), .val (.ref o_FALSE), .val (.int (1 : Int32)), .val (.int (1 : Int32)), .val (.int (1 : Int32))] [(.int (1 : Int32))])) _
      refine XS.ifNo X8.here hx rfl (hb hby at_108) rfl ((if0 _ _).trans (feq (by decide : ¬ ((1 : Int32) = (0 : Int32)))).1) ?_
      show Steps p.tables e below (T8.setTop (mkF m 111 #[.val (.int i0), .val (.int i1), .val (.ref o_TRUE), .val (.int (1 : Int32)), .val (.ref o_FALSE), .val (.int (1 : Int32)), .val (.int (1 : Int32)), .val (.int (1 : Int32))] [])) _
      refine XS.iload X8.here hx rfl (hb hby at_111) rfl ?_
      show Steps p.tables e below (T8.setTop (mkF m 113 #[.val (.int i0), .val (.int i1), .val (.ref o_TRUE), .val (.int (1 : Int32)), .val (.ref o_FALSE), .val (.int (1 : Int32)), .val (.int (1 : Int32)), .val (.int (1 : Int32))] [(.int (1 : Int32))])) _
      refine XS.ifNo X8.here hx rfl (hb hby at_113) rfl ((if0 _ _).trans (feq (by decide : ¬ ((1 : Int32) = (0 : Int32)))).1) ?_
      show Steps p.tables e below (T8.setTop (mkF m 116 #[.val (.int i0), .val (.int i1), .val (.ref o_TRUE), .val (.int (1 : Int32)), .val (.ref o_FALSE), .val (.int (1 : Int32)), .val (.int (1 : Int32)), .val (.int (1 : Int32))] [])) _
      refine XS.iconst X8.here hx rfl (hb hby at_116) ?_
      show Steps p.tables e below (T8.setTop (mkF m 117 #[.val (.int i0), .val (.int i1), .val (.ref o_TRUE), .val (.int (1 : Int32)), .val (.ref o_FALSE), .val (.int (1 : Int32)), .val (.int (1 : Int32)), .val (.int (1 : Int32))] [(.int (1 : Int32))])) _
      refine XS.goto X8.here hx rfl (pc0 := 117) (pc' := 121) rfl (hb hby at_117) (by decide) (by decide) ?_
      show Steps p.tables e below (T8.setTop (mkF m 121 #[.val (.int i0), .val (.int i1), .val (.ref o_TRUE), .val (.int (1 : Int32)), .val (.ref o_FALSE), .val (.int (1 : Int32)), .val (.int (1 : Int32)), .val (.int (1 : Int32))] [(.int (1 : Int32))])) _
      exact retN X8 hx (t := .boolean) Bd.returns (by simp) (hb hby at_121) hr
  · obtain ⟨_, _, ⟨T1, L1, k1, n1⟩, -, X1, ⟨Lc1, hQ1, l1, y1, z1⟩, st1⟩ := Jvm.LawKit.callS X0 hx (y := (⟨"com/example/erlaubnis/erlaubnis/policy/TruthNotPinLaw", "pick", "(I)Lcom/example/erlaubnis/erlaubnis/policy/Truth;"⟩ : MethodName)) hown (mvT hZ (own_w0 hw)) (mvT hZ (own_w1 hw)) (mvT hZ (own_w2 hw)) (mvT hZ (own_w3 hw)) (by decide) (backOf (W := 0) (rm1_6 l Z a0 hw [] i0 o_FALSE h0 n0 Z0 he0 S_o_FALSE) hZ (own_w3 hw) (own_w2 hw) (by decide) (by decide)) (g := (mkF m 1 #[.val (.int i0), .val (.int i1), .unset, .unset, .unset, .unset, .unset, .unset] [(.int i0)])) rfl (by rw [hml]; rfl) (argsL := [(.int i0)]) (rest := []) (lenOf pd__I_Lcom_example_erlaubnis_erlaubnis_policy_Truth_ rfl) rfl (by show 2 * 0 + _ ≤ _; exact Nat.le_of_eq rfl) (hb hby at_1) (fun _ _ => ⟨rfl, e0, (by decide : 0 + 0 ≤ _), (by decide : 0 + 0 ≤ _)⟩)
    dsimp only [Pt.U, Pt.locs, Pt.cells, Pt.slots] at X1 l1 y1 z1 st1 hQ1
    subst l1 y1 z1
    obtain ⟨rfl, N1q, e1⟩ := hQ1
    have N1 := Fr.app N0 N1q
    have pre3 : ∀ t, Steps p.tables e below (T1.setTop (mkF m 8 #[.val (.int i0), .val (.int i1), .val (.ref o_FALSE), .unset, .unset, .unset, .unset, .unset] [(.int (i1 &&& (1 : Int32)))])) t → Steps p.tables e below (s₁.setTop (entryFrame m #[(.int i0), (.int i1)] maxLocals)) t := fun t kk => pre1 t (by
      show Steps p.tables e below (s₁.setTop (mkF m 1 #[.val (.int i0), .val (.int i1), .unset, .unset, .unset, .unset, .unset, .unset] [(.int i0)])) _
      refine st1 _ ?_
      show Steps p.tables e below (T1.setTop (mkF m 4 #[.val (.int i0), .val (.int i1), .unset, .unset, .unset, .unset, .unset, .unset] [(.ref o_FALSE)])) _
      refine XS.astoreN X1.here hx rfl (hb hby at_4) rfl rfl (l' := #[.val (.int i0), .val (.int i1), .val (.ref o_FALSE), .unset, .unset, .unset, .unset, .unset]) rfl ?_
      show Steps p.tables e below (T1.setTop (mkF m 5 #[.val (.int i0), .val (.int i1), .val (.ref o_FALSE), .unset, .unset, .unset, .unset, .unset] [])) _
      refine XS.iloadN X1.here hx rfl (hb hby at_5) rfl ?_
      show Steps p.tables e below (T1.setTop (mkF m 6 #[.val (.int i0), .val (.int i1), .val (.ref o_FALSE), .unset, .unset, .unset, .unset, .unset] [(.int i1)])) _
      refine XS.iconst X1.here hx rfl (hb hby at_6) ?_
      show Steps p.tables e below (T1.setTop (mkF m 7 #[.val (.int i0), .val (.int i1), .val (.ref o_FALSE), .unset, .unset, .unset, .unset, .unset] [(.int (1 : Int32)), (.int i1)])) _
      refine XS.iand X1.here hx rfl (hb hby at_7) rfl ?_
      show Steps p.tables e below (T1.setTop (mkF m 8 #[.val (.int i0), .val (.int i1), .val (.ref o_FALSE), .unset, .unset, .unset, .unset, .unset] [(.int (i1 &&& (1 : Int32)))])) _
      exact kk)
    rcases own_bit i1 with he1 | he1
    · have ne2 : o_FALSE ≠ o_TRUE := (F_o_FALSE_ordinal.ne F_o_TRUE_ordinal (fun q => absurd (Value.int.inj q) (by decide)))
      obtain ⟨cq3, kq3, q3a, q3b, q3c⟩ := isOf hZ e1 E_o_FALSE
      obtain ⟨_, _, ⟨T3, L3, k3, n3⟩, -, X3, ⟨Lc3, hQ3, l3, y3, z3⟩, st3⟩ := X1.virtualBack hx (y := (⟨"com/example/erlaubnis/erlaubnis/policy/Truth", "not", "()Lcom/example/erlaubnis/erlaubnis/policy/Truth;"⟩ : MethodName)) (z := (⟨"com/example/erlaubnis/erlaubnis/policy/Truth", "not", "()Lcom/example/erlaubnis/erlaubnis/policy/Truth;"⟩ : MethodName)) hown (mvT hZ (own_w8 hw)) (mvT hZ (own_w9 hw)) (notFace_of_selects (args := #[]) (mvT hZ (own_w11 hw))) (mvT hZ (own_w11 hw)) (mvT hZ (own_w10 hw)) (by decide) (backOf (W := 0) (rm2_3 l Z a0 hw [] o_FALSE o_TRUE h0 n0 Z0 S_o_TRUE ne2 S_o_FALSE) hZ (own_w12 hw) (own_w6 hw) (by decide) (by decide)) q3a q3c (g := (mkF m 18 #[.val (.int i0), .val (.int i1), .val (.ref o_FALSE), .val (.int (0 : Int32)), .unset, .unset, .unset, .unset] [(.ref o_FALSE)])) rfl (by rw [hml]; rfl) (Steps.refl _) (argsL := []) (rest := []) (lenOf pd___Lcom_example_erlaubnis_erlaubnis_policy_Truth_ rfl) rfl (by show 2 * 0 + _ ≤ _; exact Nat.le_of_eq rfl) (hb hby at_18) (fun _ _ => ⟨rfl, e1, (by decide : 0 + 0 ≤ _), (by decide : 0 + 0 ≤ _)⟩)
      dsimp only [Pt.U, Pt.locs, Pt.cells, Pt.slots] at X3 l3 y3 z3 st3 hQ3
      subst l3 y3 z3
      obtain ⟨rfl, N3q, e3⟩ := hQ3
      have N3 := Fr.app N1 N3q
      obtain ⟨cq4, kq4, q4a, q4b, q4c⟩ := isOf hZ e3 E_o_TRUE
      obtain ⟨_, _, ⟨T4, L4, k4, n4⟩, -, X4, ⟨Lc4, hQ4, l4, y4, z4⟩, st4⟩ := X3.virtualBack hx (y := (⟨"com/example/erlaubnis/erlaubnis/policy/Truth", "not", "()Lcom/example/erlaubnis/erlaubnis/policy/Truth;"⟩ : MethodName)) (z := (⟨"com/example/erlaubnis/erlaubnis/policy/Truth", "not", "()Lcom/example/erlaubnis/erlaubnis/policy/Truth;"⟩ : MethodName)) hown (mvT hZ (own_w8 hw)) (mvT hZ (own_w9 hw)) (notFace_of_selects (args := #[]) (mvT hZ (own_w11 hw))) (mvT hZ (own_w11 hw)) (mvT hZ (own_w10 hw)) (by decide) (backOf (W := 0) (rm2_2 l Z a0 hw [] o_TRUE o_FALSE h0 n0 Z0 S_o_TRUE S_o_FALSE) hZ (own_w12 hw) (own_w6 hw) (by decide) (by decide)) q4a q4c (g := (mkF m 25 #[.val (.int i0), .val (.int i1), .val (.ref o_FALSE), .val (.int (0 : Int32)), .val (.ref o_TRUE), .unset, .unset, .unset] [(.ref o_TRUE)])) rfl (by rw [hml]; rfl) (Steps.refl _) (argsL := []) (rest := []) (lenOf pd___Lcom_example_erlaubnis_erlaubnis_policy_Truth_ rfl) rfl (by show 2 * 0 + _ ≤ _; exact Nat.le_of_eq rfl) (hb hby at_25) (fun _ _ => ⟨rfl, e3, (by decide : 0 + 0 ≤ _), (by decide : 0 + 0 ≤ _)⟩)
      dsimp only [Pt.U, Pt.locs, Pt.cells, Pt.slots] at X4 l4 y4 z4 st4 hQ4
      subst l4 y4 z4
      obtain ⟨rfl, N4q, e4⟩ := hQ4
      have N4 := Fr.app N3 N4q
      obtain ⟨_, _, ⟨T5, L5, k5, n5⟩, -, X5, ⟨Lc5, hQ5, l5, y5, z5⟩, st5⟩ := Jvm.LawKit.callS X4 hx (y := (⟨"com/example/erlaubnis/erlaubnis/policy/Truth", "of", "(Z)Lcom/example/erlaubnis/erlaubnis/policy/Truth;"⟩ : MethodName)) hown (mvT hZ (own_w16 hw)) (mvT hZ (own_w17 hw)) (mvT hZ (own_w6 hw)) (mvT hZ (own_w18 hw)) (by decide) (backOf (W := 0) (rm3_4 l Z a0 hw [] o_FALSE h0 n0 Z0 S_o_FALSE) hZ (own_w18 hw) (own_w6 hw) (by decide) (by decide)) (g := (mkF m 40 #[.val (.int i0), .val (.int i1), .val (.ref o_FALSE), .val (.int (0 : Int32)), .val (.ref o_TRUE), .val (.int (1 : Int32)), .unset, .unset] [(.int (0 : Int32))])) rfl (by rw [hml]; rfl) (argsL := [(.int (0 : Int32))]) (rest := []) (lenOf pd__Z_Lcom_example_erlaubnis_erlaubnis_policy_Truth_ rfl) rfl (by show 2 * 0 + _ ≤ _; exact Nat.le_of_eq rfl) (hb hby at_40) (fun _ _ => ⟨rfl, e4, (by decide : 0 + 0 ≤ _), (by decide : 0 + 0 ≤ _)⟩)
      dsimp only [Pt.U, Pt.locs, Pt.cells, Pt.slots] at X5 l5 y5 z5 st5 hQ5
      subst l5 y5 z5
      obtain ⟨rfl, N5q, e5⟩ := hQ5
      have N5 := Fr.app N4 N5q
      obtain ⟨cq6, kq6, q6a, q6b, q6c⟩ := isOf hZ e5 E_o_FALSE
      obtain ⟨_, _, ⟨T6, L6, k6, n6⟩, -, X6, ⟨Lc6, hQ6, l6, y6, z6⟩, st6⟩ := X5.virtualBack hx (y := (⟨"com/example/erlaubnis/erlaubnis/policy/Truth", "not", "()Lcom/example/erlaubnis/erlaubnis/policy/Truth;"⟩ : MethodName)) (z := (⟨"com/example/erlaubnis/erlaubnis/policy/Truth", "not", "()Lcom/example/erlaubnis/erlaubnis/policy/Truth;"⟩ : MethodName)) hown (mvT hZ (own_w8 hw)) (mvT hZ (own_w9 hw)) (notFace_of_selects (args := #[]) (mvT hZ (own_w11 hw))) (mvT hZ (own_w11 hw)) (mvT hZ (own_w10 hw)) (by decide) (backOf (W := 0) (rm2_3 l Z a0 hw [] o_FALSE o_TRUE h0 n0 Z0 S_o_TRUE ne2 S_o_FALSE) hZ (own_w12 hw) (own_w6 hw) (by decide) (by decide)) q6a q6c (g := (mkF m 43 #[.val (.int i0), .val (.int i1), .val (.ref o_FALSE), .val (.int (0 : Int32)), .val (.ref o_TRUE), .val (.int (1 : Int32)), .unset, .unset] [(.ref o_FALSE)])) rfl (by rw [hml]; rfl) (Steps.refl _) (argsL := []) (rest := []) (lenOf pd___Lcom_example_erlaubnis_erlaubnis_policy_Truth_ rfl) rfl (by show 2 * 0 + _ ≤ _; exact Nat.le_of_eq rfl) (hb hby at_43) (fun _ _ => ⟨rfl, e5, (by decide : 0 + 0 ≤ _), (by decide : 0 + 0 ≤ _)⟩)
      dsimp only [Pt.U, Pt.locs, Pt.cells, Pt.slots] at X6 l6 y6 z6 st6 hQ6
      subst l6 y6 z6
      obtain ⟨rfl, N6q, e6⟩ := hQ6
      have N6 := Fr.app N5 N6q
      obtain ⟨_, _, ⟨T7, L7, k7, n7⟩, -, X7, ⟨Lc7, hQ7, l7, y7, z7⟩, st7⟩ := Jvm.LawKit.callS X6 hx (y := (⟨"com/example/erlaubnis/erlaubnis/policy/Truth", "of", "(Z)Lcom/example/erlaubnis/erlaubnis/policy/Truth;"⟩ : MethodName)) hown (mvT hZ (own_w16 hw)) (mvT hZ (own_w17 hw)) (mvT hZ (own_w6 hw)) (mvT hZ (own_w18 hw)) (by decide) (backOf (W := 1) (rm3_5 l Z a0 hw [] o_TRUE h0 n0 Z0 S_o_TRUE) hZ (own_w18 hw) (own_w6 hw) (by decide) (by decide)) (g := (mkF m 55 #[.val (.int i0), .val (.int i1), .val (.ref o_FALSE), .val (.int (0 : Int32)), .val (.ref o_TRUE), .val (.int (1 : Int32)), .unset, .unset] [(.int (1 : Int32)), (.ref o_TRUE)])) rfl (by rw [hml]; rfl) (argsL := [(.int (1 : Int32))]) (rest := [(.ref o_TRUE)]) (lenOf pd__Z_Lcom_example_erlaubnis_erlaubnis_policy_Truth_ rfl) rfl (by show 2 * 0 + _ ≤ _; exact Nat.le_of_eq rfl) (hb hby at_55) (fun _ _ => ⟨rfl, e6, (by decide : 0 + 0 ≤ _), (by decide : 0 + 0 ≤ _)⟩)
      dsimp only [Pt.U, Pt.locs, Pt.cells, Pt.slots] at X7 l7 y7 z7 st7 hQ7
      subst l7 y7 z7
      obtain ⟨rfl, N7q, e7⟩ := hQ7
      have N7 := Fr.app N6 N7q
      obtain ⟨T8, X8, e8, st8⟩ := getS2 X7 hx hZ hown (host := "") (Or.inl (own_w19 hw)) Via.refl e7 S_o_UNKNOWN (g := (mkF m 80 #[.val (.int i0), .val (.int i1), .val (.ref o_FALSE), .val (.int (0 : Int32)), .val (.ref o_TRUE), .val (.int (1 : Int32)), .val (.int (1 : Int32)), .unset] [(.ref o_FALSE), (.int (0 : Int32))])) rfl (hb hby at_80)
      have ne9 : o_FALSE ≠ o_UNKNOWN := (F_o_FALSE_ordinal.ne F_o_UNKNOWN_ordinal (fun q => absurd (Value.int.inj q) (by decide)))
      obtain ⟨fs, hr, hrun, hended, hW, hsame⟩ := X8.leave (v := some (.int (1 : Int32))) (fun h => by rw [Bd.returns] at h; cases h)
      refine ⟨_, _, pre3 _ ?_, hrun, hended, _, _, rfl, ⟨rfl, N7⟩, ⟨_, rfl⟩, hW, hsame.mono (by decide) (by decide)⟩
      show Steps p.tables e below (T1.setTop (mkF m 8 #[.val (.int i0), .val (.int i1), .val (.ref o_FALSE), .unset, .unset, .unset, .unset, .unset] [(.int (i1 &&& (1 : Int32)))])) _
      rw [he1]
      show Steps p.tables e below (T1.setTop (mkF m 8 #[.val (.int i0), .val (.int i1), .val (.ref o_FALSE), .unset, .unset, .unset, .unset, .unset] [(.int (0 : Int32))])) _
      refine XS.ifYes X1.here hx rfl (pc0 := 8) (pc' := 15) rfl (hb hby at_8) rfl ((if0 _ _).trans (teq (by decide : (0 : Int32) = (0 : Int32))).1) (by decide) (by decide) ?_
      show Steps p.tables e below (T1.setTop (mkF m 15 #[.val (.int i0), .val (.int i1), .val (.ref o_FALSE), .unset, .unset, .unset, .unset, .unset] [])) _
      refine XS.iconst X1.here hx rfl (hb hby at_15) ?_
      show Steps p.tables e below (T1.setTop (mkF m 16 #[.val (.int i0), .val (.int i1), .val (.ref o_FALSE), .unset, .unset, .unset, .unset, .unset] [(.int (0 : Int32))])) _
      refine XS.istoreN X1.here hx rfl (hb hby at_16) rfl (l' := #[.val (.int i0), .val (.int i1), .val (.ref o_FALSE), .val (.int (0 : Int32)), .unset, .unset, .unset, .unset]) rfl ?_
      show Steps p.tables e below (T1.setTop (mkF m 17 #[.val (.int i0), .val (.int i1), .val (.ref o_FALSE), .val (.int (0 : Int32)), .unset, .unset, .unset, .unset] [])) _
      refine XS.aloadN X1.here hx rfl (hb hby at_17) rfl rfl ?_
      show Steps p.tables e below (T1.setTop (mkF m 18 #[.val (.int i0), .val (.int i1), .val (.ref o_FALSE), .val (.int (0 : Int32)), .unset, .unset, .unset, .unset] [(.ref o_FALSE)])) _
      refine st3.trans ?_
      show Steps p.tables e below (T3.setTop (mkF m 21 #[.val (.int i0), .val (.int i1), .val (.ref o_FALSE), .val (.int (0 : Int32)), .unset, .unset, .unset, .unset] [(.ref o_TRUE)])) _
      refine XS.astore X3.here hx rfl (hb hby at_21) rfl rfl (l' := #[.val (.int i0), .val (.int i1), .val (.ref o_FALSE), .val (.int (0 : Int32)), .val (.ref o_TRUE), .unset, .unset, .unset]) rfl ?_
      show Steps p.tables e below (T3.setTop (mkF m 23 #[.val (.int i0), .val (.int i1), .val (.ref o_FALSE), .val (.int (0 : Int32)), .val (.ref o_TRUE), .unset, .unset, .unset] [])) _
      refine XS.aload X3.here hx rfl (hb hby at_23) rfl rfl ?_
      show Steps p.tables e below (T3.setTop (mkF m 25 #[.val (.int i0), .val (.int i1), .val (.ref o_FALSE), .val (.int (0 : Int32)), .val (.ref o_TRUE), .unset, .unset, .unset] [(.ref o_TRUE)])) _
      refine st4.trans ?_
      show Steps p.tables e below (T4.setTop (mkF m 28 #[.val (.int i0), .val (.int i1), .val (.ref o_FALSE), .val (.int (0 : Int32)), .val (.ref o_TRUE), .unset, .unset, .unset] [(.ref o_FALSE)])) _
      refine XS.aloadN X4.here hx rfl (hb hby at_28) rfl rfl ?_
      show Steps p.tables e below (T4.setTop (mkF m 29 #[.val (.int i0), .val (.int i1), .val (.ref o_FALSE), .val (.int (0 : Int32)), .val (.ref o_TRUE), .unset, .unset, .unset] [(.ref o_FALSE), (.ref o_FALSE)])) _
      refine Jvm.RoadKit.acmp (g := (mkF m 29 #[.val (.int i0), .val (.int i1), .val (.ref o_FALSE), .val (.int (0 : Int32)), .val (.ref o_TRUE), .unset, .unset, .unset] [(.ref o_FALSE), (.ref o_FALSE)])) X4 hx rfl rfl rfl (pc0 := 29) (pc' := 32) (same := true) rfl (hb hby at_29) rfl (decide_eq_true rfl) (by decide) (by decide) ?_
      show Steps p.tables e below (T4.setTop (mkF m 32 #[.val (.int i0), .val (.int i1), .val (.ref o_FALSE), .val (.int (0 : Int32)), .val (.ref o_TRUE), .unset, .unset, .unset] [])) _
      refine XS.iconst X4.here hx rfl (hb hby at_32) ?_
      show Steps p.tables e below (T4.setTop (mkF m 33 #[.val (.int i0), .val (.int i1), .val (.ref o_FALSE), .val (.int (0 : Int32)), .val (.ref o_TRUE), .unset, .unset, .unset] [(.int (1 : Int32))])) _
      refine XS.goto X4.here hx rfl (pc0 := 33) (pc' := 37) rfl (hb hby at_33) (by decide) (by decide) ?_
      show Steps p.tables e below (T4.setTop (mkF m 37 #[.val (.int i0), .val (.int i1), .val (.ref o_FALSE), .val (.int (0 : Int32)), .val (.ref o_TRUE), .unset, .unset, .unset] [(.int (1 : Int32))])) _
      refine XS.istore X4.here hx rfl (hb hby at_37) rfl (l' := #[.val (.int i0), .val (.int i1), .val (.ref o_FALSE), .val (.int (0 : Int32)), .val (.ref o_TRUE), .val (.int (1 : Int32)), .unset, .unset]) rfl ?_
      show Steps p.tables e below (T4.setTop (mkF m 39 #[.val (.int i0), .val (.int i1), .val (.ref o_FALSE), .val (.int (0 : Int32)), .val (.ref o_TRUE), .val (.int (1 : Int32)), .unset, .unset] [])) _
      refine XS.iloadN X4.here hx rfl (hb hby at_39) rfl ?_
      show Steps p.tables e below (T4.setTop (mkF m 40 #[.val (.int i0), .val (.int i1), .val (.ref o_FALSE), .val (.int (0 : Int32)), .val (.ref o_TRUE), .val (.int (1 : Int32)), .unset, .unset] [(.int (0 : Int32))])) _
      refine st5 _ ?_
      show Steps p.tables e below (T5.setTop (mkF m 43 #[.val (.int i0), .val (.int i1), .val (.ref o_FALSE), .val (.int (0 : Int32)), .val (.ref o_TRUE), .val (.int (1 : Int32)), .unset, .unset] [(.ref o_FALSE)])) _
      refine st6.trans ?_
      show Steps p.tables e below (T6.setTop (mkF m 46 #[.val (.int i0), .val (.int i1), .val (.ref o_FALSE), .val (.int (0 : Int32)), .val (.ref o_TRUE), .val (.int (1 : Int32)), .unset, .unset] [(.ref o_TRUE)])) _
      refine XS.iloadN X6.here hx rfl (hb hby at_46) rfl ?_
      show Steps p.tables e below (T6.setTop (mkF m 47 #[.val (.int i0), .val (.int i1), .val (.ref o_FALSE), .val (.int (0 : Int32)), .val (.ref o_TRUE), .val (.int (1 : Int32)), .unset, .unset] [(.int (0 : Int32)), (.ref o_TRUE)])) _
      refine XS.ifNo X6.here hx rfl (hb hby at_47) rfl ((if0 _ _).trans (teq (by decide : (0 : Int32) = (0 : Int32))).2) ?_
      show Steps p.tables e below (T6.setTop (mkF m 50 #[.val (.int i0), .val (.int i1), .val (.ref o_FALSE), .val (.int (0 : Int32)), .val (.ref o_TRUE), .val (.int (1 : Int32)), .unset, .unset] [(.ref o_TRUE)])) _
      refine XS.iconst X6.here hx rfl (hb hby at_50) ?_
      show Steps p.tables e below (T6.setTop (mkF m 51 #[.val (.int i0), .val (.int i1), .val (.ref o_FALSE), .val (.int (0 : Int32)), .val (.ref o_TRUE), .val (.int (1 : Int32)), .unset, .unset] [(.int (1 : Int32)), (.ref o_TRUE)])) _
      refine XS.goto X6.here hx rfl (pc0 := 51) (pc' := 55) rfl (hb hby at_51) (by decide) (by decide) ?_
      show Steps p.tables e below (T6.setTop (mkF m 55 #[.val (.int i0), .val (.int i1), .val (.ref o_FALSE), .val (.int (0 : Int32)), .val (.ref o_TRUE), .val (.int (1 : Int32)), .unset, .unset] [(.int (1 : Int32)), (.ref o_TRUE)])) _
      refine st7 _ ?_
      show Steps p.tables e below (T7.setTop (mkF m 58 #[.val (.int i0), .val (.int i1), .val (.ref o_FALSE), .val (.int (0 : Int32)), .val (.ref o_TRUE), .val (.int (1 : Int32)), .unset, .unset] [(.ref o_TRUE), (.ref o_TRUE)])) _
      refine Jvm.RoadKit.acmp (g := (mkF m 58 #[.val (.int i0), .val (.int i1), .val (.ref o_FALSE), .val (.int (0 : Int32)), .val (.ref o_TRUE), .val (.int (1 : Int32)), .unset, .unset] [(.ref o_TRUE), (.ref o_TRUE)])) X7 hx rfl rfl rfl (pc0 := 58) (pc' := 61) (same := true) rfl (hb hby at_58) rfl (decide_eq_true rfl) (by decide) (by decide) ?_
      show Steps p.tables e below (T7.setTop (mkF m 61 #[.val (.int i0), .val (.int i1), .val (.ref o_FALSE), .val (.int (0 : Int32)), .val (.ref o_TRUE), .val (.int (1 : Int32)), .unset, .unset] [])) _
      refine XS.iconst X7.here hx rfl (hb hby at_61) ?_
      show Steps p.tables e below (T7.setTop (mkF m 62 #[.val (.int i0), .val (.int i1), .val (.ref o_FALSE), .val (.int (0 : Int32)), .val (.ref o_TRUE), .val (.int (1 : Int32)), .unset, .unset] [(.int (1 : Int32))])) _
      refine XS.goto X7.here hx rfl (pc0 := 62) (pc' := 66) rfl (hb hby at_62) (by decide) (by decide) ?_
      show Steps p.tables e below (T7.setTop (mkF m 66 #[.val (.int i0), .val (.int i1), .val (.ref o_FALSE), .val (.int (0 : Int32)), .val (.ref o_TRUE), .val (.int (1 : Int32)), .unset, .unset] [(.int (1 : Int32))])) _
      refine XS.istore X7.here hx rfl (hb hby at_66) rfl (l' := #[.val (.int i0), .val (.int i1), .val (.ref o_FALSE), .val (.int (0 : Int32)), .val (.ref o_TRUE), .val (.int (1 : Int32)), .val (.int (1 : Int32)), .unset]) rfl ?_
      show Steps p.tables e below (T7.setTop (mkF m 68 #[.val (.int i0), .val (.int i1), .val (.ref o_FALSE), .val (.int (0 : Int32)), .val (.ref o_TRUE), .val (.int (1 : Int32)), .val (.int (1 : Int32)), .unset] [])) _
      refine XS.aload X7.here hx rfl (hb hby at_68) rfl rfl ?_
      show Steps p.tables e below (T7.setTop (mkF m 70 #[.val (.int i0), .val (.int i1), .val (.ref o_FALSE), .val (.int (0 : Int32)), .val (.ref o_TRUE), .val (.int (1 : Int32)), .val (.int (1 : Int32)), .unset] [(.ref o_TRUE)])) _
      refine XS.aloadN X7.here hx rfl (hb hby at_70) rfl rfl ?_
      show Steps p.tables e below (T7.setTop (mkF m 71 #[.val (.int i0), .val (.int i1), .val (.ref o_FALSE), .val (.int (0 : Int32)), .val (.ref o_TRUE), .val (.int (1 : Int32)), .val (.int (1 : Int32)), .unset] [(.ref o_FALSE), (.ref o_TRUE)])) _
      refine Jvm.RoadKit.acmp (g := (mkF m 71 #[.val (.int i0), .val (.int i1), .val (.ref o_FALSE), .val (.int (0 : Int32)), .val (.ref o_TRUE), .val (.int (1 : Int32)), .val (.int (1 : Int32)), .unset] [(.ref o_FALSE), (.ref o_TRUE)])) X7 hx rfl rfl rfl (pc0 := 71) (pc' := 78) (same := false) rfl (hb hby at_71) rfl (decide_eq_false fun q => (Ne.symm ne2) (Value.ref.inj q)) (by decide) (by decide) ?_
      show Steps p.tables e below (T7.setTop (mkF m 78 #[.val (.int i0), .val (.int i1), .val (.ref o_FALSE), .val (.int (0 : Int32)), .val (.ref o_TRUE), .val (.int (1 : Int32)), .val (.int (1 : Int32)), .unset] [])) _
      refine XS.iconst X7.here hx rfl (hb hby at_78) ?_
      show Steps p.tables e below (T7.setTop (mkF m 79 #[.val (.int i0), .val (.int i1), .val (.ref o_FALSE), .val (.int (0 : Int32)), .val (.ref o_TRUE), .val (.int (1 : Int32)), .val (.int (1 : Int32)), .unset] [(.int (0 : Int32))])) _
      refine XS.aloadN X7.here hx rfl (hb hby at_79) rfl rfl ?_
      show Steps p.tables e below (T7.setTop (mkF m 80 #[.val (.int i0), .val (.int i1), .val (.ref o_FALSE), .val (.int (0 : Int32)), .val (.ref o_TRUE), .val (.int (1 : Int32)), .val (.int (1 : Int32)), .unset] [(.ref o_FALSE), (.int (0 : Int32))])) _
      refine st8 _ ?_
      show Steps p.tables e below (T8.setTop (mkF m 83 #[.val (.int i0), .val (.int i1), .val (.ref o_FALSE), .val (.int (0 : Int32)), .val (.ref o_TRUE), .val (.int (1 : Int32)), .val (.int (1 : Int32)), .unset] [(.ref o_UNKNOWN), (.ref o_FALSE), (.int (0 : Int32))])) _
      refine Jvm.RoadKit.acmp (g := (mkF m 83 #[.val (.int i0), .val (.int i1), .val (.ref o_FALSE), .val (.int (0 : Int32)), .val (.ref o_TRUE), .val (.int (1 : Int32)), .val (.int (1 : Int32)), .unset] [(.ref o_UNKNOWN), (.ref o_FALSE), (.int (0 : Int32))])) X8 hx rfl rfl rfl (pc0 := 83) (pc' := 90) (same := false) rfl (hb hby at_83) rfl (decide_eq_false fun q => ne9 (Value.ref.inj q)) (by decide) (by decide) ?_
      show Steps p.tables e below (T8.setTop (mkF m 90 #[.val (.int i0), .val (.int i1), .val (.ref o_FALSE), .val (.int (0 : Int32)), .val (.ref o_TRUE), .val (.int (1 : Int32)), .val (.int (1 : Int32)), .unset] [(.int (0 : Int32))])) _
      refine XS.iconst X8.here hx rfl (hb hby at_90) ?_
      show Steps p.tables e below (T8.setTop (mkF m 91 #[.val (.int i0), .val (.int i1), .val (.ref o_FALSE), .val (.int (0 : Int32)), .val (.ref o_TRUE), .val (.int (1 : Int32)), .val (.int (1 : Int32)), .unset] [(.int (0 : Int32)), (.int (0 : Int32))])) _
      refine XS.icmpNo X8.here hx rfl (hb hby at_91) rfl (teq (by decide : (0 : Int32) = (0 : Int32))).2 ?_
      show Steps p.tables e below (T8.setTop (mkF m 94 #[.val (.int i0), .val (.int i1), .val (.ref o_FALSE), .val (.int (0 : Int32)), .val (.ref o_TRUE), .val (.int (1 : Int32)), .val (.int (1 : Int32)), .unset] [])) _
      refine XS.iconst X8.here hx rfl (hb hby at_94) ?_
      show Steps p.tables e below (T8.setTop (mkF m 95 #[.val (.int i0), .val (.int i1), .val (.ref o_FALSE), .val (.int (0 : Int32)), .val (.ref o_TRUE), .val (.int (1 : Int32)), .val (.int (1 : Int32)), .unset] [(.int (1 : Int32))])) _
      refine XS.goto X8.here hx rfl (pc0 := 95) (pc' := 99) rfl (hb hby at_95) (by decide) (by decide) ?_
      show Steps p.tables e below (T8.setTop (mkF m 99 #[.val (.int i0), .val (.int i1), .val (.ref o_FALSE), .val (.int (0 : Int32)), .val (.ref o_TRUE), .val (.int (1 : Int32)), .val (.int (1 : Int32)), .unset] [(.int (1 : Int32))])) _
      refine XS.istore X8.here hx rfl (hb hby at_99) rfl (l' := #[.val (.int i0), .val (.int i1), .val (.ref o_FALSE), .val (.int (0 : Int32)), .val (.ref o_TRUE), .val (.int (1 : Int32)), .val (.int (1 : Int32)), .val (.int (1 : Int32))]) rfl ?_
      show Steps p.tables e below (T8.setTop (mkF m 101 #[.val (.int i0), .val (.int i1), .val (.ref o_FALSE), .val (.int (0 : Int32)), .val (.ref o_TRUE), .val (.int (1 : Int32)), .val (.int (1 : Int32)), .val (.int (1 : Int32))] [])) _
      refine XS.iload X8.here hx rfl (hb hby at_101) rfl ?_
      show Steps p.tables e below (T8.setTop (mkF m 103 #[.val (.int i0), .val (.int i1), .val (.ref o_FALSE), .val (.int (0 : Int32)), .val (.ref o_TRUE), .val (.int (1 : Int32)), .val (.int (1 : Int32)), .val (.int (1 : Int32))] [(.int (1 : Int32))])) _
      refine XS.ifNo X8.here hx rfl (hb hby at_103) rfl ((if0 _ _).trans (feq (by decide : ¬ ((1 : Int32) = (0 : Int32)))).1) ?_
      show Steps p.tables e below (T8.setTop (mkF m 106 #[.val (.int i0), .val (.int i1), .val (.ref o_FALSE), .val (.int (0 : Int32)), .val (.ref o_TRUE), .val (.int (1 : Int32)), .val (.int (1 : Int32)), .val (.int (1 : Int32))] [])) _
      refine XS.iload X8.here hx rfl (hb hby at_106) rfl ?_
      show Steps p.tables e below (T8.setTop (mkF m 108 #[.val (.int i0), .val (.int i1), .val (.ref o_FALSE), .val (.int (0 : Int32)), .val (.ref o_TRUE), .val (.int (1 : Int32)), .val (.int (1 : Int32)), .val (.int (1 : Int32))] [(.int (1 : Int32))])) _
      refine XS.ifNo X8.here hx rfl (hb hby at_108) rfl ((if0 _ _).trans (feq (by decide : ¬ ((1 : Int32) = (0 : Int32)))).1) ?_
      show Steps p.tables e below (T8.setTop (mkF m 111 #[.val (.int i0), .val (.int i1), .val (.ref o_FALSE), .val (.int (0 : Int32)), .val (.ref o_TRUE), .val (.int (1 : Int32)), .val (.int (1 : Int32)), .val (.int (1 : Int32))] [])) _
      refine XS.iload X8.here hx rfl (hb hby at_111) rfl ?_
      show Steps p.tables e below (T8.setTop (mkF m 113 #[.val (.int i0), .val (.int i1), .val (.ref o_FALSE), .val (.int (0 : Int32)), .val (.ref o_TRUE), .val (.int (1 : Int32)), .val (.int (1 : Int32)), .val (.int (1 : Int32))] [(.int (1 : Int32))])) _
      refine XS.ifNo X8.here hx rfl (hb hby at_113) rfl ((if0 _ _).trans (feq (by decide : ¬ ((1 : Int32) = (0 : Int32)))).1) ?_
      show Steps p.tables e below (T8.setTop (mkF m 116 #[.val (.int i0), .val (.int i1), .val (.ref o_FALSE), .val (.int (0 : Int32)), .val (.ref o_TRUE), .val (.int (1 : Int32)), .val (.int (1 : Int32)), .val (.int (1 : Int32))] [])) _
      refine XS.iconst X8.here hx rfl (hb hby at_116) ?_
      show Steps p.tables e below (T8.setTop (mkF m 117 #[.val (.int i0), .val (.int i1), .val (.ref o_FALSE), .val (.int (0 : Int32)), .val (.ref o_TRUE), .val (.int (1 : Int32)), .val (.int (1 : Int32)), .val (.int (1 : Int32))] [(.int (1 : Int32))])) _
      refine XS.goto X8.here hx rfl (pc0 := 117) (pc' := 121) rfl (hb hby at_117) (by decide) (by decide) ?_
      show Steps p.tables e below (T8.setTop (mkF m 121 #[.val (.int i0), .val (.int i1), .val (.ref o_FALSE), .val (.int (0 : Int32)), .val (.ref o_TRUE), .val (.int (1 : Int32)), .val (.int (1 : Int32)), .val (.int (1 : Int32))] [(.int (1 : Int32))])) _
      exact retN X8 hx (t := .boolean) Bd.returns (by simp) (hb hby at_121) hr
    · have ne2 : o_FALSE ≠ o_TRUE := (F_o_FALSE_ordinal.ne F_o_TRUE_ordinal (fun q => absurd (Value.int.inj q) (by decide)))
      obtain ⟨cq3, kq3, q3a, q3b, q3c⟩ := isOf hZ e1 E_o_FALSE
      obtain ⟨_, _, ⟨T3, L3, k3, n3⟩, -, X3, ⟨Lc3, hQ3, l3, y3, z3⟩, st3⟩ := X1.virtualBack hx (y := (⟨"com/example/erlaubnis/erlaubnis/policy/Truth", "not", "()Lcom/example/erlaubnis/erlaubnis/policy/Truth;"⟩ : MethodName)) (z := (⟨"com/example/erlaubnis/erlaubnis/policy/Truth", "not", "()Lcom/example/erlaubnis/erlaubnis/policy/Truth;"⟩ : MethodName)) hown (mvT hZ (own_w8 hw)) (mvT hZ (own_w9 hw)) (notFace_of_selects (args := #[]) (mvT hZ (own_w11 hw))) (mvT hZ (own_w11 hw)) (mvT hZ (own_w10 hw)) (by decide) (backOf (W := 0) (rm2_3 l Z a0 hw [] o_FALSE o_TRUE h0 n0 Z0 S_o_TRUE ne2 S_o_FALSE) hZ (own_w12 hw) (own_w6 hw) (by decide) (by decide)) q3a q3c (g := (mkF m 18 #[.val (.int i0), .val (.int i1), .val (.ref o_FALSE), .val (.int (1 : Int32)), .unset, .unset, .unset, .unset] [(.ref o_FALSE)])) rfl (by rw [hml]; rfl) (Steps.refl _) (argsL := []) (rest := []) (lenOf pd___Lcom_example_erlaubnis_erlaubnis_policy_Truth_ rfl) rfl (by show 2 * 0 + _ ≤ _; exact Nat.le_of_eq rfl) (hb hby at_18) (fun _ _ => ⟨rfl, e1, (by decide : 0 + 0 ≤ _), (by decide : 0 + 0 ≤ _)⟩)
      dsimp only [Pt.U, Pt.locs, Pt.cells, Pt.slots] at X3 l3 y3 z3 st3 hQ3
      subst l3 y3 z3
      obtain ⟨rfl, N3q, e3⟩ := hQ3
      have N3 := Fr.app N1 N3q
      obtain ⟨cq4, kq4, q4a, q4b, q4c⟩ := isOf hZ e3 E_o_TRUE
      obtain ⟨_, _, ⟨T4, L4, k4, n4⟩, -, X4, ⟨Lc4, hQ4, l4, y4, z4⟩, st4⟩ := X3.virtualBack hx (y := (⟨"com/example/erlaubnis/erlaubnis/policy/Truth", "not", "()Lcom/example/erlaubnis/erlaubnis/policy/Truth;"⟩ : MethodName)) (z := (⟨"com/example/erlaubnis/erlaubnis/policy/Truth", "not", "()Lcom/example/erlaubnis/erlaubnis/policy/Truth;"⟩ : MethodName)) hown (mvT hZ (own_w8 hw)) (mvT hZ (own_w9 hw)) (notFace_of_selects (args := #[]) (mvT hZ (own_w11 hw))) (mvT hZ (own_w11 hw)) (mvT hZ (own_w10 hw)) (by decide) (backOf (W := 0) (rm2_2 l Z a0 hw [] o_TRUE o_FALSE h0 n0 Z0 S_o_TRUE S_o_FALSE) hZ (own_w12 hw) (own_w6 hw) (by decide) (by decide)) q4a q4c (g := (mkF m 25 #[.val (.int i0), .val (.int i1), .val (.ref o_FALSE), .val (.int (1 : Int32)), .val (.ref o_TRUE), .unset, .unset, .unset] [(.ref o_TRUE)])) rfl (by rw [hml]; rfl) (Steps.refl _) (argsL := []) (rest := []) (lenOf pd___Lcom_example_erlaubnis_erlaubnis_policy_Truth_ rfl) rfl (by show 2 * 0 + _ ≤ _; exact Nat.le_of_eq rfl) (hb hby at_25) (fun _ _ => ⟨rfl, e3, (by decide : 0 + 0 ≤ _), (by decide : 0 + 0 ≤ _)⟩)
      dsimp only [Pt.U, Pt.locs, Pt.cells, Pt.slots] at X4 l4 y4 z4 st4 hQ4
      subst l4 y4 z4
      obtain ⟨rfl, N4q, e4⟩ := hQ4
      have N4 := Fr.app N3 N4q
      obtain ⟨_, _, ⟨T5, L5, k5, n5⟩, -, X5, ⟨Lc5, hQ5, l5, y5, z5⟩, st5⟩ := Jvm.LawKit.callS X4 hx (y := (⟨"com/example/erlaubnis/erlaubnis/policy/Truth", "of", "(Z)Lcom/example/erlaubnis/erlaubnis/policy/Truth;"⟩ : MethodName)) hown (mvT hZ (own_w16 hw)) (mvT hZ (own_w17 hw)) (mvT hZ (own_w6 hw)) (mvT hZ (own_w18 hw)) (by decide) (backOf (W := 0) (rm3_5 l Z a0 hw [] o_TRUE h0 n0 Z0 S_o_TRUE) hZ (own_w18 hw) (own_w6 hw) (by decide) (by decide)) (g := (mkF m 40 #[.val (.int i0), .val (.int i1), .val (.ref o_FALSE), .val (.int (1 : Int32)), .val (.ref o_TRUE), .val (.int (1 : Int32)), .unset, .unset] [(.int (1 : Int32))])) rfl (by rw [hml]; rfl) (argsL := [(.int (1 : Int32))]) (rest := []) (lenOf pd__Z_Lcom_example_erlaubnis_erlaubnis_policy_Truth_ rfl) rfl (by show 2 * 0 + _ ≤ _; exact Nat.le_of_eq rfl) (hb hby at_40) (fun _ _ => ⟨rfl, e4, (by decide : 0 + 0 ≤ _), (by decide : 0 + 0 ≤ _)⟩)
      dsimp only [Pt.U, Pt.locs, Pt.cells, Pt.slots] at X5 l5 y5 z5 st5 hQ5
      subst l5 y5 z5
      obtain ⟨rfl, N5q, e5⟩ := hQ5
      have N5 := Fr.app N4 N5q
      obtain ⟨cq6, kq6, q6a, q6b, q6c⟩ := isOf hZ e5 E_o_TRUE
      obtain ⟨_, _, ⟨T6, L6, k6, n6⟩, -, X6, ⟨Lc6, hQ6, l6, y6, z6⟩, st6⟩ := X5.virtualBack hx (y := (⟨"com/example/erlaubnis/erlaubnis/policy/Truth", "not", "()Lcom/example/erlaubnis/erlaubnis/policy/Truth;"⟩ : MethodName)) (z := (⟨"com/example/erlaubnis/erlaubnis/policy/Truth", "not", "()Lcom/example/erlaubnis/erlaubnis/policy/Truth;"⟩ : MethodName)) hown (mvT hZ (own_w8 hw)) (mvT hZ (own_w9 hw)) (notFace_of_selects (args := #[]) (mvT hZ (own_w11 hw))) (mvT hZ (own_w11 hw)) (mvT hZ (own_w10 hw)) (by decide) (backOf (W := 0) (rm2_2 l Z a0 hw [] o_TRUE o_FALSE h0 n0 Z0 S_o_TRUE S_o_FALSE) hZ (own_w12 hw) (own_w6 hw) (by decide) (by decide)) q6a q6c (g := (mkF m 43 #[.val (.int i0), .val (.int i1), .val (.ref o_FALSE), .val (.int (1 : Int32)), .val (.ref o_TRUE), .val (.int (1 : Int32)), .unset, .unset] [(.ref o_TRUE)])) rfl (by rw [hml]; rfl) (Steps.refl _) (argsL := []) (rest := []) (lenOf pd___Lcom_example_erlaubnis_erlaubnis_policy_Truth_ rfl) rfl (by show 2 * 0 + _ ≤ _; exact Nat.le_of_eq rfl) (hb hby at_43) (fun _ _ => ⟨rfl, e5, (by decide : 0 + 0 ≤ _), (by decide : 0 + 0 ≤ _)⟩)
      dsimp only [Pt.U, Pt.locs, Pt.cells, Pt.slots] at X6 l6 y6 z6 st6 hQ6
      subst l6 y6 z6
      obtain ⟨rfl, N6q, e6⟩ := hQ6
      have N6 := Fr.app N5 N6q
      obtain ⟨_, _, ⟨T7, L7, k7, n7⟩, -, X7, ⟨Lc7, hQ7, l7, y7, z7⟩, st7⟩ := Jvm.LawKit.callS X6 hx (y := (⟨"com/example/erlaubnis/erlaubnis/policy/Truth", "of", "(Z)Lcom/example/erlaubnis/erlaubnis/policy/Truth;"⟩ : MethodName)) hown (mvT hZ (own_w16 hw)) (mvT hZ (own_w17 hw)) (mvT hZ (own_w6 hw)) (mvT hZ (own_w18 hw)) (by decide) (backOf (W := 1) (rm3_4 l Z a0 hw [] o_FALSE h0 n0 Z0 S_o_FALSE) hZ (own_w18 hw) (own_w6 hw) (by decide) (by decide)) (g := (mkF m 55 #[.val (.int i0), .val (.int i1), .val (.ref o_FALSE), .val (.int (1 : Int32)), .val (.ref o_TRUE), .val (.int (1 : Int32)), .unset, .unset] [(.int (0 : Int32)), (.ref o_FALSE)])) rfl (by rw [hml]; rfl) (argsL := [(.int (0 : Int32))]) (rest := [(.ref o_FALSE)]) (lenOf pd__Z_Lcom_example_erlaubnis_erlaubnis_policy_Truth_ rfl) rfl (by show 2 * 0 + _ ≤ _; exact Nat.le_of_eq rfl) (hb hby at_55) (fun _ _ => ⟨rfl, e6, (by decide : 0 + 0 ≤ _), (by decide : 0 + 0 ≤ _)⟩)
      dsimp only [Pt.U, Pt.locs, Pt.cells, Pt.slots] at X7 l7 y7 z7 st7 hQ7
      subst l7 y7 z7
      obtain ⟨rfl, N7q, e7⟩ := hQ7
      have N7 := Fr.app N6 N7q
      obtain ⟨T8, X8, e8, st8⟩ := getS2 X7 hx hZ hown (host := "") (Or.inl (own_w19 hw)) Via.refl e7 S_o_UNKNOWN (g := (mkF m 80 #[.val (.int i0), .val (.int i1), .val (.ref o_FALSE), .val (.int (1 : Int32)), .val (.ref o_TRUE), .val (.int (1 : Int32)), .val (.int (1 : Int32)), .unset] [(.ref o_FALSE), (.int (0 : Int32))])) rfl (hb hby at_80)
      have ne9 : o_FALSE ≠ o_UNKNOWN := (F_o_FALSE_ordinal.ne F_o_UNKNOWN_ordinal (fun q => absurd (Value.int.inj q) (by decide)))
      obtain ⟨fs, hr, hrun, hended, hW, hsame⟩ := X8.leave (v := some (.int (1 : Int32))) (fun h => by rw [Bd.returns] at h; cases h)
      refine ⟨_, _, pre3 _ ?_, hrun, hended, _, _, rfl, ⟨rfl, N7⟩, ⟨_, rfl⟩, hW, hsame.mono (by decide) (by decide)⟩
      show Steps p.tables e below (T1.setTop (mkF m 8 #[.val (.int i0), .val (.int i1), .val (.ref o_FALSE), .unset, .unset, .unset, .unset, .unset] [(.int (i1 &&& (1 : Int32)))])) _
      rw [he1]
      show Steps p.tables e below (T1.setTop (mkF m 8 #[.val (.int i0), .val (.int i1), .val (.ref o_FALSE), .unset, .unset, .unset, .unset, .unset] [(.int (1 : Int32))])) _
      refine XS.ifNo X1.here hx rfl (hb hby at_8) rfl ((if0 _ _).trans (feq (by decide : ¬ ((1 : Int32) = (0 : Int32)))).1) ?_
      show Steps p.tables e below (T1.setTop (mkF m 11 #[.val (.int i0), .val (.int i1), .val (.ref o_FALSE), .unset, .unset, .unset, .unset, .unset] [])) _
      refine XS.iconst X1.here hx rfl (hb hby at_11) ?_
      show Steps p.tables e below (T1.setTop (mkF m 12 #[.val (.int i0), .val (.int i1), .val (.ref o_FALSE), .unset, .unset, .unset, .unset, .unset] [(.int (1 : Int32))])) _
      refine XS.goto X1.here hx rfl (pc0 := 12) (pc' := 16) rfl (hb hby at_12) (by decide) (by decide) ?_
      show Steps p.tables e below (T1.setTop (mkF m 16 #[.val (.int i0), .val (.int i1), .val (.ref o_FALSE), .unset, .unset, .unset, .unset, .unset] [(.int (1 : Int32))])) _
      refine XS.istoreN X1.here hx rfl (hb hby at_16) rfl (l' := #[.val (.int i0), .val (.int i1), .val (.ref o_FALSE), .val (.int (1 : Int32)), .unset, .unset, .unset, .unset]) rfl ?_
      show Steps p.tables e below (T1.setTop (mkF m 17 #[.val (.int i0), .val (.int i1), .val (.ref o_FALSE), .val (.int (1 : Int32)), .unset, .unset, .unset, .unset] [])) _
      refine XS.aloadN X1.here hx rfl (hb hby at_17) rfl rfl ?_
      show Steps p.tables e below (T1.setTop (mkF m 18 #[.val (.int i0), .val (.int i1), .val (.ref o_FALSE), .val (.int (1 : Int32)), .unset, .unset, .unset, .unset] [(.ref o_FALSE)])) _
      refine st3.trans ?_
      show Steps p.tables e below (T3.setTop (mkF m 21 #[.val (.int i0), .val (.int i1), .val (.ref o_FALSE), .val (.int (1 : Int32)), .unset, .unset, .unset, .unset] [(.ref o_TRUE)])) _
      refine XS.astore X3.here hx rfl (hb hby at_21) rfl rfl (l' := #[.val (.int i0), .val (.int i1), .val (.ref o_FALSE), .val (.int (1 : Int32)), .val (.ref o_TRUE), .unset, .unset, .unset]) rfl ?_
      show Steps p.tables e below (T3.setTop (mkF m 23 #[.val (.int i0), .val (.int i1), .val (.ref o_FALSE), .val (.int (1 : Int32)), .val (.ref o_TRUE), .unset, .unset, .unset] [])) _
      refine XS.aload X3.here hx rfl (hb hby at_23) rfl rfl ?_
      show Steps p.tables e below (T3.setTop (mkF m 25 #[.val (.int i0), .val (.int i1), .val (.ref o_FALSE), .val (.int (1 : Int32)), .val (.ref o_TRUE), .unset, .unset, .unset] [(.ref o_TRUE)])) _
      refine st4.trans ?_
      show Steps p.tables e below (T4.setTop (mkF m 28 #[.val (.int i0), .val (.int i1), .val (.ref o_FALSE), .val (.int (1 : Int32)), .val (.ref o_TRUE), .unset, .unset, .unset] [(.ref o_FALSE)])) _
      refine XS.aloadN X4.here hx rfl (hb hby at_28) rfl rfl ?_
      show Steps p.tables e below (T4.setTop (mkF m 29 #[.val (.int i0), .val (.int i1), .val (.ref o_FALSE), .val (.int (1 : Int32)), .val (.ref o_TRUE), .unset, .unset, .unset] [(.ref o_FALSE), (.ref o_FALSE)])) _
      refine Jvm.RoadKit.acmp (g := (mkF m 29 #[.val (.int i0), .val (.int i1), .val (.ref o_FALSE), .val (.int (1 : Int32)), .val (.ref o_TRUE), .unset, .unset, .unset] [(.ref o_FALSE), (.ref o_FALSE)])) X4 hx rfl rfl rfl (pc0 := 29) (pc' := 32) (same := true) rfl (hb hby at_29) rfl (decide_eq_true rfl) (by decide) (by decide) ?_
      show Steps p.tables e below (T4.setTop (mkF m 32 #[.val (.int i0), .val (.int i1), .val (.ref o_FALSE), .val (.int (1 : Int32)), .val (.ref o_TRUE), .unset, .unset, .unset] [])) _
      refine XS.iconst X4.here hx rfl (hb hby at_32) ?_
      show Steps p.tables e below (T4.setTop (mkF m 33 #[.val (.int i0), .val (.int i1), .val (.ref o_FALSE), .val (.int (1 : Int32)), .val (.ref o_TRUE), .unset, .unset, .unset] [(.int (1 : Int32))])) _
      refine XS.goto X4.here hx rfl (pc0 := 33) (pc' := 37) rfl (hb hby at_33) (by decide) (by decide) ?_
      show Steps p.tables e below (T4.setTop (mkF m 37 #[.val (.int i0), .val (.int i1), .val (.ref o_FALSE), .val (.int (1 : Int32)), .val (.ref o_TRUE), .unset, .unset, .unset] [(.int (1 : Int32))])) _
      refine XS.istore X4.here hx rfl (hb hby at_37) rfl (l' := #[.val (.int i0), .val (.int i1), .val (.ref o_FALSE), .val (.int (1 : Int32)), .val (.ref o_TRUE), .val (.int (1 : Int32)), .unset, .unset]) rfl ?_
      show Steps p.tables e below (T4.setTop (mkF m 39 #[.val (.int i0), .val (.int i1), .val (.ref o_FALSE), .val (.int (1 : Int32)), .val (.ref o_TRUE), .val (.int (1 : Int32)), .unset, .unset] [])) _
      refine XS.iloadN X4.here hx rfl (hb hby at_39) rfl ?_
      show Steps p.tables e below (T4.setTop (mkF m 40 #[.val (.int i0), .val (.int i1), .val (.ref o_FALSE), .val (.int (1 : Int32)), .val (.ref o_TRUE), .val (.int (1 : Int32)), .unset, .unset] [(.int (1 : Int32))])) _
      refine st5 _ ?_
      show Steps p.tables e below (T5.setTop (mkF m 43 #[.val (.int i0), .val (.int i1), .val (.ref o_FALSE), .val (.int (1 : Int32)), .val (.ref o_TRUE), .val (.int (1 : Int32)), .unset, .unset] [(.ref o_TRUE)])) _
      refine st6.trans ?_
      show Steps p.tables e below (T6.setTop (mkF m 46 #[.val (.int i0), .val (.int i1), .val (.ref o_FALSE), .val (.int (1 : Int32)), .val (.ref o_TRUE), .val (.int (1 : Int32)), .unset, .unset] [(.ref o_FALSE)])) _
      refine XS.iloadN X6.here hx rfl (hb hby at_46) rfl ?_
      show Steps p.tables e below (T6.setTop (mkF m 47 #[.val (.int i0), .val (.int i1), .val (.ref o_FALSE), .val (.int (1 : Int32)), .val (.ref o_TRUE), .val (.int (1 : Int32)), .unset, .unset] [(.int (1 : Int32)), (.ref o_FALSE)])) _
      refine XS.ifYes X6.here hx rfl (pc0 := 47) (pc' := 54) rfl (hb hby at_47) rfl ((if0 _ _).trans (feq (by decide : ¬ ((1 : Int32) = (0 : Int32)))).2) (by decide) (by decide) ?_
      show Steps p.tables e below (T6.setTop (mkF m 54 #[.val (.int i0), .val (.int i1), .val (.ref o_FALSE), .val (.int (1 : Int32)), .val (.ref o_TRUE), .val (.int (1 : Int32)), .unset, .unset] [(.ref o_FALSE)])) _
      refine XS.iconst X6.here hx rfl (hb hby at_54) ?_
      show Steps p.tables e below (T6.setTop (mkF m 55 #[.val (.int i0), .val (.int i1), .val (.ref o_FALSE), .val (.int (1 : Int32)), .val (.ref o_TRUE), .val (.int (1 : Int32)), .unset, .unset] [(.int (0 : Int32)), (.ref o_FALSE)])) _
      refine st7 _ ?_
      show Steps p.tables e below (T7.setTop (mkF m 58 #[.val (.int i0), .val (.int i1), .val (.ref o_FALSE), .val (.int (1 : Int32)), .val (.ref o_TRUE), .val (.int (1 : Int32)), .unset, .unset] [(.ref o_FALSE), (.ref o_FALSE)])) _
      refine Jvm.RoadKit.acmp (g := (mkF m 58 #[.val (.int i0), .val (.int i1), .val (.ref o_FALSE), .val (.int (1 : Int32)), .val (.ref o_TRUE), .val (.int (1 : Int32)), .unset, .unset] [(.ref o_FALSE), (.ref o_FALSE)])) X7 hx rfl rfl rfl (pc0 := 58) (pc' := 61) (same := true) rfl (hb hby at_58) rfl (decide_eq_true rfl) (by decide) (by decide) ?_
      show Steps p.tables e below (T7.setTop (mkF m 61 #[.val (.int i0), .val (.int i1), .val (.ref o_FALSE), .val (.int (1 : Int32)), .val (.ref o_TRUE), .val (.int (1 : Int32)), .unset, .unset] [])) _
      refine XS.iconst X7.here hx rfl (hb hby at_61) ?_
      show Steps p.tables e below (T7.setTop (mkF m 62 #[.val (.int i0), .val (.int i1), .val (.ref o_FALSE), .val (.int (1 : Int32)), .val (.ref o_TRUE), .val (.int (1 : Int32)), .unset, .unset] [(.int (1 : Int32))])) _
      refine XS.goto X7.here hx rfl (pc0 := 62) (pc' := 66) rfl (hb hby at_62) (by decide) (by decide) ?_
      show Steps p.tables e below (T7.setTop (mkF m 66 #[.val (.int i0), .val (.int i1), .val (.ref o_FALSE), .val (.int (1 : Int32)), .val (.ref o_TRUE), .val (.int (1 : Int32)), .unset, .unset] [(.int (1 : Int32))])) _
      refine XS.istore X7.here hx rfl (hb hby at_66) rfl (l' := #[.val (.int i0), .val (.int i1), .val (.ref o_FALSE), .val (.int (1 : Int32)), .val (.ref o_TRUE), .val (.int (1 : Int32)), .val (.int (1 : Int32)), .unset]) rfl ?_
      show Steps p.tables e below (T7.setTop (mkF m 68 #[.val (.int i0), .val (.int i1), .val (.ref o_FALSE), .val (.int (1 : Int32)), .val (.ref o_TRUE), .val (.int (1 : Int32)), .val (.int (1 : Int32)), .unset] [])) _
      refine XS.aload X7.here hx rfl (hb hby at_68) rfl rfl ?_
      show Steps p.tables e below (T7.setTop (mkF m 70 #[.val (.int i0), .val (.int i1), .val (.ref o_FALSE), .val (.int (1 : Int32)), .val (.ref o_TRUE), .val (.int (1 : Int32)), .val (.int (1 : Int32)), .unset] [(.ref o_TRUE)])) _
      refine XS.aloadN X7.here hx rfl (hb hby at_70) rfl rfl ?_
      show Steps p.tables e below (T7.setTop (mkF m 71 #[.val (.int i0), .val (.int i1), .val (.ref o_FALSE), .val (.int (1 : Int32)), .val (.ref o_TRUE), .val (.int (1 : Int32)), .val (.int (1 : Int32)), .unset] [(.ref o_FALSE), (.ref o_TRUE)])) _
      refine Jvm.RoadKit.acmp (g := (mkF m 71 #[.val (.int i0), .val (.int i1), .val (.ref o_FALSE), .val (.int (1 : Int32)), .val (.ref o_TRUE), .val (.int (1 : Int32)), .val (.int (1 : Int32)), .unset] [(.ref o_FALSE), (.ref o_TRUE)])) X7 hx rfl rfl rfl (pc0 := 71) (pc' := 78) (same := false) rfl (hb hby at_71) rfl (decide_eq_false fun q => (Ne.symm ne2) (Value.ref.inj q)) (by decide) (by decide) ?_
      show Steps p.tables e below (T7.setTop (mkF m 78 #[.val (.int i0), .val (.int i1), .val (.ref o_FALSE), .val (.int (1 : Int32)), .val (.ref o_TRUE), .val (.int (1 : Int32)), .val (.int (1 : Int32)), .unset] [])) _
      refine XS.iconst X7.here hx rfl (hb hby at_78) ?_
      show Steps p.tables e below (T7.setTop (mkF m 79 #[.val (.int i0), .val (.int i1), .val (.ref o_FALSE), .val (.int (1 : Int32)), .val (.ref o_TRUE), .val (.int (1 : Int32)), .val (.int (1 : Int32)), .unset] [(.int (0 : Int32))])) _
      refine XS.aloadN X7.here hx rfl (hb hby at_79) rfl rfl ?_
      show Steps p.tables e below (T7.setTop (mkF m 80 #[.val (.int i0), .val (.int i1), .val (.ref o_FALSE), .val (.int (1 : Int32)), .val (.ref o_TRUE), .val (.int (1 : Int32)), .val (.int (1 : Int32)), .unset] [(.ref o_FALSE), (.int (0 : Int32))])) _
      refine st8 _ ?_
      show Steps p.tables e below (T8.setTop (mkF m 83 #[.val (.int i0), .val (.int i1), .val (.ref o_FALSE), .val (.int (1 : Int32)), .val (.ref o_TRUE), .val (.int (1 : Int32)), .val (.int (1 : Int32)), .unset] [(.ref o_UNKNOWN), (.ref o_FALSE), (.int (0 : Int32))])) _
      refine Jvm.RoadKit.acmp (g := (mkF m 83 #[.val (.int i0), .val (.int i1), .val (.ref o_FALSE), .val (.int (1 : Int32)), .val (.ref o_TRUE), .val (.int (1 : Int32)), .val (.int (1 : Int32)), .unset] [(.ref o_UNKNOWN), (.ref o_FALSE), (.int (0 : Int32))])) X8 hx rfl rfl rfl (pc0 := 83) (pc' := 90) (same := false) rfl (hb hby at_83) rfl (decide_eq_false fun q => ne9 (Value.ref.inj q)) (by decide) (by decide) ?_
      show Steps p.tables e below (T8.setTop (mkF m 90 #[.val (.int i0), .val (.int i1), .val (.ref o_FALSE), .val (.int (1 : Int32)), .val (.ref o_TRUE), .val (.int (1 : Int32)), .val (.int (1 : Int32)), .unset] [(.int (0 : Int32))])) _
      refine XS.iconst X8.here hx rfl (hb hby at_90) ?_
      show Steps p.tables e below (T8.setTop (mkF m 91 #[.val (.int i0), .val (.int i1), .val (.ref o_FALSE), .val (.int (1 : Int32)), .val (.ref o_TRUE), .val (.int (1 : Int32)), .val (.int (1 : Int32)), .unset] [(.int (0 : Int32)), (.int (0 : Int32))])) _
      refine XS.icmpNo X8.here hx rfl (hb hby at_91) rfl (teq (by decide : (0 : Int32) = (0 : Int32))).2 ?_
      show Steps p.tables e below (T8.setTop (mkF m 94 #[.val (.int i0), .val (.int i1), .val (.ref o_FALSE), .val (.int (1 : Int32)), .val (.ref o_TRUE), .val (.int (1 : Int32)), .val (.int (1 : Int32)), .unset] [])) _
      refine XS.iconst X8.here hx rfl (hb hby at_94) ?_
      show Steps p.tables e below (T8.setTop (mkF m 95 #[.val (.int i0), .val (.int i1), .val (.ref o_FALSE), .val (.int (1 : Int32)), .val (.ref o_TRUE), .val (.int (1 : Int32)), .val (.int (1 : Int32)), .unset] [(.int (1 : Int32))])) _
      refine XS.goto X8.here hx rfl (pc0 := 95) (pc' := 99) rfl (hb hby at_95) (by decide) (by decide) ?_
      show Steps p.tables e below (T8.setTop (mkF m 99 #[.val (.int i0), .val (.int i1), .val (.ref o_FALSE), .val (.int (1 : Int32)), .val (.ref o_TRUE), .val (.int (1 : Int32)), .val (.int (1 : Int32)), .unset] [(.int (1 : Int32))])) _
      refine XS.istore X8.here hx rfl (hb hby at_99) rfl (l' := #[.val (.int i0), .val (.int i1), .val (.ref o_FALSE), .val (.int (1 : Int32)), .val (.ref o_TRUE), .val (.int (1 : Int32)), .val (.int (1 : Int32)), .val (.int (1 : Int32))]) rfl ?_
      show Steps p.tables e below (T8.setTop (mkF m 101 #[.val (.int i0), .val (.int i1), .val (.ref o_FALSE), .val (.int (1 : Int32)), .val (.ref o_TRUE), .val (.int (1 : Int32)), .val (.int (1 : Int32)), .val (.int (1 : Int32))] [])) _
      refine XS.iload X8.here hx rfl (hb hby at_101) rfl ?_
      show Steps p.tables e below (T8.setTop (mkF m 103 #[.val (.int i0), .val (.int i1), .val (.ref o_FALSE), .val (.int (1 : Int32)), .val (.ref o_TRUE), .val (.int (1 : Int32)), .val (.int (1 : Int32)), .val (.int (1 : Int32))] [(.int (1 : Int32))])) _
      refine XS.ifNo X8.here hx rfl (hb hby at_103) rfl ((if0 _ _).trans (feq (by decide : ¬ ((1 : Int32) = (0 : Int32)))).1) ?_
      show Steps p.tables e below (T8.setTop (mkF m 106 #[.val (.int i0), .val (.int i1), .val (.ref o_FALSE), .val (.int (1 : Int32)), .val (.ref o_TRUE), .val (.int (1 : Int32)), .val (.int (1 : Int32)), .val (.int (1 : Int32))] [])) _
      refine XS.iload X8.here hx rfl (hb hby at_106) rfl ?_
      show Steps p.tables e below (T8.setTop (mkF m 108 #[.val (.int i0), .val (.int i1), .val (.ref o_FALSE), .val (.int (1 : Int32)), .val (.ref o_TRUE), .val (.int (1 : Int32)), .val (.int (1 : Int32)), .val (.int (1 : Int32))] [(.int (1 : Int32))])) _
      refine XS.ifNo X8.here hx rfl (hb hby at_108) rfl ((if0 _ _).trans (feq (by decide : ¬ ((1 : Int32) = (0 : Int32)))).1) ?_
      show Steps p.tables e below (T8.setTop (mkF m 111 #[.val (.int i0), .val (.int i1), .val (.ref o_FALSE), .val (.int (1 : Int32)), .val (.ref o_TRUE), .val (.int (1 : Int32)), .val (.int (1 : Int32)), .val (.int (1 : Int32))] [])) _
      refine XS.iload X8.here hx rfl (hb hby at_111) rfl ?_
      show Steps p.tables e below (T8.setTop (mkF m 113 #[.val (.int i0), .val (.int i1), .val (.ref o_FALSE), .val (.int (1 : Int32)), .val (.ref o_TRUE), .val (.int (1 : Int32)), .val (.int (1 : Int32)), .val (.int (1 : Int32))] [(.int (1 : Int32))])) _
      refine XS.ifNo X8.here hx rfl (hb hby at_113) rfl ((if0 _ _).trans (feq (by decide : ¬ ((1 : Int32) = (0 : Int32)))).1) ?_
      show Steps p.tables e below (T8.setTop (mkF m 116 #[.val (.int i0), .val (.int i1), .val (.ref o_FALSE), .val (.int (1 : Int32)), .val (.ref o_TRUE), .val (.int (1 : Int32)), .val (.int (1 : Int32)), .val (.int (1 : Int32))] [])) _
      refine XS.iconst X8.here hx rfl (hb hby at_116) ?_
      show Steps p.tables e below (T8.setTop (mkF m 117 #[.val (.int i0), .val (.int i1), .val (.ref o_FALSE), .val (.int (1 : Int32)), .val (.ref o_TRUE), .val (.int (1 : Int32)), .val (.int (1 : Int32)), .val (.int (1 : Int32))] [(.int (1 : Int32))])) _
      refine XS.goto X8.here hx rfl (pc0 := 117) (pc' := 121) rfl (hb hby at_117) (by decide) (by decide) ?_
      show Steps p.tables e below (T8.setTop (mkF m 121 #[.val (.int i0), .val (.int i1), .val (.ref o_FALSE), .val (.int (1 : Int32)), .val (.ref o_TRUE), .val (.int (1 : Int32)), .val (.int (1 : Int32)), .val (.int (1 : Int32))] [(.int (1 : Int32))])) _
      exact retN X8 hx (t := .boolean) Bd.returns (by simp) (hb hby at_121) hr
  · obtain ⟨_, _, ⟨T1, L1, k1, n1⟩, -, X1, ⟨Lc1, hQ1, l1, y1, z1⟩, st1⟩ := Jvm.LawKit.callS X0 hx (y := (⟨"com/example/erlaubnis/erlaubnis/policy/TruthNotPinLaw", "pick", "(I)Lcom/example/erlaubnis/erlaubnis/policy/Truth;"⟩ : MethodName)) hown (mvT hZ (own_w0 hw)) (mvT hZ (own_w1 hw)) (mvT hZ (own_w2 hw)) (mvT hZ (own_w3 hw)) (by decide) (backOf (W := 0) (rm1_7 l Z a0 hw [] i0 o_UNKNOWN h0 n0 Z0 he0 S_o_UNKNOWN) hZ (own_w3 hw) (own_w2 hw) (by decide) (by decide)) (g := (mkF m 1 #[.val (.int i0), .val (.int i1), .unset, .unset, .unset, .unset, .unset, .unset] [(.int i0)])) rfl (by rw [hml]; rfl) (argsL := [(.int i0)]) (rest := []) (lenOf pd__I_Lcom_example_erlaubnis_erlaubnis_policy_Truth_ rfl) rfl (by show 2 * 0 + _ ≤ _; exact Nat.le_of_eq rfl) (hb hby at_1) (fun _ _ => ⟨rfl, e0, (by decide : 0 + 0 ≤ _), (by decide : 0 + 0 ≤ _)⟩)
    dsimp only [Pt.U, Pt.locs, Pt.cells, Pt.slots] at X1 l1 y1 z1 st1 hQ1
    subst l1 y1 z1
    obtain ⟨rfl, N1q, e1⟩ := hQ1
    have N1 := Fr.app N0 N1q
    have pre4 : ∀ t, Steps p.tables e below (T1.setTop (mkF m 8 #[.val (.int i0), .val (.int i1), .val (.ref o_UNKNOWN), .unset, .unset, .unset, .unset, .unset] [(.int (i1 &&& (1 : Int32)))])) t → Steps p.tables e below (s₁.setTop (entryFrame m #[(.int i0), (.int i1)] maxLocals)) t := fun t kk => pre1 t (by
      show Steps p.tables e below (s₁.setTop (mkF m 1 #[.val (.int i0), .val (.int i1), .unset, .unset, .unset, .unset, .unset, .unset] [(.int i0)])) _
      refine st1 _ ?_
      show Steps p.tables e below (T1.setTop (mkF m 4 #[.val (.int i0), .val (.int i1), .unset, .unset, .unset, .unset, .unset, .unset] [(.ref o_UNKNOWN)])) _
      refine XS.astoreN X1.here hx rfl (hb hby at_4) rfl rfl (l' := #[.val (.int i0), .val (.int i1), .val (.ref o_UNKNOWN), .unset, .unset, .unset, .unset, .unset]) rfl ?_
      show Steps p.tables e below (T1.setTop (mkF m 5 #[.val (.int i0), .val (.int i1), .val (.ref o_UNKNOWN), .unset, .unset, .unset, .unset, .unset] [])) _
      refine XS.iloadN X1.here hx rfl (hb hby at_5) rfl ?_
      show Steps p.tables e below (T1.setTop (mkF m 6 #[.val (.int i0), .val (.int i1), .val (.ref o_UNKNOWN), .unset, .unset, .unset, .unset, .unset] [(.int i1)])) _
      refine XS.iconst X1.here hx rfl (hb hby at_6) ?_
      show Steps p.tables e below (T1.setTop (mkF m 7 #[.val (.int i0), .val (.int i1), .val (.ref o_UNKNOWN), .unset, .unset, .unset, .unset, .unset] [(.int (1 : Int32)), (.int i1)])) _
      refine XS.iand X1.here hx rfl (hb hby at_7) rfl ?_
      show Steps p.tables e below (T1.setTop (mkF m 8 #[.val (.int i0), .val (.int i1), .val (.ref o_UNKNOWN), .unset, .unset, .unset, .unset, .unset] [(.int (i1 &&& (1 : Int32)))])) _
      exact kk)
    rcases own_bit i1 with he1 | he1
    · have ne2 : o_UNKNOWN ≠ o_TRUE := (F_o_UNKNOWN_ordinal.ne F_o_TRUE_ordinal (fun q => absurd (Value.int.inj q) (by decide)))
      have ne3 : o_UNKNOWN ≠ o_FALSE := (F_o_UNKNOWN_ordinal.ne F_o_FALSE_ordinal (fun q => absurd (Value.int.inj q) (by decide)))
      obtain ⟨cq4, kq4, q4a, q4b, q4c⟩ := isOf hZ e1 E_o_UNKNOWN
      obtain ⟨_, _, ⟨T4, L4, k4, n4⟩, -, X4, ⟨Lc4, hQ4, l4, y4, z4⟩, st4⟩ := X1.virtualBack hx (y := (⟨"com/example/erlaubnis/erlaubnis/policy/Truth", "not", "()Lcom/example/erlaubnis/erlaubnis/policy/Truth;"⟩ : MethodName)) (z := (⟨"com/example/erlaubnis/erlaubnis/policy/Truth", "not", "()Lcom/example/erlaubnis/erlaubnis/policy/Truth;"⟩ : MethodName)) hown (mvT hZ (own_w8 hw)) (mvT hZ (own_w9 hw)) (notFace_of_selects (args := #[]) (mvT hZ (own_w11 hw))) (mvT hZ (own_w11 hw)) (mvT hZ (own_w10 hw)) (by decide) (backOf (W := 0) (rm2_8 l Z a0 hw [] o_UNKNOWN o_TRUE o_FALSE h0 n0 Z0 S_o_TRUE ne2 S_o_FALSE ne3 S_o_UNKNOWN) hZ (own_w12 hw) (own_w6 hw) (by decide) (by decide)) q4a q4c (g := (mkF m 18 #[.val (.int i0), .val (.int i1), .val (.ref o_UNKNOWN), .val (.int (0 : Int32)), .unset, .unset, .unset, .unset] [(.ref o_UNKNOWN)])) rfl (by rw [hml]; rfl) (Steps.refl _) (argsL := []) (rest := []) (lenOf pd___Lcom_example_erlaubnis_erlaubnis_policy_Truth_ rfl) rfl (by show 2 * 0 + _ ≤ _; exact Nat.le_of_eq rfl) (hb hby at_18) (fun _ _ => ⟨rfl, e1, (by decide : 0 + 0 ≤ _), (by decide : 0 + 0 ≤ _)⟩)
      dsimp only [Pt.U, Pt.locs, Pt.cells, Pt.slots] at X4 l4 y4 z4 st4 hQ4
      subst l4 y4 z4
      obtain ⟨rfl, N4q, e4⟩ := hQ4
      have N4 := Fr.app N1 N4q
      obtain ⟨cq5, kq5, q5a, q5b, q5c⟩ := isOf hZ e4 E_o_UNKNOWN
      obtain ⟨_, _, ⟨T5, L5, k5, n5⟩, -, X5, ⟨Lc5, hQ5, l5, y5, z5⟩, st5⟩ := X4.virtualBack hx (y := (⟨"com/example/erlaubnis/erlaubnis/policy/Truth", "not", "()Lcom/example/erlaubnis/erlaubnis/policy/Truth;"⟩ : MethodName)) (z := (⟨"com/example/erlaubnis/erlaubnis/policy/Truth", "not", "()Lcom/example/erlaubnis/erlaubnis/policy/Truth;"⟩ : MethodName)) hown (mvT hZ (own_w8 hw)) (mvT hZ (own_w9 hw)) (notFace_of_selects (args := #[]) (mvT hZ (own_w11 hw))) (mvT hZ (own_w11 hw)) (mvT hZ (own_w10 hw)) (by decide) (backOf (W := 0) (rm2_8 l Z a0 hw [] o_UNKNOWN o_TRUE o_FALSE h0 n0 Z0 S_o_TRUE ne2 S_o_FALSE ne3 S_o_UNKNOWN) hZ (own_w12 hw) (own_w6 hw) (by decide) (by decide)) q5a q5c (g := (mkF m 25 #[.val (.int i0), .val (.int i1), .val (.ref o_UNKNOWN), .val (.int (0 : Int32)), .val (.ref o_UNKNOWN), .unset, .unset, .unset] [(.ref o_UNKNOWN)])) rfl (by rw [hml]; rfl) (Steps.refl _) (argsL := []) (rest := []) (lenOf pd___Lcom_example_erlaubnis_erlaubnis_policy_Truth_ rfl) rfl (by show 2 * 0 + _ ≤ _; exact Nat.le_of_eq rfl) (hb hby at_25) (fun _ _ => ⟨rfl, e4, (by decide : 0 + 0 ≤ _), (by decide : 0 + 0 ≤ _)⟩)
      dsimp only [Pt.U, Pt.locs, Pt.cells, Pt.slots] at X5 l5 y5 z5 st5 hQ5
      subst l5 y5 z5
      obtain ⟨rfl, N5q, e5⟩ := hQ5
      have N5 := Fr.app N4 N5q
      obtain ⟨_, _, ⟨T6, L6, k6, n6⟩, -, X6, ⟨Lc6, hQ6, l6, y6, z6⟩, st6⟩ := Jvm.LawKit.callS X5 hx (y := (⟨"com/example/erlaubnis/erlaubnis/policy/Truth", "of", "(Z)Lcom/example/erlaubnis/erlaubnis/policy/Truth;"⟩ : MethodName)) hown (mvT hZ (own_w16 hw)) (mvT hZ (own_w17 hw)) (mvT hZ (own_w6 hw)) (mvT hZ (own_w18 hw)) (by decide) (backOf (W := 0) (rm3_4 l Z a0 hw [] o_FALSE h0 n0 Z0 S_o_FALSE) hZ (own_w18 hw) (own_w6 hw) (by decide) (by decide)) (g := (mkF m 40 #[.val (.int i0), .val (.int i1), .val (.ref o_UNKNOWN), .val (.int (0 : Int32)), .val (.ref o_UNKNOWN), .val (.int (1 : Int32)), .unset, .unset] [(.int (0 : Int32))])) rfl (by rw [hml]; rfl) (argsL := [(.int (0 : Int32))]) (rest := []) (lenOf pd__Z_Lcom_example_erlaubnis_erlaubnis_policy_Truth_ rfl) rfl (by show 2 * 0 + _ ≤ _; exact Nat.le_of_eq rfl) (hb hby at_40) (fun _ _ => ⟨rfl, e5, (by decide : 0 + 0 ≤ _), (by decide : 0 + 0 ≤ _)⟩)
      dsimp only [Pt.U, Pt.locs, Pt.cells, Pt.slots] at X6 l6 y6 z6 st6 hQ6
      subst l6 y6 z6
      obtain ⟨rfl, N6q, e6⟩ := hQ6
      have N6 := Fr.app N5 N6q
      have ne7 : o_FALSE ≠ o_TRUE := (F_o_FALSE_ordinal.ne F_o_TRUE_ordinal (fun q => absurd (Value.int.inj q) (by decide)))
      obtain ⟨cq8, kq8, q8a, q8b, q8c⟩ := isOf hZ e6 E_o_FALSE
      obtain ⟨_, _, ⟨T8, L8, k8, n8⟩, -, X8, ⟨Lc8, hQ8, l8, y8, z8⟩, st8⟩ := X6.virtualBack hx (y := (⟨"com/example/erlaubnis/erlaubnis/policy/Truth", "not", "()Lcom/example/erlaubnis/erlaubnis/policy/Truth;"⟩ : MethodName)) (z := (⟨"com/example/erlaubnis/erlaubnis/policy/Truth", "not", "()Lcom/example/erlaubnis/erlaubnis/policy/Truth;"⟩ : MethodName)) hown (mvT hZ (own_w8 hw)) (mvT hZ (own_w9 hw)) (notFace_of_selects (args := #[]) (mvT hZ (own_w11 hw))) (mvT hZ (own_w11 hw)) (mvT hZ (own_w10 hw)) (by decide) (backOf (W := 0) (rm2_3 l Z a0 hw [] o_FALSE o_TRUE h0 n0 Z0 S_o_TRUE ne7 S_o_FALSE) hZ (own_w12 hw) (own_w6 hw) (by decide) (by decide)) q8a q8c (g := (mkF m 43 #[.val (.int i0), .val (.int i1), .val (.ref o_UNKNOWN), .val (.int (0 : Int32)), .val (.ref o_UNKNOWN), .val (.int (1 : Int32)), .unset, .unset] [(.ref o_FALSE)])) rfl (by rw [hml]; rfl) (Steps.refl _) (argsL := []) (rest := []) (lenOf pd___Lcom_example_erlaubnis_erlaubnis_policy_Truth_ rfl) rfl (by show 2 * 0 + _ ≤ _; exact Nat.le_of_eq rfl) (hb hby at_43) (fun _ _ => ⟨rfl, e6, (by decide : 0 + 0 ≤ _), (by decide : 0 + 0 ≤ _)⟩)
      dsimp only [Pt.U, Pt.locs, Pt.cells, Pt.slots] at X8 l8 y8 z8 st8 hQ8
      subst l8 y8 z8
      obtain ⟨rfl, N8q, e8⟩ := hQ8
      have N8 := Fr.app N6 N8q
      obtain ⟨_, _, ⟨T9, L9, k9, n9⟩, -, X9, ⟨Lc9, hQ9, l9, y9, z9⟩, st9⟩ := Jvm.LawKit.callS X8 hx (y := (⟨"com/example/erlaubnis/erlaubnis/policy/Truth", "of", "(Z)Lcom/example/erlaubnis/erlaubnis/policy/Truth;"⟩ : MethodName)) hown (mvT hZ (own_w16 hw)) (mvT hZ (own_w17 hw)) (mvT hZ (own_w6 hw)) (mvT hZ (own_w18 hw)) (by decide) (backOf (W := 1) (rm3_5 l Z a0 hw [] o_TRUE h0 n0 Z0 S_o_TRUE) hZ (own_w18 hw) (own_w6 hw) (by decide) (by decide)) (g := (mkF m 55 #[.val (.int i0), .val (.int i1), .val (.ref o_UNKNOWN), .val (.int (0 : Int32)), .val (.ref o_UNKNOWN), .val (.int (1 : Int32)), .unset, .unset] [(.int (1 : Int32)), (.ref o_TRUE)])) rfl (by rw [hml]; rfl) (argsL := [(.int (1 : Int32))]) (rest := [(.ref o_TRUE)]) (lenOf pd__Z_Lcom_example_erlaubnis_erlaubnis_policy_Truth_ rfl) rfl (by show 2 * 0 + _ ≤ _; exact Nat.le_of_eq rfl) (hb hby at_55) (fun _ _ => ⟨rfl, e8, (by decide : 0 + 0 ≤ _), (by decide : 0 + 0 ≤ _)⟩)
      dsimp only [Pt.U, Pt.locs, Pt.cells, Pt.slots] at X9 l9 y9 z9 st9 hQ9
      subst l9 y9 z9
      obtain ⟨rfl, N9q, e9⟩ := hQ9
      have N9 := Fr.app N8 N9q
      obtain ⟨T10, X10, e10, st10⟩ := getS2 X9 hx hZ hown (host := "") (Or.inl (own_w19 hw)) Via.refl e9 S_o_UNKNOWN (g := (mkF m 80 #[.val (.int i0), .val (.int i1), .val (.ref o_UNKNOWN), .val (.int (0 : Int32)), .val (.ref o_UNKNOWN), .val (.int (1 : Int32)), .val (.int (1 : Int32)), .unset] [(.ref o_UNKNOWN), (.int (1 : Int32))])) rfl (hb hby at_80)
      obtain ⟨fs, hr, hrun, hended, hW, hsame⟩ := X10.leave (v := some (.int (1 : Int32))) (fun h => by rw [Bd.returns] at h; cases h)
      refine ⟨_, _, pre4 _ ?_, hrun, hended, _, _, rfl, ⟨rfl, N9⟩, ⟨_, rfl⟩, hW, hsame.mono (by decide) (by decide)⟩
      show Steps p.tables e below (T1.setTop (mkF m 8 #[.val (.int i0), .val (.int i1), .val (.ref o_UNKNOWN), .unset, .unset, .unset, .unset, .unset] [(.int (i1 &&& (1 : Int32)))])) _
      rw [he1]
      show Steps p.tables e below (T1.setTop (mkF m 8 #[.val (.int i0), .val (.int i1), .val (.ref o_UNKNOWN), .unset, .unset, .unset, .unset, .unset] [(.int (0 : Int32))])) _
      refine XS.ifYes X1.here hx rfl (pc0 := 8) (pc' := 15) rfl (hb hby at_8) rfl ((if0 _ _).trans (teq (by decide : (0 : Int32) = (0 : Int32))).1) (by decide) (by decide) ?_
      show Steps p.tables e below (T1.setTop (mkF m 15 #[.val (.int i0), .val (.int i1), .val (.ref o_UNKNOWN), .unset, .unset, .unset, .unset, .unset] [])) _
      refine XS.iconst X1.here hx rfl (hb hby at_15) ?_
      show Steps p.tables e below (T1.setTop (mkF m 16 #[.val (.int i0), .val (.int i1), .val (.ref o_UNKNOWN), .unset, .unset, .unset, .unset, .unset] [(.int (0 : Int32))])) _
      refine XS.istoreN X1.here hx rfl (hb hby at_16) rfl (l' := #[.val (.int i0), .val (.int i1), .val (.ref o_UNKNOWN), .val (.int (0 : Int32)), .unset, .unset, .unset, .unset]) rfl ?_
      show Steps p.tables e below (T1.setTop (mkF m 17 #[.val (.int i0), .val (.int i1), .val (.ref o_UNKNOWN), .val (.int (0 : Int32)), .unset, .unset, .unset, .unset] [])) _
      refine XS.aloadN X1.here hx rfl (hb hby at_17) rfl rfl ?_
      show Steps p.tables e below (T1.setTop (mkF m 18 #[.val (.int i0), .val (.int i1), .val (.ref o_UNKNOWN), .val (.int (0 : Int32)), .unset, .unset, .unset, .unset] [(.ref o_UNKNOWN)])) _
      refine st4.trans ?_
      show Steps p.tables e below (T4.setTop (mkF m 21 #[.val (.int i0), .val (.int i1), .val (.ref o_UNKNOWN), .val (.int (0 : Int32)), .unset, .unset, .unset, .unset] [(.ref o_UNKNOWN)])) _
      refine XS.astore X4.here hx rfl (hb hby at_21) rfl rfl (l' := #[.val (.int i0), .val (.int i1), .val (.ref o_UNKNOWN), .val (.int (0 : Int32)), .val (.ref o_UNKNOWN), .unset, .unset, .unset]) rfl ?_
      show Steps p.tables e below (T4.setTop (mkF m 23 #[.val (.int i0), .val (.int i1), .val (.ref o_UNKNOWN), .val (.int (0 : Int32)), .val (.ref o_UNKNOWN), .unset, .unset, .unset] [])) _
      refine XS.aload X4.here hx rfl (hb hby at_23) rfl rfl ?_
      show Steps p.tables e below (T4.setTop (mkF m 25 #[.val (.int i0), .val (.int i1), .val (.ref o_UNKNOWN), .val (.int (0 : Int32)), .val (.ref o_UNKNOWN), .unset, .unset, .unset] [(.ref o_UNKNOWN)])) _
      refine st5.trans ?_
      show Steps p.tables e below (T5.setTop (mkF m 28 #[.val (.int i0), .val (.int i1), .val (.ref o_UNKNOWN), .val (.int (0 : Int32)), .val (.ref o_UNKNOWN), .unset, .unset, .unset] [(.ref o_UNKNOWN)])) _
      refine XS.aloadN X5.here hx rfl (hb hby at_28) rfl rfl ?_
      show Steps p.tables e below (T5.setTop (mkF m 29 #[.val (.int i0), .val (.int i1), .val (.ref o_UNKNOWN), .val (.int (0 : Int32)), .val (.ref o_UNKNOWN), .unset, .unset, .unset] [(.ref o_UNKNOWN), (.ref o_UNKNOWN)])) _
      refine Jvm.RoadKit.acmp (g := (mkF m 29 #[.val (.int i0), .val (.int i1), .val (.ref o_UNKNOWN), .val (.int (0 : Int32)), .val (.ref o_UNKNOWN), .unset, .unset, .unset] [(.ref o_UNKNOWN), (.ref o_UNKNOWN)])) X5 hx rfl rfl rfl (pc0 := 29) (pc' := 32) (same := true) rfl (hb hby at_29) rfl (decide_eq_true rfl) (by decide) (by decide) ?_
      show Steps p.tables e below (T5.setTop (mkF m 32 #[.val (.int i0), .val (.int i1), .val (.ref o_UNKNOWN), .val (.int (0 : Int32)), .val (.ref o_UNKNOWN), .unset, .unset, .unset] [])) _
      refine XS.iconst X5.here hx rfl (hb hby at_32) ?_
      show Steps p.tables e below (T5.setTop (mkF m 33 #[.val (.int i0), .val (.int i1), .val (.ref o_UNKNOWN), .val (.int (0 : Int32)), .val (.ref o_UNKNOWN), .unset, .unset, .unset] [(.int (1 : Int32))])) _
      refine XS.goto X5.here hx rfl (pc0 := 33) (pc' := 37) rfl (hb hby at_33) (by decide) (by decide) ?_
      show Steps p.tables e below (T5.setTop (mkF m 37 #[.val (.int i0), .val (.int i1), .val (.ref o_UNKNOWN), .val (.int (0 : Int32)), .val (.ref o_UNKNOWN), .unset, .unset, .unset] [(.int (1 : Int32))])) _
      refine XS.istore X5.here hx rfl (hb hby at_37) rfl (l' := #[.val (.int i0), .val (.int i1), .val (.ref o_UNKNOWN), .val (.int (0 : Int32)), .val (.ref o_UNKNOWN), .val (.int (1 : Int32)), .unset, .unset]) rfl ?_
      show Steps p.tables e below (T5.setTop (mkF m 39 #[.val (.int i0), .val (.int i1), .val (.ref o_UNKNOWN), .val (.int (0 : Int32)), .val (.ref o_UNKNOWN), .val (.int (1 : Int32)), .unset, .unset] [])) _
      refine XS.iloadN X5.here hx rfl (hb hby at_39) rfl ?_
      show Steps p.tables e below (T5.setTop (mkF m 40 #[.val (.int i0), .val (.int i1), .val (.ref o_UNKNOWN), .val (.int (0 : Int32)), .val (.ref o_UNKNOWN), .val (.int (1 : Int32)), .unset, .unset] [(.int (0 : Int32))])) _
      refine st6 _ ?_
      show Steps p.tables e below (T6.setTop (mkF m 43 #[.val (.int i0), .val (.int i1), .val (.ref o_UNKNOWN), .val (.int (0 : Int32)), .val (.ref o_UNKNOWN), .val (.int (1 : Int32)), .unset, .unset] [(.ref o_FALSE)])) _
      refine st8.trans ?_
      show Steps p.tables e below (T8.setTop (mkF m 46 #[.val (.int i0), .val (.int i1), .val (.ref o_UNKNOWN), .val (.int (0 : Int32)), .val (.ref o_UNKNOWN), .val (.int (1 : Int32)), .unset, .unset] [(.ref o_TRUE)])) _
      refine XS.iloadN X8.here hx rfl (hb hby at_46) rfl ?_
      show Steps p.tables e below (T8.setTop (mkF m 47 #[.val (.int i0), .val (.int i1), .val (.ref o_UNKNOWN), .val (.int (0 : Int32)), .val (.ref o_UNKNOWN), .val (.int (1 : Int32)), .unset, .unset] [(.int (0 : Int32)), (.ref o_TRUE)])) _
      refine XS.ifNo X8.here hx rfl (hb hby at_47) rfl ((if0 _ _).trans (teq (by decide : (0 : Int32) = (0 : Int32))).2) ?_
      show Steps p.tables e below (T8.setTop (mkF m 50 #[.val (.int i0), .val (.int i1), .val (.ref o_UNKNOWN), .val (.int (0 : Int32)), .val (.ref o_UNKNOWN), .val (.int (1 : Int32)), .unset, .unset] [(.ref o_TRUE)])) _
      refine XS.iconst X8.here hx rfl (hb hby at_50) ?_
      show Steps p.tables e below (T8.setTop (mkF m 51 #[.val (.int i0), .val (.int i1), .val (.ref o_UNKNOWN), .val (.int (0 : Int32)), .val (.ref o_UNKNOWN), .val (.int (1 : Int32)), .unset, .unset] [(.int (1 : Int32)), (.ref o_TRUE)])) _
      refine XS.goto X8.here hx rfl (pc0 := 51) (pc' := 55) rfl (hb hby at_51) (by decide) (by decide) ?_
      show Steps p.tables e below (T8.setTop (mkF m 55 #[.val (.int i0), .val (.int i1), .val (.ref o_UNKNOWN), .val (.int (0 : Int32)), .val (.ref o_UNKNOWN), .val (.int (1 : Int32)), .unset, .unset] [(.int (1 : Int32)), (.ref o_TRUE)])) _
      refine st9 _ ?_
      show Steps p.tables e below (T9.setTop (mkF m 58 #[.val (.int i0), .val (.int i1), .val (.ref o_UNKNOWN), .val (.int (0 : Int32)), .val (.ref o_UNKNOWN), .val (.int (1 : Int32)), .unset, .unset] [(.ref o_TRUE), (.ref o_TRUE)])) _
      refine Jvm.RoadKit.acmp (g := (mkF m 58 #[.val (.int i0), .val (.int i1), .val (.ref o_UNKNOWN), .val (.int (0 : Int32)), .val (.ref o_UNKNOWN), .val (.int (1 : Int32)), .unset, .unset] [(.ref o_TRUE), (.ref o_TRUE)])) X9 hx rfl rfl rfl (pc0 := 58) (pc' := 61) (same := true) rfl (hb hby at_58) rfl (decide_eq_true rfl) (by decide) (by decide) ?_
      show Steps p.tables e below (T9.setTop (mkF m 61 #[.val (.int i0), .val (.int i1), .val (.ref o_UNKNOWN), .val (.int (0 : Int32)), .val (.ref o_UNKNOWN), .val (.int (1 : Int32)), .unset, .unset] [])) _
      refine XS.iconst X9.here hx rfl (hb hby at_61) ?_
      show Steps p.tables e below (T9.setTop (mkF m 62 #[.val (.int i0), .val (.int i1), .val (.ref o_UNKNOWN), .val (.int (0 : Int32)), .val (.ref o_UNKNOWN), .val (.int (1 : Int32)), .unset, .unset] [(.int (1 : Int32))])) _
      refine XS.goto X9.here hx rfl (pc0 := 62) (pc' := 66) rfl (hb hby at_62) (by decide) (by decide) ?_
      show Steps p.tables e below (T9.setTop (mkF m 66 #[.val (.int i0), .val (.int i1), .val (.ref o_UNKNOWN), .val (.int (0 : Int32)), .val (.ref o_UNKNOWN), .val (.int (1 : Int32)), .unset, .unset] [(.int (1 : Int32))])) _
      refine XS.istore X9.here hx rfl (hb hby at_66) rfl (l' := #[.val (.int i0), .val (.int i1), .val (.ref o_UNKNOWN), .val (.int (0 : Int32)), .val (.ref o_UNKNOWN), .val (.int (1 : Int32)), .val (.int (1 : Int32)), .unset]) rfl ?_
      show Steps p.tables e below (T9.setTop (mkF m 68 #[.val (.int i0), .val (.int i1), .val (.ref o_UNKNOWN), .val (.int (0 : Int32)), .val (.ref o_UNKNOWN), .val (.int (1 : Int32)), .val (.int (1 : Int32)), .unset] [])) _
      refine XS.aload X9.here hx rfl (hb hby at_68) rfl rfl ?_
      show Steps p.tables e below (T9.setTop (mkF m 70 #[.val (.int i0), .val (.int i1), .val (.ref o_UNKNOWN), .val (.int (0 : Int32)), .val (.ref o_UNKNOWN), .val (.int (1 : Int32)), .val (.int (1 : Int32)), .unset] [(.ref o_UNKNOWN)])) _
      refine XS.aloadN X9.here hx rfl (hb hby at_70) rfl rfl ?_
      show Steps p.tables e below (T9.setTop (mkF m 71 #[.val (.int i0), .val (.int i1), .val (.ref o_UNKNOWN), .val (.int (0 : Int32)), .val (.ref o_UNKNOWN), .val (.int (1 : Int32)), .val (.int (1 : Int32)), .unset] [(.ref o_UNKNOWN), (.ref o_UNKNOWN)])) _
      refine Jvm.RoadKit.acmp (g := (mkF m 71 #[.val (.int i0), .val (.int i1), .val (.ref o_UNKNOWN), .val (.int (0 : Int32)), .val (.ref o_UNKNOWN), .val (.int (1 : Int32)), .val (.int (1 : Int32)), .unset] [(.ref o_UNKNOWN), (.ref o_UNKNOWN)])) X9 hx rfl rfl rfl (pc0 := 71) (pc' := 74) (same := true) rfl (hb hby at_71) rfl (decide_eq_true rfl) (by decide) (by decide) ?_
      show Steps p.tables e below (T9.setTop (mkF m 74 #[.val (.int i0), .val (.int i1), .val (.ref o_UNKNOWN), .val (.int (0 : Int32)), .val (.ref o_UNKNOWN), .val (.int (1 : Int32)), .val (.int (1 : Int32)), .unset] [])) _
      refine XS.iconst X9.here hx rfl (hb hby at_74) ?_
      show Steps p.tables e below (T9.setTop (mkF m 75 #[.val (.int i0), .val (.int i1), .val (.ref o_UNKNOWN), .val (.int (0 : Int32)), .val (.ref o_UNKNOWN), .val (.int (1 : Int32)), .val (.int (1 : Int32)), .unset] [(.int (1 : Int32))])) _
      refine XS.goto X9.here hx rfl (pc0 := 75) (pc' := 79) rfl (hb hby at_75) (by decide) (by decide) ?_
      show Steps p.tables e below (T9.setTop (mkF m 79 #[.val (.int i0), .val (.int i1), .val (.ref o_UNKNOWN), .val (.int (0 : Int32)), .val (.ref o_UNKNOWN), .val (.int (1 : Int32)), .val (.int (1 : Int32)), .unset] [(.int (1 : Int32))])) _
      refine XS.aloadN X9.here hx rfl (hb hby at_79) rfl rfl ?_
      show Steps p.tables e below (T9.setTop (mkF m 80 #[.val (.int i0), .val (.int i1), .val (.ref o_UNKNOWN), .val (.int (0 : Int32)), .val (.ref o_UNKNOWN), .val (.int (1 : Int32)), .val (.int (1 : Int32)), .unset] [(.ref o_UNKNOWN), (.int (1 : Int32))])) _
      refine st10 _ ?_
      show Steps p.tables e below (T10.setTop (mkF m 83 #[.val (.int i0), .val (.int i1), .val (.ref o_UNKNOWN), .val (.int (0 : Int32)), .val (.ref o_UNKNOWN), .val (.int (1 : Int32)), .val (.int (1 : Int32)), .unset] [(.ref o_UNKNOWN), (.ref o_UNKNOWN), (.int (1 : Int32))])) _
      refine Jvm.RoadKit.acmp (g := (mkF m 83 #[.val (.int i0), .val (.int i1), .val (.ref o_UNKNOWN), .val (.int (0 : Int32)), .val (.ref o_UNKNOWN), .val (.int (1 : Int32)), .val (.int (1 : Int32)), .unset] [(.ref o_UNKNOWN), (.ref o_UNKNOWN), (.int (1 : Int32))])) X10 hx rfl rfl rfl (pc0 := 83) (pc' := 86) (same := true) rfl (hb hby at_83) rfl (decide_eq_true rfl) (by decide) (by decide) ?_
      show Steps p.tables e below (T10.setTop (mkF m 86 #[.val (.int i0), .val (.int i1), .val (.ref o_UNKNOWN), .val (.int (0 : Int32)), .val (.ref o_UNKNOWN), .val (.int (1 : Int32)), .val (.int (1 : Int32)), .unset] [(.int (1 : Int32))])) _
      refine XS.iconst X10.here hx rfl (hb hby at_86) ?_
      show Steps p.tables e below (T10.setTop (mkF m 87 #[.val (.int i0), .val (.int i1), .val (.ref o_UNKNOWN), .val (.int (0 : Int32)), .val (.ref o_UNKNOWN), .val (.int (1 : Int32)), .val (.int (1 : Int32)), .unset] [(.int (1 : Int32)), (.int (1 : Int32))])) _
      refine XS.goto X10.here hx rfl (pc0 := 87) (pc' := 91) rfl (hb hby at_87) (by decide) (by decide) ?_
      show Steps p.tables e below (T10.setTop (mkF m 91 #[.val (.int i0), .val (.int i1), .val (.ref o_UNKNOWN), .val (.int (0 : Int32)), .val (.ref o_UNKNOWN), .val (.int (1 : Int32)), .val (.int (1 : Int32)), .unset] [(.int (1 : Int32)), (.int (1 : Int32))])) _
      refine XS.icmpNo X10.here hx rfl (hb hby at_91) rfl (teq (by decide : (1 : Int32) = (1 : Int32))).2 ?_
      show Steps p.tables e below (T10.setTop (mkF m 94 #[.val (.int i0), .val (.int i1), .val (.ref o_UNKNOWN), .val (.int (0 : Int32)), .val (.ref o_UNKNOWN), .val (.int (1 : Int32)), .val (.int (1 : Int32)), .unset] [])) _
      refine XS.iconst X10.here hx rfl (hb hby at_94) ?_
      show Steps p.tables e below (T10.setTop (mkF m 95 #[.val (.int i0), .val (.int i1), .val (.ref o_UNKNOWN), .val (.int (0 : Int32)), .val (.ref o_UNKNOWN), .val (.int (1 : Int32)), .val (.int (1 : Int32)), .unset] [(.int (1 : Int32))])) _
      refine XS.goto X10.here hx rfl (pc0 := 95) (pc' := 99) rfl (hb hby at_95) (by decide) (by decide) ?_
      show Steps p.tables e below (T10.setTop (mkF m 99 #[.val (.int i0), .val (.int i1), .val (.ref o_UNKNOWN), .val (.int (0 : Int32)), .val (.ref o_UNKNOWN), .val (.int (1 : Int32)), .val (.int (1 : Int32)), .unset] [(.int (1 : Int32))])) _
      refine XS.istore X10.here hx rfl (hb hby at_99) rfl (l' := #[.val (.int i0), .val (.int i1), .val (.ref o_UNKNOWN), .val (.int (0 : Int32)), .val (.ref o_UNKNOWN), .val (.int (1 : Int32)), .val (.int (1 : Int32)), .val (.int (1 : Int32))]) rfl ?_
      show Steps p.tables e below (T10.setTop (mkF m 101 #[.val (.int i0), .val (.int i1), .val (.ref o_UNKNOWN), .val (.int (0 : Int32)), .val (.ref o_UNKNOWN), .val (.int (1 : Int32)), .val (.int (1 : Int32)), .val (.int (1 : Int32))] [])) _
      refine XS.iload X10.here hx rfl (hb hby at_101) rfl ?_
      show Steps p.tables e below (T10.setTop (mkF m 103 #[.val (.int i0), .val (.int i1), .val (.ref o_UNKNOWN), .val (.int (0 : Int32)), .val (.ref o_UNKNOWN), .val (.int (1 : Int32)), .val (.int (1 : Int32)), .val (.int (1 : Int32))] [(.int (1 : Int32))])) _
      refine XS.ifNo X10.here hx rfl (hb hby at_103) rfl ((if0 _ _).trans (feq (by decide : ¬ ((1 : Int32) = (0 : Int32)))).1) ?_
      show Steps p.tables e below (T10.setTop (mkF m 106 #[.val (.int i0), .val (.int i1), .val (.ref o_UNKNOWN), .val (.int (0 : Int32)), .val (.ref o_UNKNOWN), .val (.int (1 : Int32)), .val (.int (1 : Int32)), .val (.int (1 : Int32))] [])) _
      refine XS.iload X10.here hx rfl (hb hby at_106) rfl ?_
      show Steps p.tables e below (T10.setTop (mkF m 108 #[.val (.int i0), .val (.int i1), .val (.ref o_UNKNOWN), .val (.int (0 : Int32)), .val (.ref o_UNKNOWN), .val (.int (1 : Int32)), .val (.int (1 : Int32)), .val (.int (1 : Int32))] [(.int (1 : Int32))])) _
      refine XS.ifNo X10.here hx rfl (hb hby at_108) rfl ((if0 _ _).trans (feq (by decide : ¬ ((1 : Int32) = (0 : Int32)))).1) ?_
      show Steps p.tables e below (T10.setTop (mkF m 111 #[.val (.int i0), .val (.int i1), .val (.ref o_UNKNOWN), .val (.int (0 : Int32)), .val (.ref o_UNKNOWN), .val (.int (1 : Int32)), .val (.int (1 : Int32)), .val (.int (1 : Int32))] [])) _
      refine XS.iload X10.here hx rfl (hb hby at_111) rfl ?_
      show Steps p.tables e below (T10.setTop (mkF m 113 #[.val (.int i0), .val (.int i1), .val (.ref o_UNKNOWN), .val (.int (0 : Int32)), .val (.ref o_UNKNOWN), .val (.int (1 : Int32)), .val (.int (1 : Int32)), .val (.int (1 : Int32))] [(.int (1 : Int32))])) _
      refine XS.ifNo X10.here hx rfl (hb hby at_113) rfl ((if0 _ _).trans (feq (by decide : ¬ ((1 : Int32) = (0 : Int32)))).1) ?_
      show Steps p.tables e below (T10.setTop (mkF m 116 #[.val (.int i0), .val (.int i1), .val (.ref o_UNKNOWN), .val (.int (0 : Int32)), .val (.ref o_UNKNOWN), .val (.int (1 : Int32)), .val (.int (1 : Int32)), .val (.int (1 : Int32))] [])) _
      refine XS.iconst X10.here hx rfl (hb hby at_116) ?_
      show Steps p.tables e below (T10.setTop (mkF m 117 #[.val (.int i0), .val (.int i1), .val (.ref o_UNKNOWN), .val (.int (0 : Int32)), .val (.ref o_UNKNOWN), .val (.int (1 : Int32)), .val (.int (1 : Int32)), .val (.int (1 : Int32))] [(.int (1 : Int32))])) _
      refine XS.goto X10.here hx rfl (pc0 := 117) (pc' := 121) rfl (hb hby at_117) (by decide) (by decide) ?_
      show Steps p.tables e below (T10.setTop (mkF m 121 #[.val (.int i0), .val (.int i1), .val (.ref o_UNKNOWN), .val (.int (0 : Int32)), .val (.ref o_UNKNOWN), .val (.int (1 : Int32)), .val (.int (1 : Int32)), .val (.int (1 : Int32))] [(.int (1 : Int32))])) _
      exact retN X10 hx (t := .boolean) Bd.returns (by simp) (hb hby at_121) hr
    · have ne2 : o_UNKNOWN ≠ o_TRUE := (F_o_UNKNOWN_ordinal.ne F_o_TRUE_ordinal (fun q => absurd (Value.int.inj q) (by decide)))
      have ne3 : o_UNKNOWN ≠ o_FALSE := (F_o_UNKNOWN_ordinal.ne F_o_FALSE_ordinal (fun q => absurd (Value.int.inj q) (by decide)))
      obtain ⟨cq4, kq4, q4a, q4b, q4c⟩ := isOf hZ e1 E_o_UNKNOWN
      obtain ⟨_, _, ⟨T4, L4, k4, n4⟩, -, X4, ⟨Lc4, hQ4, l4, y4, z4⟩, st4⟩ := X1.virtualBack hx (y := (⟨"com/example/erlaubnis/erlaubnis/policy/Truth", "not", "()Lcom/example/erlaubnis/erlaubnis/policy/Truth;"⟩ : MethodName)) (z := (⟨"com/example/erlaubnis/erlaubnis/policy/Truth", "not", "()Lcom/example/erlaubnis/erlaubnis/policy/Truth;"⟩ : MethodName)) hown (mvT hZ (own_w8 hw)) (mvT hZ (own_w9 hw)) (notFace_of_selects (args := #[]) (mvT hZ (own_w11 hw))) (mvT hZ (own_w11 hw)) (mvT hZ (own_w10 hw)) (by decide) (backOf (W := 0) (rm2_8 l Z a0 hw [] o_UNKNOWN o_TRUE o_FALSE h0 n0 Z0 S_o_TRUE ne2 S_o_FALSE ne3 S_o_UNKNOWN) hZ (own_w12 hw) (own_w6 hw) (by decide) (by decide)) q4a q4c (g := (mkF m 18 #[.val (.int i0), .val (.int i1), .val (.ref o_UNKNOWN), .val (.int (1 : Int32)), .unset, .unset, .unset, .unset] [(.ref o_UNKNOWN)])) rfl (by rw [hml]; rfl) (Steps.refl _) (argsL := []) (rest := []) (lenOf pd___Lcom_example_erlaubnis_erlaubnis_policy_Truth_ rfl) rfl (by show 2 * 0 + _ ≤ _; exact Nat.le_of_eq rfl) (hb hby at_18) (fun _ _ => ⟨rfl, e1, (by decide : 0 + 0 ≤ _), (by decide : 0 + 0 ≤ _)⟩)
      dsimp only [Pt.U, Pt.locs, Pt.cells, Pt.slots] at X4 l4 y4 z4 st4 hQ4
      subst l4 y4 z4
      obtain ⟨rfl, N4q, e4⟩ := hQ4
      have N4 := Fr.app N1 N4q
      obtain ⟨cq5, kq5, q5a, q5b, q5c⟩ := isOf hZ e4 E_o_UNKNOWN
      obtain ⟨_, _, ⟨T5, L5, k5, n5⟩, -, X5, ⟨Lc5, hQ5, l5, y5, z5⟩, st5⟩ := X4.virtualBack hx (y := (⟨"com/example/erlaubnis/erlaubnis/policy/Truth", "not", "()Lcom/example/erlaubnis/erlaubnis/policy/Truth;"⟩ : MethodName)) (z := (⟨"com/example/erlaubnis/erlaubnis/policy/Truth", "not", "()Lcom/example/erlaubnis/erlaubnis/policy/Truth;"⟩ : MethodName)) hown (mvT hZ (own_w8 hw)) (mvT hZ (own_w9 hw)) (notFace_of_selects (args := #[]) (mvT hZ (own_w11 hw))) (mvT hZ (own_w11 hw)) (mvT hZ (own_w10 hw)) (by decide) (backOf (W := 0) (rm2_8 l Z a0 hw [] o_UNKNOWN o_TRUE o_FALSE h0 n0 Z0 S_o_TRUE ne2 S_o_FALSE ne3 S_o_UNKNOWN) hZ (own_w12 hw) (own_w6 hw) (by decide) (by decide)) q5a q5c (g := (mkF m 25 #[.val (.int i0), .val (.int i1), .val (.ref o_UNKNOWN), .val (.int (1 : Int32)), .val (.ref o_UNKNOWN), .unset, .unset, .unset] [(.ref o_UNKNOWN)])) rfl (by rw [hml]; rfl) (Steps.refl _) (argsL := []) (rest := []) (lenOf pd___Lcom_example_erlaubnis_erlaubnis_policy_Truth_ rfl) rfl (by show 2 * 0 + _ ≤ _; exact Nat.le_of_eq rfl) (hb hby at_25) (fun _ _ => ⟨rfl, e4, (by decide : 0 + 0 ≤ _), (by decide : 0 + 0 ≤ _)⟩)
      dsimp only [Pt.U, Pt.locs, Pt.cells, Pt.slots] at X5 l5 y5 z5 st5 hQ5
      subst l5 y5 z5
      obtain ⟨rfl, N5q, e5⟩ := hQ5
      have N5 := Fr.app N4 N5q
      obtain ⟨_, _, ⟨T6, L6, k6, n6⟩, -, X6, ⟨Lc6, hQ6, l6, y6, z6⟩, st6⟩ := Jvm.LawKit.callS X5 hx (y := (⟨"com/example/erlaubnis/erlaubnis/policy/Truth", "of", "(Z)Lcom/example/erlaubnis/erlaubnis/policy/Truth;"⟩ : MethodName)) hown (mvT hZ (own_w16 hw)) (mvT hZ (own_w17 hw)) (mvT hZ (own_w6 hw)) (mvT hZ (own_w18 hw)) (by decide) (backOf (W := 0) (rm3_5 l Z a0 hw [] o_TRUE h0 n0 Z0 S_o_TRUE) hZ (own_w18 hw) (own_w6 hw) (by decide) (by decide)) (g := (mkF m 40 #[.val (.int i0), .val (.int i1), .val (.ref o_UNKNOWN), .val (.int (1 : Int32)), .val (.ref o_UNKNOWN), .val (.int (1 : Int32)), .unset, .unset] [(.int (1 : Int32))])) rfl (by rw [hml]; rfl) (argsL := [(.int (1 : Int32))]) (rest := []) (lenOf pd__Z_Lcom_example_erlaubnis_erlaubnis_policy_Truth_ rfl) rfl (by show 2 * 0 + _ ≤ _; exact Nat.le_of_eq rfl) (hb hby at_40) (fun _ _ => ⟨rfl, e5, (by decide : 0 + 0 ≤ _), (by decide : 0 + 0 ≤ _)⟩)
      dsimp only [Pt.U, Pt.locs, Pt.cells, Pt.slots] at X6 l6 y6 z6 st6 hQ6
      subst l6 y6 z6
      obtain ⟨rfl, N6q, e6⟩ := hQ6
      have N6 := Fr.app N5 N6q
      obtain ⟨cq7, kq7, q7a, q7b, q7c⟩ := isOf hZ e6 E_o_TRUE
      obtain ⟨_, _, ⟨T7, L7, k7, n7⟩, -, X7, ⟨Lc7, hQ7, l7, y7, z7⟩, st7⟩ := X6.virtualBack hx (y := (⟨"com/example/erlaubnis/erlaubnis/policy/Truth", "not", "()Lcom/example/erlaubnis/erlaubnis/policy/Truth;"⟩ : MethodName)) (z := (⟨"com/example/erlaubnis/erlaubnis/policy/Truth", "not", "()Lcom/example/erlaubnis/erlaubnis/policy/Truth;"⟩ : MethodName)) hown (mvT hZ (own_w8 hw)) (mvT hZ (own_w9 hw)) (notFace_of_selects (args := #[]) (mvT hZ (own_w11 hw))) (mvT hZ (own_w11 hw)) (mvT hZ (own_w10 hw)) (by decide) (backOf (W := 0) (rm2_2 l Z a0 hw [] o_TRUE o_FALSE h0 n0 Z0 S_o_TRUE S_o_FALSE) hZ (own_w12 hw) (own_w6 hw) (by decide) (by decide)) q7a q7c (g := (mkF m 43 #[.val (.int i0), .val (.int i1), .val (.ref o_UNKNOWN), .val (.int (1 : Int32)), .val (.ref o_UNKNOWN), .val (.int (1 : Int32)), .unset, .unset] [(.ref o_TRUE)])) rfl (by rw [hml]; rfl) (Steps.refl _) (argsL := []) (rest := []) (lenOf pd___Lcom_example_erlaubnis_erlaubnis_policy_Truth_ rfl) rfl (by show 2 * 0 + _ ≤ _; exact Nat.le_of_eq rfl) (hb hby at_43) (fun _ _ => ⟨rfl, e6, (by decide : 0 + 0 ≤ _), (by decide : 0 + 0 ≤ _)⟩)
      dsimp only [Pt.U, Pt.locs, Pt.cells, Pt.slots] at X7 l7 y7 z7 st7 hQ7
      subst l7 y7 z7
      obtain ⟨rfl, N7q, e7⟩ := hQ7
      have N7 := Fr.app N6 N7q
      obtain ⟨_, _, ⟨T8, L8, k8, n8⟩, -, X8, ⟨Lc8, hQ8, l8, y8, z8⟩, st8⟩ := Jvm.LawKit.callS X7 hx (y := (⟨"com/example/erlaubnis/erlaubnis/policy/Truth", "of", "(Z)Lcom/example/erlaubnis/erlaubnis/policy/Truth;"⟩ : MethodName)) hown (mvT hZ (own_w16 hw)) (mvT hZ (own_w17 hw)) (mvT hZ (own_w6 hw)) (mvT hZ (own_w18 hw)) (by decide) (backOf (W := 1) (rm3_4 l Z a0 hw [] o_FALSE h0 n0 Z0 S_o_FALSE) hZ (own_w18 hw) (own_w6 hw) (by decide) (by decide)) (g := (mkF m 55 #[.val (.int i0), .val (.int i1), .val (.ref o_UNKNOWN), .val (.int (1 : Int32)), .val (.ref o_UNKNOWN), .val (.int (1 : Int32)), .unset, .unset] [(.int (0 : Int32)), (.ref o_FALSE)])) rfl (by rw [hml]; rfl) (argsL := [(.int (0 : Int32))]) (rest := [(.ref o_FALSE)]) (lenOf pd__Z_Lcom_example_erlaubnis_erlaubnis_policy_Truth_ rfl) rfl (by show 2 * 0 + _ ≤ _; exact Nat.le_of_eq rfl) (hb hby at_55) (fun _ _ => ⟨rfl, e7, (by decide : 0 + 0 ≤ _), (by decide : 0 + 0 ≤ _)⟩)
      dsimp only [Pt.U, Pt.locs, Pt.cells, Pt.slots] at X8 l8 y8 z8 st8 hQ8
      subst l8 y8 z8
      obtain ⟨rfl, N8q, e8⟩ := hQ8
      have N8 := Fr.app N7 N8q
      obtain ⟨T9, X9, e9, st9⟩ := getS2 X8 hx hZ hown (host := "") (Or.inl (own_w19 hw)) Via.refl e8 S_o_UNKNOWN (g := (mkF m 80 #[.val (.int i0), .val (.int i1), .val (.ref o_UNKNOWN), .val (.int (1 : Int32)), .val (.ref o_UNKNOWN), .val (.int (1 : Int32)), .val (.int (1 : Int32)), .unset] [(.ref o_UNKNOWN), (.int (1 : Int32))])) rfl (hb hby at_80)
      obtain ⟨fs, hr, hrun, hended, hW, hsame⟩ := X9.leave (v := some (.int (1 : Int32))) (fun h => by rw [Bd.returns] at h; cases h)
      refine ⟨_, _, pre4 _ ?_, hrun, hended, _, _, rfl, ⟨rfl, N8⟩, ⟨_, rfl⟩, hW, hsame.mono (by decide) (by decide)⟩
      show Steps p.tables e below (T1.setTop (mkF m 8 #[.val (.int i0), .val (.int i1), .val (.ref o_UNKNOWN), .unset, .unset, .unset, .unset, .unset] [(.int (i1 &&& (1 : Int32)))])) _
      rw [he1]
      show Steps p.tables e below (T1.setTop (mkF m 8 #[.val (.int i0), .val (.int i1), .val (.ref o_UNKNOWN), .unset, .unset, .unset, .unset, .unset] [(.int (1 : Int32))])) _
      refine XS.ifNo X1.here hx rfl (hb hby at_8) rfl ((if0 _ _).trans (feq (by decide : ¬ ((1 : Int32) = (0 : Int32)))).1) ?_
      show Steps p.tables e below (T1.setTop (mkF m 11 #[.val (.int i0), .val (.int i1), .val (.ref o_UNKNOWN), .unset, .unset, .unset, .unset, .unset] [])) _
      refine XS.iconst X1.here hx rfl (hb hby at_11) ?_
      show Steps p.tables e below (T1.setTop (mkF m 12 #[.val (.int i0), .val (.int i1), .val (.ref o_UNKNOWN), .unset, .unset, .unset, .unset, .unset] [(.int (1 : Int32))])) _
      refine XS.goto X1.here hx rfl (pc0 := 12) (pc' := 16) rfl (hb hby at_12) (by decide) (by decide) ?_
      show Steps p.tables e below (T1.setTop (mkF m 16 #[.val (.int i0), .val (.int i1), .val (.ref o_UNKNOWN), .unset, .unset, .unset, .unset, .unset] [(.int (1 : Int32))])) _
      refine XS.istoreN X1.here hx rfl (hb hby at_16) rfl (l' := #[.val (.int i0), .val (.int i1), .val (.ref o_UNKNOWN), .val (.int (1 : Int32)), .unset, .unset, .unset, .unset]) rfl ?_
      show Steps p.tables e below (T1.setTop (mkF m 17 #[.val (.int i0), .val (.int i1), .val (.ref o_UNKNOWN), .val (.int (1 : Int32)), .unset, .unset, .unset, .unset] [])) _
      refine XS.aloadN X1.here hx rfl (hb hby at_17) rfl rfl ?_
      show Steps p.tables e below (T1.setTop (mkF m 18 #[.val (.int i0), .val (.int i1), .val (.ref o_UNKNOWN), .val (.int (1 : Int32)), .unset, .unset, .unset, .unset] [(.ref o_UNKNOWN)])) _
      refine st4.trans ?_
      show Steps p.tables e below (T4.setTop (mkF m 21 #[.val (.int i0), .val (.int i1), .val (.ref o_UNKNOWN), .val (.int (1 : Int32)), .unset, .unset, .unset, .unset] [(.ref o_UNKNOWN)])) _
      refine XS.astore X4.here hx rfl (hb hby at_21) rfl rfl (l' := #[.val (.int i0), .val (.int i1), .val (.ref o_UNKNOWN), .val (.int (1 : Int32)), .val (.ref o_UNKNOWN), .unset, .unset, .unset]) rfl ?_
      show Steps p.tables e below (T4.setTop (mkF m 23 #[.val (.int i0), .val (.int i1), .val (.ref o_UNKNOWN), .val (.int (1 : Int32)), .val (.ref o_UNKNOWN), .unset, .unset, .unset] [])) _
      refine XS.aload X4.here hx rfl (hb hby at_23) rfl rfl ?_
      show Steps p.tables e below (T4.setTop (mkF m 25 #[.val (.int i0), .val (.int i1), .val (.ref o_UNKNOWN), .val (.int (1 : Int32)), .val (.ref o_UNKNOWN), .unset, .unset, .unset] [(.ref o_UNKNOWN)])) _
      refine st5.trans ?_
      show Steps p.tables e below (T5.setTop (mkF m 28 #[.val (.int i0), .val (.int i1), .val (.ref o_UNKNOWN), .val (.int (1 : Int32)), .val (.ref o_UNKNOWN), .unset, .unset, .unset] [(.ref o_UNKNOWN)])) _
      refine XS.aloadN X5.here hx rfl (hb hby at_28) rfl rfl ?_
      show Steps p.tables e below (T5.setTop (mkF m 29 #[.val (.int i0), .val (.int i1), .val (.ref o_UNKNOWN), .val (.int (1 : Int32)), .val (.ref o_UNKNOWN), .unset, .unset, .unset] [(.ref o_UNKNOWN), (.ref o_UNKNOWN)])) _
      refine Jvm.RoadKit.acmp (g := (mkF m 29 #[.val (.int i0), .val (.int i1), .val (.ref o_UNKNOWN), .val (.int (1 : Int32)), .val (.ref o_UNKNOWN), .unset, .unset, .unset] [(.ref o_UNKNOWN), (.ref o_UNKNOWN)])) X5 hx rfl rfl rfl (pc0 := 29) (pc' := 32) (same := true) rfl (hb hby at_29) rfl (decide_eq_true rfl) (by decide) (by decide) ?_
      show Steps p.tables e below (T5.setTop (mkF m 32 #[.val (.int i0), .val (.int i1), .val (.ref o_UNKNOWN), .val (.int (1 : Int32)), .val (.ref o_UNKNOWN), .unset, .unset, .unset] [])) _
      refine XS.iconst X5.here hx rfl (hb hby at_32) ?_
      show Steps p.tables e below (T5.setTop (mkF m 33 #[.val (.int i0), .val (.int i1), .val (.ref o_UNKNOWN), .val (.int (1 : Int32)), .val (.ref o_UNKNOWN), .unset, .unset, .unset] [(.int (1 : Int32))])) _
      refine XS.goto X5.here hx rfl (pc0 := 33) (pc' := 37) rfl (hb hby at_33) (by decide) (by decide) ?_
      show Steps p.tables e below (T5.setTop (mkF m 37 #[.val (.int i0), .val (.int i1), .val (.ref o_UNKNOWN), .val (.int (1 : Int32)), .val (.ref o_UNKNOWN), .unset, .unset, .unset] [(.int (1 : Int32))])) _
      refine XS.istore X5.here hx rfl (hb hby at_37) rfl (l' := #[.val (.int i0), .val (.int i1), .val (.ref o_UNKNOWN), .val (.int (1 : Int32)), .val (.ref o_UNKNOWN), .val (.int (1 : Int32)), .unset, .unset]) rfl ?_
      show Steps p.tables e below (T5.setTop (mkF m 39 #[.val (.int i0), .val (.int i1), .val (.ref o_UNKNOWN), .val (.int (1 : Int32)), .val (.ref o_UNKNOWN), .val (.int (1 : Int32)), .unset, .unset] [])) _
      refine XS.iloadN X5.here hx rfl (hb hby at_39) rfl ?_
      show Steps p.tables e below (T5.setTop (mkF m 40 #[.val (.int i0), .val (.int i1), .val (.ref o_UNKNOWN), .val (.int (1 : Int32)), .val (.ref o_UNKNOWN), .val (.int (1 : Int32)), .unset, .unset] [(.int (1 : Int32))])) _
      refine st6 _ ?_
      show Steps p.tables e below (T6.setTop (mkF m 43 #[.val (.int i0), .val (.int i1), .val (.ref o_UNKNOWN), .val (.int (1 : Int32)), .val (.ref o_UNKNOWN), .val (.int (1 : Int32)), .unset, .unset] [(.ref o_TRUE)])) _
      refine st7.trans ?_
      show Steps p.tables e below (T7.setTop (mkF m 46 #[.val (.int i0), .val (.int i1), .val (.ref o_UNKNOWN), .val (.int (1 : Int32)), .val (.ref o_UNKNOWN), .val (.int (1 : Int32)), .unset, .unset] [(.ref o_FALSE)])) _
      refine XS.iloadN X7.here hx rfl (hb hby at_46) rfl ?_
      show Steps p.tables e below (T7.setTop (mkF m 47 #[.val (.int i0), .val (.int i1), .val (.ref o_UNKNOWN), .val (.int (1 : Int32)), .val (.ref o_UNKNOWN), .val (.int (1 : Int32)), .unset, .unset] [(.int (1 : Int32)), (.ref o_FALSE)])) _
      refine XS.ifYes X7.here hx rfl (pc0 := 47) (pc' := 54) rfl (hb hby at_47) rfl ((if0 _ _).trans (feq (by decide : ¬ ((1 : Int32) = (0 : Int32)))).2) (by decide) (by decide) ?_
      show Steps p.tables e below (T7.setTop (mkF m 54 #[.val (.int i0), .val (.int i1), .val (.ref o_UNKNOWN), .val (.int (1 : Int32)), .val (.ref o_UNKNOWN), .val (.int (1 : Int32)), .unset, .unset] [(.ref o_FALSE)])) _
      refine XS.iconst X7.here hx rfl (hb hby at_54) ?_
      show Steps p.tables e below (T7.setTop (mkF m 55 #[.val (.int i0), .val (.int i1), .val (.ref o_UNKNOWN), .val (.int (1 : Int32)), .val (.ref o_UNKNOWN), .val (.int (1 : Int32)), .unset, .unset] [(.int (0 : Int32)), (.ref o_FALSE)])) _
      refine st8 _ ?_
      show Steps p.tables e below (T8.setTop (mkF m 58 #[.val (.int i0), .val (.int i1), .val (.ref o_UNKNOWN), .val (.int (1 : Int32)), .val (.ref o_UNKNOWN), .val (.int (1 : Int32)), .unset, .unset] [(.ref o_FALSE), (.ref o_FALSE)])) _
      refine Jvm.RoadKit.acmp (g := (mkF m 58 #[.val (.int i0), .val (.int i1), .val (.ref o_UNKNOWN), .val (.int (1 : Int32)), .val (.ref o_UNKNOWN), .val (.int (1 : Int32)), .unset, .unset] [(.ref o_FALSE), (.ref o_FALSE)])) X8 hx rfl rfl rfl (pc0 := 58) (pc' := 61) (same := true) rfl (hb hby at_58) rfl (decide_eq_true rfl) (by decide) (by decide) ?_
      show Steps p.tables e below (T8.setTop (mkF m 61 #[.val (.int i0), .val (.int i1), .val (.ref o_UNKNOWN), .val (.int (1 : Int32)), .val (.ref o_UNKNOWN), .val (.int (1 : Int32)), .unset, .unset] [])) _
      refine XS.iconst X8.here hx rfl (hb hby at_61) ?_
      show Steps p.tables e below (T8.setTop (mkF m 62 #[.val (.int i0), .val (.int i1), .val (.ref o_UNKNOWN), .val (.int (1 : Int32)), .val (.ref o_UNKNOWN), .val (.int (1 : Int32)), .unset, .unset] [(.int (1 : Int32))])) _
      refine XS.goto X8.here hx rfl (pc0 := 62) (pc' := 66) rfl (hb hby at_62) (by decide) (by decide) ?_
      show Steps p.tables e below (T8.setTop (mkF m 66 #[.val (.int i0), .val (.int i1), .val (.ref o_UNKNOWN), .val (.int (1 : Int32)), .val (.ref o_UNKNOWN), .val (.int (1 : Int32)), .unset, .unset] [(.int (1 : Int32))])) _
      refine XS.istore X8.here hx rfl (hb hby at_66) rfl (l' := #[.val (.int i0), .val (.int i1), .val (.ref o_UNKNOWN), .val (.int (1 : Int32)), .val (.ref o_UNKNOWN), .val (.int (1 : Int32)), .val (.int (1 : Int32)), .unset]) rfl ?_
      show Steps p.tables e below (T8.setTop (mkF m 68 #[.val (.int i0), .val (.int i1), .val (.ref o_UNKNOWN), .val (.int (1 : Int32)), .val (.ref o_UNKNOWN), .val (.int (1 : Int32)), .val (.int (1 : Int32)), .unset] [])) _
      refine XS.aload X8.here hx rfl (hb hby at_68) rfl rfl ?_
      show Steps p.tables e below (T8.setTop (mkF m 70 #[.val (.int i0), .val (.int i1), .val (.ref o_UNKNOWN), .val (.int (1 : Int32)), .val (.ref o_UNKNOWN), .val (.int (1 : Int32)), .val (.int (1 : Int32)), .unset] [(.ref o_UNKNOWN)])) _
      refine XS.aloadN X8.here hx rfl (hb hby at_70) rfl rfl ?_
      show Steps p.tables e below (T8.setTop (mkF m 71 #[.val (.int i0), .val (.int i1), .val (.ref o_UNKNOWN), .val (.int (1 : Int32)), .val (.ref o_UNKNOWN), .val (.int (1 : Int32)), .val (.int (1 : Int32)), .unset] [(.ref o_UNKNOWN), (.ref o_UNKNOWN)])) _
      refine Jvm.RoadKit.acmp (g := (mkF m 71 #[.val (.int i0), .val (.int i1), .val (.ref o_UNKNOWN), .val (.int (1 : Int32)), .val (.ref o_UNKNOWN), .val (.int (1 : Int32)), .val (.int (1 : Int32)), .unset] [(.ref o_UNKNOWN), (.ref o_UNKNOWN)])) X8 hx rfl rfl rfl (pc0 := 71) (pc' := 74) (same := true) rfl (hb hby at_71) rfl (decide_eq_true rfl) (by decide) (by decide) ?_
      show Steps p.tables e below (T8.setTop (mkF m 74 #[.val (.int i0), .val (.int i1), .val (.ref o_UNKNOWN), .val (.int (1 : Int32)), .val (.ref o_UNKNOWN), .val (.int (1 : Int32)), .val (.int (1 : Int32)), .unset] [])) _
      refine XS.iconst X8.here hx rfl (hb hby at_74) ?_
      show Steps p.tables e below (T8.setTop (mkF m 75 #[.val (.int i0), .val (.int i1), .val (.ref o_UNKNOWN), .val (.int (1 : Int32)), .val (.ref o_UNKNOWN), .val (.int (1 : Int32)), .val (.int (1 : Int32)), .unset] [(.int (1 : Int32))])) _
      refine XS.goto X8.here hx rfl (pc0 := 75) (pc' := 79) rfl (hb hby at_75) (by decide) (by decide) ?_
      show Steps p.tables e below (T8.setTop (mkF m 79 #[.val (.int i0), .val (.int i1), .val (.ref o_UNKNOWN), .val (.int (1 : Int32)), .val (.ref o_UNKNOWN), .val (.int (1 : Int32)), .val (.int (1 : Int32)), .unset] [(.int (1 : Int32))])) _
      refine XS.aloadN X8.here hx rfl (hb hby at_79) rfl rfl ?_
      show Steps p.tables e below (T8.setTop (mkF m 80 #[.val (.int i0), .val (.int i1), .val (.ref o_UNKNOWN), .val (.int (1 : Int32)), .val (.ref o_UNKNOWN), .val (.int (1 : Int32)), .val (.int (1 : Int32)), .unset] [(.ref o_UNKNOWN), (.int (1 : Int32))])) _
      refine st9 _ ?_
      show Steps p.tables e below (T9.setTop (mkF m 83 #[.val (.int i0), .val (.int i1), .val (.ref o_UNKNOWN), .val (.int (1 : Int32)), .val (.ref o_UNKNOWN), .val (.int (1 : Int32)), .val (.int (1 : Int32)), .unset] [(.ref o_UNKNOWN), (.ref o_UNKNOWN), (.int (1 : Int32))])) _
      refine Jvm.RoadKit.acmp (g := (mkF m 83 #[.val (.int i0), .val (.int i1), .val (.ref o_UNKNOWN), .val (.int (1 : Int32)), .val (.ref o_UNKNOWN), .val (.int (1 : Int32)), .val (.int (1 : Int32)), .unset] [(.ref o_UNKNOWN), (.ref o_UNKNOWN), (.int (1 : Int32))])) X9 hx rfl rfl rfl (pc0 := 83) (pc' := 86) (same := true) rfl (hb hby at_83) rfl (decide_eq_true rfl) (by decide) (by decide) ?_
      show Steps p.tables e below (T9.setTop (mkF m 86 #[.val (.int i0), .val (.int i1), .val (.ref o_UNKNOWN), .val (.int (1 : Int32)), .val (.ref o_UNKNOWN), .val (.int (1 : Int32)), .val (.int (1 : Int32)), .unset] [(.int (1 : Int32))])) _
      refine XS.iconst X9.here hx rfl (hb hby at_86) ?_
      show Steps p.tables e below (T9.setTop (mkF m 87 #[.val (.int i0), .val (.int i1), .val (.ref o_UNKNOWN), .val (.int (1 : Int32)), .val (.ref o_UNKNOWN), .val (.int (1 : Int32)), .val (.int (1 : Int32)), .unset] [(.int (1 : Int32)), (.int (1 : Int32))])) _
      refine XS.goto X9.here hx rfl (pc0 := 87) (pc' := 91) rfl (hb hby at_87) (by decide) (by decide) ?_
      show Steps p.tables e below (T9.setTop (mkF m 91 #[.val (.int i0), .val (.int i1), .val (.ref o_UNKNOWN), .val (.int (1 : Int32)), .val (.ref o_UNKNOWN), .val (.int (1 : Int32)), .val (.int (1 : Int32)), .unset] [(.int (1 : Int32)), (.int (1 : Int32))])) _
      refine XS.icmpNo X9.here hx rfl (hb hby at_91) rfl (teq (by decide : (1 : Int32) = (1 : Int32))).2 ?_
      show Steps p.tables e below (T9.setTop (mkF m 94 #[.val (.int i0), .val (.int i1), .val (.ref o_UNKNOWN), .val (.int (1 : Int32)), .val (.ref o_UNKNOWN), .val (.int (1 : Int32)), .val (.int (1 : Int32)), .unset] [])) _
      refine XS.iconst X9.here hx rfl (hb hby at_94) ?_
      show Steps p.tables e below (T9.setTop (mkF m 95 #[.val (.int i0), .val (.int i1), .val (.ref o_UNKNOWN), .val (.int (1 : Int32)), .val (.ref o_UNKNOWN), .val (.int (1 : Int32)), .val (.int (1 : Int32)), .unset] [(.int (1 : Int32))])) _
      refine XS.goto X9.here hx rfl (pc0 := 95) (pc' := 99) rfl (hb hby at_95) (by decide) (by decide) ?_
      show Steps p.tables e below (T9.setTop (mkF m 99 #[.val (.int i0), .val (.int i1), .val (.ref o_UNKNOWN), .val (.int (1 : Int32)), .val (.ref o_UNKNOWN), .val (.int (1 : Int32)), .val (.int (1 : Int32)), .unset] [(.int (1 : Int32))])) _
      refine XS.istore X9.here hx rfl (hb hby at_99) rfl (l' := #[.val (.int i0), .val (.int i1), .val (.ref o_UNKNOWN), .val (.int (1 : Int32)), .val (.ref o_UNKNOWN), .val (.int (1 : Int32)), .val (.int (1 : Int32)), .val (.int (1 : Int32))]) rfl ?_
      show Steps p.tables e below (T9.setTop (mkF m 101 #[.val (.int i0), .val (.int i1), .val (.ref o_UNKNOWN), .val (.int (1 : Int32)), .val (.ref o_UNKNOWN), .val (.int (1 : Int32)), .val (.int (1 : Int32)), .val (.int (1 : Int32))] [])) _
      refine XS.iload X9.here hx rfl (hb hby at_101) rfl ?_
      show Steps p.tables e below (T9.setTop (mkF m 103 #[.val (.int i0), .val (.int i1), .val (.ref o_UNKNOWN), .val (.int (1 : Int32)), .val (.ref o_UNKNOWN), .val (.int (1 : Int32)), .val (.int (1 : Int32)), .val (.int (1 : Int32))] [(.int (1 : Int32))])) _
      refine XS.ifNo X9.here hx rfl (hb hby at_103) rfl ((if0 _ _).trans (feq (by decide : ¬ ((1 : Int32) = (0 : Int32)))).1) ?_
      show Steps p.tables e below (T9.setTop (mkF m 106 #[.val (.int i0), .val (.int i1), .val (.ref o_UNKNOWN), .val (.int (1 : Int32)), .val (.ref o_UNKNOWN), .val (.int (1 : Int32)), .val (.int (1 : Int32)), .val (.int (1 : Int32))] [])) _
      refine XS.iload X9.here hx rfl (hb hby at_106) rfl ?_
      show Steps p.tables e below (T9.setTop (mkF m 108 #[.val (.int i0), .val (.int i1), .val (.ref o_UNKNOWN), .val (.int (1 : Int32)), .val (.ref o_UNKNOWN), .val (.int (1 : Int32)), .val (.int (1 : Int32)), .val (.int (1 : Int32))] [(.int (1 : Int32))])) _
      refine XS.ifNo X9.here hx rfl (hb hby at_108) rfl ((if0 _ _).trans (feq (by decide : ¬ ((1 : Int32) = (0 : Int32)))).1) ?_
      show Steps p.tables e below (T9.setTop (mkF m 111 #[.val (.int i0), .val (.int i1), .val (.ref o_UNKNOWN), .val (.int (1 : Int32)), .val (.ref o_UNKNOWN), .val (.int (1 : Int32)), .val (.int (1 : Int32)), .val (.int (1 : Int32))] [])) _
      refine XS.iload X9.here hx rfl (hb hby at_111) rfl ?_
      show Steps p.tables e below (T9.setTop (mkF m 113 #[.val (.int i0), .val (.int i1), .val (.ref o_UNKNOWN), .val (.int (1 : Int32)), .val (.ref o_UNKNOWN), .val (.int (1 : Int32)), .val (.int (1 : Int32)), .val (.int (1 : Int32))] [(.int (1 : Int32))])) _
      refine XS.ifNo X9.here hx rfl (hb hby at_113) rfl ((if0 _ _).trans (feq (by decide : ¬ ((1 : Int32) = (0 : Int32)))).1) ?_
      show Steps p.tables e below (T9.setTop (mkF m 116 #[.val (.int i0), .val (.int i1), .val (.ref o_UNKNOWN), .val (.int (1 : Int32)), .val (.ref o_UNKNOWN), .val (.int (1 : Int32)), .val (.int (1 : Int32)), .val (.int (1 : Int32))] [])) _
      refine XS.iconst X9.here hx rfl (hb hby at_116) ?_
      show Steps p.tables e below (T9.setTop (mkF m 117 #[.val (.int i0), .val (.int i1), .val (.ref o_UNKNOWN), .val (.int (1 : Int32)), .val (.ref o_UNKNOWN), .val (.int (1 : Int32)), .val (.int (1 : Int32)), .val (.int (1 : Int32))] [(.int (1 : Int32))])) _
      refine XS.goto X9.here hx rfl (pc0 := 117) (pc' := 121) rfl (hb hby at_117) (by decide) (by decide) ?_
      show Steps p.tables e below (T9.setTop (mkF m 121 #[.val (.int i0), .val (.int i1), .val (.ref o_UNKNOWN), .val (.int (1 : Int32)), .val (.ref o_UNKNOWN), .val (.int (1 : Int32)), .val (.int (1 : Int32)), .val (.int (1 : Int32))] [(.int (1 : Int32))])) _
      exact retN X9 hx (t := .boolean) Bd.returns (by simp) (hb hby at_121) hr
set_option maxRecDepth 65536 in
set_option maxHeartbeats 40000000 in
theorem comes_1 {Post : Tables → Env → Array Value → State → Outcome → State → Prop} (hpost : ∀ tb e args s v u, (limb_1_1.after args s (.returned v) u = true ∧ limb_1_2.after args s (.returned v) u = true ∧ True) → FrameEnd s (.returned v) u (Jvm.fieldLocs frame_1_writes args s ++ Jvm.arrayLocs frame_1_arrays args s ++ Jvm.staticLocs frame_1_statics s) 0 0 → Post tb e args s (.returned v) u) :
    ArmFor flags0 classFile x code maxLocals ret World_1 tables_1 room_1 Calls_1 rest_1 Pre_1 Post := by
  intro l hfl _ _ p e ha hc hk s m args below hf hA hF happ hP
  obtain ⟨hcalls, hrest, hpre⟩ := hP
  obtain ⟨-, -, -, hnamed, -, -, -, hat⟩ := (Spec.applies_iff hf).mp happ
  obtain ⟨hg, hn⟩ := and_e (Cond.before_iff.mp (show (Jvm.Cond.and given_1 narrow_1).before args s = true from hpre))
  obtain ⟨hg_1a, hg_1b⟩ := and_e hg
  obtain ⟨hg_2a, hg_2b⟩ := and_e hg_1b
  obtain ⟨w0, w1, rfl⟩ : ∃ w0 w1 : Value, args = #[w0, w1] := by
    have hs : args.size = 2 := by simpa [Cond.value, given_1] using hg_1a
    obtain ⟨L⟩ := args
    match L, hs with
    | [w0, w1], _ => exact ⟨w0, w1, rfl⟩
  have hw := fun d (hd : d ∈ tables_1) => atoms_spec (ws := Jvm.Cond.code x code maxLocals ret :: tables_1) hat d (List.mem_cons_of_mem _ hd)
  have hfit : Fit s := fun {y c} hc i hi => by
    obtain ⟨ha, rfl⟩ := Array.getElem?_eq_some_iff.mp hc
    have q := List.all_eq_true.mp ((Array.all_eq_true_iff_forall_mem.mp hF) _ (Array.getElem_mem ha)) i (List.mem_range.mpr hi)
    simpa [Array.getElem?_eq_getElem hi] using q
  obtain ⟨i0, ei0⟩ := is_v hg_2a
  obtain rfl : w0 = (.int i0) := Option.some.inj ei0
  obtain ⟨i1, ei1⟩ := is_v hg_2b
  obtain rfl : w1 = (.int i1) := Option.some.inj ei1
  obtain ⟨hn_1a, hn_1b⟩ := and_e hn
  obtain ⟨hn_2a, hn_2b⟩ := and_e hn_1b
  obtain ⟨hn_3a, hn_3b⟩ := and_e hn_2b
  obtain ⟨hn_4a, hn_4b⟩ := and_e hn_3b
  obtain ⟨hn_5a, hn_5b⟩ := and_e hn_4b
  obtain ⟨o_TRUE, ev_o_TRUE⟩ := exa_v hn_1a
  have S_o_TRUE := Sta.start ev_o_TRUE (Or.inr ⟨(own_w6 hw), (own_w7 hw)⟩)
  have E_o_TRUE := Exa.start ev_o_TRUE hn_1a
  obtain ⟨o_FALSE, ev_o_FALSE⟩ := exa_v hn_2a
  have S_o_FALSE := Sta.start ev_o_FALSE (Or.inr ⟨(own_w6 hw), (own_w15 hw)⟩)
  have E_o_FALSE := Exa.start ev_o_FALSE hn_2a
  obtain ⟨o_UNKNOWN, ev_o_UNKNOWN⟩ := exa_v hn_5a
  have S_o_UNKNOWN := Sta.start ev_o_UNKNOWN (Or.inr ⟨(own_w6 hw), (own_w20 hw)⟩)
  have E_o_UNKNOWN := Exa.start ev_o_UNKNOWN hn_5a
  have F_o_FALSE_ordinal := own_fldI ev_o_FALSE hn_3a
  have F_o_TRUE_ordinal := own_fldI ev_o_TRUE hn_4a
  have F_o_UNKNOWN_ordinal := own_fldI ev_o_UNKNOWN hn_5b
  obtain ⟨n, o, h1, h2, h3, _, L, rfl, ⟨rfl, N⟩, hq⟩ := rm0 l s _ hw tables_1 i0 i1 o_TRUE o_FALSE o_UNKNOWN s.heap s.heap.size (Nat.le_refl _) S_o_TRUE E_o_TRUE S_o_FALSE E_o_FALSE S_o_UNKNOWN E_o_UNKNOWN F_o_FALSE_ordinal F_o_TRUE_ordinal F_o_UNKNOWN_ordinal p e ha hc hk s m _ below hf ((Spec.applies_iff_loose hf).mp happ).1 ⟨rfl, State.Warmed39.refl s, rfl⟩ trivial
  refine ⟨n, _, h1, h2, h3, hpost _ _ _ _ _ _ ⟨Cond.after_iff.mpr rfl, Cond.after_iff.mpr (eq_i res_at (Term.int_eval (1)) rfl), trivial⟩ ⟨hq.1, hq.2.1, (hq.2.2.sift fun y hy => Or.inr (N y hy)).mono (by decide) (by decide)⟩⟩
theorem main_1_1 : Claimed_1_1 := comes_1 fun _ _ _ _ _ _ h hF => ⟨h.1, hF⟩
theorem main_1_2 : Claimed_1_2 := comes_1 fun _ _ _ _ _ _ h hF => ⟨h.2.1, hF⟩
end Jvm.Pilot.@@N@@
namespace Jvm.Pilot.@@N@@
open Jvm Jvm.ClassFile Sem Op Lib Jvm.Free Jvm.Stand Jvm.Pilot.@@N@@.Jvm.D
/-! MADE BY PROGRAM (witnessworld.py) out of the Statement's table words and the real class files: 12 classes; the members and pool entries that the words name. The judged class is class 1, her method 2. -/
namespace start1
open Jvm.ClassFile
def u (s : String) : CpInfo := .utf8 (stringToUtf16 s)
/-- a pool by its gaps: so many unusable entries, then the entry; so many at the end -/
def gap : Nat → List CpInfo → List CpInfo
  | 0, r => r
  | n + 1, r => .unusable :: gap n r
def poolList (es : List (Nat × CpInfo)) (last : Nat) : List CpInfo := es.foldr (fun e r => gap e.1 (e.2 :: r)) (gap last [])
def pool (es : List (Nat × CpInfo)) (last : Nat) : Array CpInfo := ⟨poolList es last⟩
def fileOf (pool : Array CpInfo) (this : Nat) (attrs : Array Attribute := #[]) (ms : Array MethodInfo := #[]) (fl : Nat := 33) (sup : Nat := 0) (ifs : Array Nat := #[]) (fds : Array FieldInfo := #[]) : ClassFile where
  minorVersion := 0
  majorVersion := 65
  constantPool := pool
  accessFlags := fl
  thisClass := this
  superClass := sup
  interfaces := ifs
  fields := fds
  methods := ms
  attributes := attrs
def plain (name : String) (sup : Option ClassId) : Class where
  name := name
  kind := .ordinary
  loader := none
  accessFlags := 33
  super := sup
  interfaces := #[]
  cf := none
  fields := #[]
  methods := #[]
  instanceTypes := #[]
  staticTypes := #[]
  resolved := #[]
  callSites := []
  init := .initialized
  statics := none
  mirror := none

def pool0 : Array CpInfo := pool [(5, u "<init>"), (0, u "()V"), (1, .class_ 10), (1, u "java/lang/Object")] 113

def k0m0 : Method := { name := "<init>", desc := "()V", sig := { parameters := [], returnType := none }, accessFlags := 1, code := none }
/-- java/lang/Object -/
def k0 : Class := { plain "java/lang/Object" none with
  accessFlags := 33
  interfaces := #[]
  cf := some (fileOf pool0 8 #[] #[{ accessFlags := 1, nameIndex := 5, descriptorIndex := 6, attributes := #[] }] 33 0 #[] #[])
  fields := #[]
  methods := #[k0m0]
  instanceTypes := #[]
  staticTypes := #[]
  resolved := Array.replicate 124 none
  statics := none }

def pool1 : Array CpInfo := pool [(2, .class_ 4), (1, u "java/lang/Object"), (0, u "<init>"), (0, u "()V"), (0, .integer 2147483647), (0, .fieldref 9 10), (0, .class_ 11), (0, .nameAndType 12 13), (0, u "com/example/erlaubnis/erlaubnis/policy/Truth"), (0, u "TRUE"), (0, u "Lcom/example/erlaubnis/erlaubnis/policy/Truth;"), (0, .fieldref 9 15), (0, .nameAndType 16 13), (0, u "FALSE"), (0, .fieldref 9 18), (0, .nameAndType 19 13), (0, u "UNKNOWN"), (0, .methodref 21 22), (0, .class_ 23), (0, .nameAndType 24 25), (0, u "com/example/erlaubnis/erlaubnis/policy/TruthNotPinLaw"), (0, u "pick"), (0, u "(I)Lcom/example/erlaubnis/erlaubnis/policy/Truth;"), (0, .methodref 9 27), (0, .nameAndType 28 29), (0, u "not"), (0, u "()Lcom/example/erlaubnis/erlaubnis/policy/Truth;"), (0, .methodref 9 31), (0, .nameAndType 32 33), (0, u "of"), (0, u "(Z)Lcom/example/erlaubnis/erlaubnis/policy/Truth;"), (3, u "law"), (0, u "(II)Z")] 2

def k1m0 : Method := { name := "<init>", desc := "()V", sig := { parameters := [], returnType := none }, accessFlags := 2, code := none }
def k1c1 : Code := { maxStack := 2, maxLocals := 2, code := method_2_code, exceptionTable := #[], attributes := #[] }
def k1m1 : Method := { name := "pick", desc := "(I)Lcom/example/erlaubnis/erlaubnis/policy/Truth;", sig := { parameters := [.int], returnType := some (.object "com/example/erlaubnis/erlaubnis/policy/Truth") }, accessFlags := 10, code := some k1c1 }
def k1c2 : Code := { maxStack := 3, maxLocals := 8, code := code, exceptionTable := #[], attributes := #[] }
def k1m2 : Method := { name := "law", desc := "(II)Z", sig := { parameters := [.int, .int], returnType := some .boolean }, accessFlags := 9, code := some k1c2 }
/-- com/example/erlaubnis/erlaubnis/policy/TruthNotPinLaw -/
def k1 : Class := { plain "com/example/erlaubnis/erlaubnis/policy/TruthNotPinLaw" (some 0) with
  accessFlags := 49
  interfaces := #[]
  cf := some (fileOf pool1 21 #[] #[{ accessFlags := 2, nameIndex := 5, descriptorIndex := 6, attributes := #[] }, { accessFlags := 10, nameIndex := 24, descriptorIndex := 25, attributes := #[] }, { accessFlags := 9, nameIndex := 37, descriptorIndex := 38, attributes := #[] }] 49 2 #[] #[])
  fields := #[]
  methods := #[k1m0, k1m1, k1m2]
  instanceTypes := #[]
  staticTypes := #[]
  resolved := Array.replicate 41 none
  statics := none }

def pool2 : Array CpInfo := pool [(1, .class_ 2), (0, u "java/lang/constant/Constable"), (0, .class_ 4), (0, u "java/lang/Object")] 6

/-- java/lang/constant/Constable -/
def k2 : Class := { plain "java/lang/constant/Constable" (some 0) with
  accessFlags := 1537
  interfaces := #[]
  cf := some (fileOf pool2 1 #[] #[] 1537 3 #[] #[])
  fields := #[]
  methods := #[]
  instanceTypes := #[]
  staticTypes := #[]
  resolved := Array.replicate 11 none
  statics := none }

def pool3 : Array CpInfo := pool [(1, .class_ 2), (0, u "java/lang/Comparable"), (0, .class_ 4), (0, u "java/lang/Object")] 7

/-- java/lang/Comparable -/
def k3 : Class := { plain "java/lang/Comparable" (some 0) with
  accessFlags := 1537
  interfaces := #[]
  cf := some (fileOf pool3 1 #[] #[] 1537 3 #[] #[])
  fields := #[]
  methods := #[]
  instanceTypes := #[]
  staticTypes := #[]
  resolved := Array.replicate 12 none
  statics := none }

def pool4 : Array CpInfo := pool [(1, .class_ 2), (0, u "java/io/Serializable"), (0, .class_ 4), (0, u "java/lang/Object")] 2

/-- java/io/Serializable -/
def k4 : Class := { plain "java/io/Serializable" (some 0) with
  accessFlags := 1537
  interfaces := #[]
  cf := some (fileOf pool4 1 #[] #[] 1537 3 #[] #[])
  fields := #[]
  methods := #[]
  instanceTypes := #[]
  staticTypes := #[]
  resolved := Array.replicate 7 none
  statics := none }

def pool5 : Array CpInfo := pool [(2, .class_ 4), (1, u "java/lang/Enum"), (0, u "name"), (0, u "Ljava/lang/String;"), (2, u "ordinal"), (0, u "I"), (1, .class_ 14), (1, u "java/lang/Object"), (4, u "hash"), (86, .class_ 108), (1, u "java/lang/Enum$EnumDesc"), (2, .class_ 112), (0, u "java/lang/constant/Constable"), (0, .class_ 114), (0, u "java/lang/Comparable"), (0, .class_ 116), (0, u "java/io/Serializable")] 87

/-- java/lang/Enum -/
def k5 : Class := { plain "java/lang/Enum" (some 0) with
  accessFlags := 1057
  interfaces := #[2, 3, 4]
  cf := some (fileOf pool5 2 #[.nestMembers #[106]] #[] 1057 12 #[111, 113, 115] #[{ accessFlags := 18, nameIndex := 5, descriptorIndex := 6, attributes := #[] }, { accessFlags := 18, nameIndex := 9, descriptorIndex := 10, attributes := #[] }, { accessFlags := 2, nameIndex := 19, descriptorIndex := 10, attributes := #[] }])
  fields := #[{ name := "name", type := (.object "java/lang/String"), accessFlags := 18, slot := 0, constantValue := 0 }, { name := "ordinal", type := .int, accessFlags := 18, slot := 1, constantValue := 0 }, { name := "hash", type := .int, accessFlags := 2, slot := 2, constantValue := 0 }]
  methods := #[]
  instanceTypes := #[(.object "java/lang/String"), .int, .int]
  staticTypes := #[]
  resolved := Array.replicate 204 none
  statics := none }

def pool6 : Array CpInfo := pool [(1, .class_ 2), (0, u "com/example/erlaubnis/erlaubnis/policy/Truth"), (0, .fieldref 1 4), (0, .nameAndType 5 6), (0, u "TRUE"), (0, u "Lcom/example/erlaubnis/erlaubnis/policy/Truth;"), (0, .fieldref 1 8), (0, .nameAndType 9 6), (0, u "FALSE"), (0, .fieldref 1 11), (0, .nameAndType 12 6), (0, u "UNKNOWN"), (2, u "$VALUES"), (0, u "[Lcom/example/erlaubnis/erlaubnis/policy/Truth;"), (6, .class_ 25), (1, u "java/lang/Enum"), (21, u "of"), (0, u "(Z)Lcom/example/erlaubnis/erlaubnis/policy/Truth;"), (1, u "not"), (0, u "()Lcom/example/erlaubnis/erlaubnis/policy/Truth;"), (5, .class_ 58), (0, u "com/example/erlaubnis/erlaubnis/policy/Truth$Junction")] 2

def k6c0 : Code := { maxStack := 1, maxLocals := 1, code := prog_17_method_4_code, exceptionTable := #[], attributes := #[] }
def k6m0 : Method := { name := "of", desc := "(Z)Lcom/example/erlaubnis/erlaubnis/policy/Truth;", sig := { parameters := [.boolean], returnType := some (.object "com/example/erlaubnis/erlaubnis/policy/Truth") }, accessFlags := 8, code := some k6c0 }
def k6c1 : Code := { maxStack := 2, maxLocals := 2, code := prog_17_method_5_code, exceptionTable := #[], attributes := #[] }
def k6m1 : Method := { name := "not", desc := "()Lcom/example/erlaubnis/erlaubnis/policy/Truth;", sig := { parameters := [], returnType := some (.object "com/example/erlaubnis/erlaubnis/policy/Truth") }, accessFlags := 0, code := some k6c1 }
/-- com/example/erlaubnis/erlaubnis/policy/Truth -/
def k6 : Class := { plain "com/example/erlaubnis/erlaubnis/policy/Truth" (some 5) with
  accessFlags := 16432
  interfaces := #[]
  cf := some (fileOf pool6 1 #[.nestMembers #[57]] #[{ accessFlags := 8, nameIndex := 47, descriptorIndex := 48, attributes := #[] }, { accessFlags := 0, nameIndex := 50, descriptorIndex := 51, attributes := #[] }] 16432 23 #[] #[{ accessFlags := 16409, nameIndex := 5, descriptorIndex := 6, attributes := #[] }, { accessFlags := 16409, nameIndex := 9, descriptorIndex := 6, attributes := #[] }, { accessFlags := 16409, nameIndex := 12, descriptorIndex := 6, attributes := #[] }, { accessFlags := 4122, nameIndex := 15, descriptorIndex := 16, attributes := #[] }])
  fields := #[{ name := "TRUE", type := (.object "com/example/erlaubnis/erlaubnis/policy/Truth"), accessFlags := 16409, slot := 0, constantValue := 0 }, { name := "FALSE", type := (.object "com/example/erlaubnis/erlaubnis/policy/Truth"), accessFlags := 16409, slot := 1, constantValue := 0 }, { name := "UNKNOWN", type := (.object "com/example/erlaubnis/erlaubnis/policy/Truth"), accessFlags := 16409, slot := 2, constantValue := 0 }, { name := "$VALUES", type := (.array (.object "com/example/erlaubnis/erlaubnis/policy/Truth")), accessFlags := 4122, slot := 3, constantValue := 0 }]
  methods := #[k6m0, k6m1]
  instanceTypes := #[(.object "java/lang/String"), .int, .int]
  staticTypes := #[(.object "com/example/erlaubnis/erlaubnis/policy/Truth"), (.object "com/example/erlaubnis/erlaubnis/policy/Truth"), (.object "com/example/erlaubnis/erlaubnis/policy/Truth"), (.array (.object "com/example/erlaubnis/erlaubnis/policy/Truth"))]
  resolved := Array.replicate 61 none
  statics := some 0 }

def pool7 : Array CpInfo := pool [(1, u "java/lang/Cloneable"), (0, .class_ 1), (0, u "java/lang/Object"), (0, .class_ 3)] 3

/-- java/lang/Cloneable -/
def k7 : Class := { plain "java/lang/Cloneable" (some 0) with
  accessFlags := 1537
  interfaces := #[]
  cf := some (fileOf pool7 2 #[] #[] 1537 4 #[] #[])
  fields := #[]
  methods := #[]
  instanceTypes := #[]
  staticTypes := #[]
  resolved := Array.replicate 8 none
  statics := none }

/-- the primitive byte -/
def k8 : Class := { plain "byte" none with kind := .primitive 'B', accessFlags := 0x411 }
/-- [B -/
def k9 : Class := { plain "[B" (some 0) with kind := .array 8 .byte, interfaces := #[7, 4], accessFlags := 1041 }

/-- the primitive int -/
def k10 : Class := { plain "int" none with kind := .primitive 'I', accessFlags := 0x411 }
/-- [I -/
def k11 : Class := { plain "[I" (some 0) with kind := .array 10 .int, interfaces := #[7, 4], accessFlags := 1041 }

def heap : Heap := #[{ cls := 6, slots := #[.ref 1, .ref 2, .ref 3, .null], vm := .statics 6 },
  { cls := 6, slots := #[.null, .int 0, .int 0], vm := .none },
  { cls := 6, slots := #[.null, .int 1, .int 0], vm := .none },
  { cls := 6, slots := #[.null, .int 2, .int 0], vm := .none }]
def classes : Array Class := #[k0, k1, k2, k3, k4, k5, k6, k7, k8, k9, k10, k11]
def interned : List (Array UInt16 × Addr) := []
def slotsUsed : Nat := 13
def theMethod : MethodId := ⟨1, 2⟩
def args0 : Array Value := #[.int 5, .int 1]
def aboutOver (below : List Frame) : State where
  vm := { classes := classes, interned := interned.toArray }
  heap := heap
  slotsUsed := slotsUsed
  threads := #[{ frames := .invoking theMethod args0 :: below }]
def below0 : List Frame := [.native { method := ⟨0, 0⟩, args := #[] }]
def about1 : State := aboutOver below0
def p0 : Program := .bare "" "" ""
def e0 : Env := launch0.env 0 0 0
theorem w_frames : about1.frames = Frame.invoking theMethod args0 :: below0 := rfl
set_option maxRecDepth 65536 in
theorem w_args : argsFit about1.vm theMethod args0 = true := by decide +kernel
set_option maxRecDepth 65536 in
theorem w_heap : heapFits about1 = true := by decide +kernel
set_option maxRecDepth 65536 in
theorem w_runnable : about1.curStatus? = some .runnable := by decide +kernel
set_option maxRecDepth 65536 in
theorem w_alone : about1.alone = true := by decide +kernel
set_option maxRecDepth 65536 in
theorem w_named : about1.methodNamed? x = some theMethod := by decide +kernel
set_option maxRecDepth 65536 in
theorem w_hears : about1.hears theMethod below0 = true := by decide +kernel
set_option maxRecDepth 65536 in
theorem w_ripe : about1.ripe theMethod args0 below0 = true := by decide +kernel
theorem w_running : about1.status = .running := rfl
set_option maxRecDepth 65536 in
theorem w_room : about1.hasRoom e0.platform room_1 = true :=
  launch0.hasRoom_least _ room_1 (by decide +kernel) (by decide +kernel) (by decide +kernel) (by decide +kernel) (by decide +kernel) (by decide +kernel)
theorem allAtoms_all (ts : List Jvm.Cond) (a : Array Jvm.Value) (st : Jvm.State) : (allAtoms ts).before a st = ts.all (fun c => c.before a st) := by
  induction ts with
  | nil => rfl
  | cons c t ih =>
    show (Jvm.Cond.and c (allAtoms t)).before a st = _
    rw [Jvm.Cond.before_and, ih, List.all_cons]
def words1 : List Jvm.Cond := Jvm.Cond.code x code maxLocals ret :: tables_1
/-- a 'code' word, met by the world's own term for the bytes: nothing is compared byte by byte -/
theorem code_word {y : MethodName} {bytes : ByteArray} {mx : Nat} {rt : Option FieldType} {a : Array Value} {s : State} {m : MethodId} {meth : Method} {c : Code} (h1 : s.methodNamed? y = some m) (h2 : s.vm.method? m = some meth) (h3 : meth.code = some c) (h4 : c.code = bytes)
    (h5 : (c.maxLocals == mx && c.exceptionTable.isEmpty && decide (c.maxStack ≤ mostOperands) && decide (meth.sig.returnType = rt) && !meth.locks && decide (parseMethodDescriptor y.desc = some meth.sig)) = true) : (Jvm.Cond.code y bytes mx rt).before a s = true := by
  simp only [Bool.and_eq_true, beq_iff_eq, Bool.not_eq_true', decide_eq_true_eq] at h5
  obtain ⟨⟨⟨⟨⟨g1, g2⟩, g3⟩, g4⟩, g5⟩, g6⟩ := h5
  simp [Cond.before, Cond.holds, Cond.value, h1, h2, h3, h4, g1, g2, g3, g4, g5, g6]
def isCode : Jvm.Cond → Bool
  | .code _ _ _ _ => true
  | _ => false
theorem all_split {L : List Jvm.Cond} {P : Jvm.Cond → Bool} (h1 : L.all (fun c => isCode c || P c) = true) (h2 : ∀ c ∈ L.filter isCode, P c = true) : L.all P = true := by
  refine List.all_eq_true.mpr fun c hc => ?_
  have h := List.all_eq_true.mp h1 c hc
  rcases Bool.eq_false_or_eq_true (isCode c) with hi | hi
  · exact h2 c (List.mem_filter.mpr ⟨hc, hi⟩)
  · simpa [hi] using h
set_option maxRecDepth 65536 in
theorem w_c0 : (Jvm.Cond.code x code maxLocals ret).before args0 about1 = true := code_word (m := ⟨1, 2⟩) (meth := k1m2) (c := k1c2) (by decide +kernel) rfl rfl rfl (by decide +kernel)
set_option maxRecDepth 65536 in
theorem w_c1 : (Jvm.Cond.code ({ cls := "com/example/erlaubnis/erlaubnis/policy/TruthNotPinLaw", name := "pick", desc := "(I)Lcom/example/erlaubnis/erlaubnis/policy/Truth;" } : Jvm.MethodName) method_2_code (2 : Nat) (Option.some (Jvm.ClassFile.FieldType.object "com/example/erlaubnis/erlaubnis/policy/Truth"))).before args0 about1 = true := code_word (m := ⟨1, 1⟩) (meth := k1m1) (c := k1c1) (by decide +kernel) rfl rfl rfl (by decide +kernel)
set_option maxRecDepth 65536 in
theorem w_c2 : (Jvm.Cond.code ({ cls := "com/example/erlaubnis/erlaubnis/policy/Truth", name := "not", desc := "()Lcom/example/erlaubnis/erlaubnis/policy/Truth;" } : Jvm.MethodName) prog_17_method_5_code (2 : Nat) (Option.some (Jvm.ClassFile.FieldType.object "com/example/erlaubnis/erlaubnis/policy/Truth"))).before args0 about1 = true := code_word (m := ⟨6, 1⟩) (meth := k6m1) (c := k6c1) (by decide +kernel) rfl rfl rfl (by decide +kernel)
set_option maxRecDepth 65536 in
theorem w_c3 : (Jvm.Cond.code ({ cls := "com/example/erlaubnis/erlaubnis/policy/Truth", name := "of", desc := "(Z)Lcom/example/erlaubnis/erlaubnis/policy/Truth;" } : Jvm.MethodName) prog_17_method_4_code (1 : Nat) (Option.some (Jvm.ClassFile.FieldType.object "com/example/erlaubnis/erlaubnis/policy/Truth"))).before args0 about1 = true := code_word (m := ⟨6, 0⟩) (meth := k6m0) (c := k6c0) (by decide +kernel) rfl rfl rfl (by decide +kernel)
def codes1 : List Jvm.Cond := [Jvm.Cond.code x code maxLocals ret, Jvm.Cond.code ({ cls := "com/example/erlaubnis/erlaubnis/policy/TruthNotPinLaw", name := "pick", desc := "(I)Lcom/example/erlaubnis/erlaubnis/policy/Truth;" } : Jvm.MethodName) method_2_code (2 : Nat) (Option.some (Jvm.ClassFile.FieldType.object "com/example/erlaubnis/erlaubnis/policy/Truth")), Jvm.Cond.code ({ cls := "com/example/erlaubnis/erlaubnis/policy/Truth", name := "not", desc := "()Lcom/example/erlaubnis/erlaubnis/policy/Truth;" } : Jvm.MethodName) prog_17_method_5_code (2 : Nat) (Option.some (Jvm.ClassFile.FieldType.object "com/example/erlaubnis/erlaubnis/policy/Truth")), Jvm.Cond.code ({ cls := "com/example/erlaubnis/erlaubnis/policy/Truth", name := "of", desc := "(Z)Lcom/example/erlaubnis/erlaubnis/policy/Truth;" } : Jvm.MethodName) prog_17_method_4_code (1 : Nat) (Option.some (Jvm.ClassFile.FieldType.object "com/example/erlaubnis/erlaubnis/policy/Truth"))]
set_option maxRecDepth 65536 in
theorem codes_eq : words1.filter isCode = codes1 := rfl
theorem w_codes : ∀ c ∈ words1.filter isCode, c.before args0 about1 = true := by
  rw [codes_eq]
  intro c hc
  simp only [codes1, List.mem_cons, List.not_mem_nil, or_false] at hc
  rcases hc with rfl | rfl | rfl | rfl
  · exact w_c0
  · exact w_c1
  · exact w_c2
  · exact w_c3
set_option maxRecDepth 65536 in
theorem w_t1 : words1.all (fun c => isCode c || c.before args0 about1) = true := by decide +kernel
theorem w_tables : (allAtoms (Jvm.Cond.code x code maxLocals ret :: tables_1)).before args0 about1 = true := by
  rw [allAtoms_all]
  show words1.all (fun c => c.before args0 about1) = true
  refine all_split ?_ w_codes
  rw [w_t1]
set_option maxRecDepth 65536 in
theorem w_case : (Jvm.Cond.and given_1 narrow_1).before args0 about1 = true := by decide +kernel
theorem w_applies : (headSpec (Jvm.Cond.code x code maxLocals ret :: tables_1) room_1).applies x e0.platform about1 = true :=
  (Spec.applies_iff w_frames).mpr ⟨w_running, w_runnable, w_alone, w_named, w_hears, w_ripe, w_room, w_tables⟩
theorem atStart : AtStart classFile x code maxLocals ret World_1 tables_1 room_1 Calls_1 rest_1 Pre_1 launch0 p0 e0 about1 theMethod args0 below0 :=
  ⟨lists_1, trivial, launch0.admits_env _ _ _, launch0.least_env, fairChoices_fair.cas, fairChoices_fair.clock, w_frames, w_args, w_heap, w_applies, trivial, trivial, w_case⟩
end start1
theorem witness_1 : WitnessClaimed_1 := ⟨start1.p0, start1.e0, start1.about1, start1.theMethod, start1.args0, start1.below0, start1.atStart⟩
end Jvm.Pilot.@@N@@
