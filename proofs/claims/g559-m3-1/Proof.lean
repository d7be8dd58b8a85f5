import JvmDerived
import JvmDerived.Pilot.@@N@@Statement
import JvmDerived.Pilot.@@N@@Code
set_option linter.unusedVariables false
set_option linter.unusedSimpArgs false
namespace Jvm.RoadKit
open Sem ClassFile Op Lib Jvm.Stand Jvm.Free Jvm.LawKit
section New
variable {p : Program} {l : Launch} {e : Env} {R : Room} {s : State} {m : MethodId} {args : Array Value} {below : List Frame} {meth : Method} {c : Code} {T : State} {locs : List Loc} {cells slots : Nat}
theorem retI (X : Stand p l e R s m args below meth c T locs cells slots) (hx : p.tables.exec = Jvm.exec) {pc : Nat} {Ls : Array Slot} {z : Int32} {rest : List Value} (hret : meth.sig.returnType = some .int) (hd : decode c.code pc = .ok (.ireturn, 1)) {fs : List Frame}
    (hl : ∀ (f : JFrame) (acts : List Action), f.method = m → f.locked = none → f.entered = [] → (doReturn e (T.setTop f) acts (some (.int z))).1 = T.setFrames fs) : Steps p.tables e below (T.setTop (mkF m pc Ls (.int z :: rest))) (T.setFrames fs) :=
  retOut X hx hret rfl (Or.inl ⟨rfl, Or.inl rfl, z, rfl⟩) hd hl
end New
section Carry
variable {Z : State} {h h' : Heap} {C n d : String} {v : Value}
theorem own_ns0 : ∀ x ∈ ([] : List Addr), ∀ c : Cell, h[x]? = some c → c.vm.isStatics = false := fun _ q => nomatch q
theorem own_nsS {a : Addr} {K : String} {L : List Addr} (F : Exa Z h a K) (r : ∀ x ∈ L, ∀ c : Cell, h[x]? = some c → c.vm.isStatics = false) : ∀ x ∈ a :: L, ∀ c : Cell, h[x]? = some c → c.vm.isStatics = false := fun x z c hc => by
  rcases List.mem_cons.mp z with rfl | z
  · obtain ⟨c1, _, h1, -, -, h4, -⟩ := F
    cases h1.symm.trans hc; exact h4
  · exact r x z c hc
theorem own_sta_keep {ws : List Addr} (F : Sta Z h C n d v) (K : Keep h h' ws) (q : ∀ x ∈ ws, ∀ c : Cell, h[x]? = some c → c.vm.isStatics = false) : Sta Z h' C n d v := by
  obtain ⟨cf, i, k, f, st, cell, h1, h2, h3, h4, h5, h6, h7⟩ := F
  exact ⟨cf, i, k, f, st, cell, h1, h2, h3, h4, K.2.1 st cell h5 (fun z => by rw [q st z cell h5] at h6; cases h6), h6, h7⟩
theorem own_fitc {a : Addr} {cl : Cell} {ty : FieldType} {vs : List Value} {d : Value} (A : Arr Z h a cl ty) (H : Has cl vs d) (G : ∀ i, i < cl.slots.size → fits ty (vs.getD i d) = true) : FitC Z cl :=
  fitC_of A fun i hi v hv => by rw [H i hi] at hv; cases hv; exact G i hi
theorem own_evI {args : Array Value} {s : State} {t : Term} {k : Int32} (hh : (Cond.eq t (.int k)).value args s none s [] = some true) : t.eval args s none [] s = some (.int k) := by
  cases hf : t.eval args s none [] s with
  | none => simp [Cond.value, hf] at hh
  | some w => cases w <;> simp [Cond.value, hf, Term.eval] at hh ⊢; exact hh
theorem own_evJ {args : Array Value} {s : State} {t : Term} {k : Int64} (hh : (Cond.eq t (.long k)).value args s none s [] = some true) : t.eval args s none [] s = some (.long k) := by
  cases hf : t.eval args s none [] s with
  | none => simp [Cond.value, hf] at hh
  | some w => cases w <;> simp [Cond.value, hf, Term.eval] at hh ⊢; exact hh
theorem own_evR {args : Array Value} {s : State} {t u : Term} {y : Addr} (hu : u.eval args s none [] s = some (.ref y)) (hh : (Cond.eq t u).value args s none s [] = some true) : t.eval args s none [] s = some (.ref y) := by
  cases hf : t.eval args s none [] s with
  | none => simp [Cond.value, hf] at hh
  | some w => cases w <;> simp [Cond.value, hf, hu] at hh ⊢; exact hh
theorem own_elem {args : Array Value} {s : State} {t u : Term} {x y : Addr} {k : Int32} {cl : Cell} (ht : t.eval args s none [] s = some (.ref x)) (hu : u.eval args s none [] s = some (.ref y)) (hc : s.heap[x]? = some cl) (hh : (Cond.eq (.elem t (.int k)) u).value args s none s [] = some true) : cl.slots[k.toNatClampNeg]? = some (.ref y) :=
  (elem_in (own_evR hu hh) ht rfl hc).2
theorem own_arv {args : Array Value} {s : State} {t : Term} {a : Addr} {c : Cell} {ty : FieldType} {z : Int32} {vs : List Value} {dv : Value} (hf : Fit s) (ev : t.eval args s none [] s = some (.ref a)) (A : Arr s s.heap a c ty) (hl : (Cond.eq (.length t) (.int z)).value args s none s [] = some true) (hz : ¬ z < 0) (hn : z.toNatClampNeg = vs.length) (H : HasL c 0 vs) : Arv s s.heap a c.cls ty z vs dv := by
  have e1 := own_evI hl
  have e2 : s.arrayAt? a = some c := A.fin (Vm.Alike.refl _)
  have q : c.slots.size < 2 ^ 31 := by
    apply Decidable.byContradiction
    intro hq
    simp [Term.eval, ev, e2, hq] at e1
  have e3 := len_f ev e2 q
  exact Arv.start hf A q (Value.int.inj (Option.some.inj (e3.symm.trans e1))) hz hn H
theorem own_lam {s : State} {a0 : Array Value} {y : MethodName} {m : MethodId} {pc index : Nat} {σ : Lambda.Shape} (hZ : Z.Warmed39 s.vm) (w : (Cond.lambdaSite y pc index σ).before a0 Z = true) (hcap : σ.captured = []) (hn : s.methodNamed? y = some m) :
    ∃ (k : Class) (i0 p0 : Nat) (a : Addr), s.vm.classes[m.cls]? = some k ∧ (k.callSites.find? fun z => z.1 == m.idx && z.2.1 == pc) = some (i0, p0, .constant a) := by
  obtain ⟨c, one, hat⟩ := Cond.lambdaSite_spec w
  obtain ⟨m', kS, cfS, i0, p0, lk, hm', hkS, -, -, -, hfind, -, -, hlk⟩ := State.lambdaAt?_spec hat
  have e1 : s.methodNamed? y = Z.methodNamed? y := State.methodNamed?_setVm (s := Z) hZ.alike y
  rw [e1, hm'] at hn
  cases hn
  obtain ⟨k', hk', he⟩ := hZ.alike.2.2 _ _ hkS
  rcases hlk with ⟨a, cell, rfl, -⟩ | ⟨-, -, h⟩
  · exact ⟨k', i0, p0, a, hk', by rw [he]; exact hfind⟩
  · exact absurd hcap h
theorem own_cmp_self (x : Int64) : lcmpW x x = 0 := (lcW x x).trans ((lc_eq x x).mpr rfl)
theorem own_cmp_lt (x : Int64) : ¬ (lcmpW x x < (0 : Int32)) := by rw [own_cmp_self]; decide
theorem own_cmp_gt (x : Int64) : ¬ ((0 : Int32) < lcmpW x x) := by rw [own_cmp_self]; decide
theorem own_sel_priv {s : State} {args args' : Array Value} {K : String} {y z z' : MethodName} (w : (Cond.selects K z' z).before args s = true) (hz : z.cls = y.cls) (hpriv : s.PrivateAt y) (hinst : (Cond.instanceMethod y).before args' s = true) (hy : y.cls ≠ "java/lang/invoke/MethodHandle" ∧ y.cls ≠ "java/lang/invoke/VarHandle") : (Cond.selects y.cls y y).before args' s = true := by
  obtain ⟨c2, r2, m2, q1, q2, q3, q4, kP, hkP, hkPi⟩ := Cond.selects_spec w
  have hc : s.vm.findClass z.cls = some m2.cls := findClass_of_methodNamed q3
  rw [hz] at hc
  exact selects_self_of_private hc hkP hkPi hpriv hinst hy
theorem own_lt_ne {a b : Int32} (q : a < b) : ¬ (a = b) := by intro z; subst z; exact Int32.lt_irrefl q
theorem own_gt_ne {a b : Int32} (q : b < a) : ¬ (a = b) := by intro z; subst z; exact Int32.lt_irrefl q
theorem own_eq_nlt {a b : Int32} (q : a = b) : ¬ (a < b) := by subst q; exact Int32.lt_irrefl
theorem own_nlt {a b : Int32} (q : b < a) : ¬ (a < b) := fun z => Int32.lt_irrefl (Int32.lt_trans z q)
theorem own_tri2 {a b : Int32} (q : ¬ (a = b)) (r : ¬ (b < a)) : a < b := by
  rw [← Int32.toInt_inj] at q; rw [Int32.lt_iff_toInt_lt] at r ⊢; omega
theorem own_fldI {args : Array Value} {s : State} {t : Term} {x : Addr} {C n d : String} {k : Int32} (ht : t.eval args s none [] s = some (.ref x)) (hh : (Cond.eq (.field t C n d) (.int k)).value args s none s [] = some true) : Fld s s.heap x C n d (.int k) :=
  Fld.start ((fld_at ht).symm.trans (own_evI hh))
theorem own_fldJ {args : Array Value} {s : State} {t : Term} {x : Addr} {C n d : String} {k : Int64} (ht : t.eval args s none [] s = some (.ref x)) (hh : (Cond.eq (.field t C n d) (.long k)).value args s none s [] = some true) : Fld s s.heap x C n d (.long k) :=
  Fld.start ((fld_at ht).symm.trans (own_evJ hh))
theorem own_fldN {args : Array Value} {s : State} {t : Term} {x : Addr} {C n d : String} (ht : t.eval args s none [] s = some (.ref x)) (hh : (Cond.eq (.field t C n d) .null).value args s none s [] = some true) : Fld s s.heap x C n d .null := by
  refine Fld.start ?_
  have e1 : (Term.field t C n d).eval args s none [] s = s.fieldOf? x C n d := fld_at ht
  rw [← e1]; exact null_v hh
theorem own_fldR {args : Array Value} {s : State} {t u : Term} {x y : Addr} {C n d : String} (ht : t.eval args s none [] s = some (.ref x)) (hu : u.eval args s none [] s = some (.ref y)) (hh : (Cond.eq (.field t C n d) u).value args s none s [] = some true) : Fld s s.heap x C n d (.ref y) :=
  Fld.start ((fld_at ht).symm.trans (own_evR hu hh))
end Carry
end Jvm.RoadKit
namespace Jvm.Pilot.@@N@@
open Jvm Jvm.ClassFile Sem Op Lib Jvm.Free Jvm.Stand Jvm.LawKit Jvm.RoadKit Bundle Jvm.Pilot.@@N@@.Jvm.D
theorem own_bit (x : Int32) : (x &&& (1 : Int32)) = (0 : Int32) ∨ (x &&& (1 : Int32)) = (1 : Int32) := by
  have e1 := c_mask x (1 : Int32) 1 (by decide) (by decide)
  simp only [← Int32.toInt_inj]
  have l0 : (0 : Int32).toInt = 0 := by decide
  have l1 : (1 : Int32).toInt = 1 := by decide
  rw [l0, l1]
  omega
theorem own_w22 {Z : State} {a0 : Array Value} (hw : ∀ d ∈ tables_1, d.before a0 Z = true) : (Jvm.Cond.initializedFor "com/example/delehat/delehat/protocols/whois/WhoisQuery$Flag" "$VALUES" "[Lcom/example/delehat/delehat/protocols/whois/WhoisQuery$Flag;").before a0 Z = true := hw _ (List.mem_of_getElem? (i := 22) rfl)
theorem own_w17 {Z : State} {a0 : Array Value} (hw : ∀ d ∈ tables_1, d.before a0 Z = true) : (Jvm.Cond.laysStatic "com/example/delehat/delehat/protocols/whois/WhoisQuery$Flag" "REGISTRAR" "Lcom/example/delehat/delehat/protocols/whois/WhoisQuery$Flag;").before a0 Z = true := hw _ (List.mem_of_getElem? (i := 17) rfl)
theorem own_w3 {Z : State} {a0 : Array Value} (hw : ∀ d ∈ tables_1, d.before a0 Z = true) : (Jvm.Cond.initialized "com/example/delehat/delehat/protocols/whois/WhoisQuery$Flag").before a0 Z = true := hw _ (List.mem_of_getElem? (i := 3) rfl)
theorem own_w18 {Z : State} {a0 : Array Value} (hw : ∀ d ∈ tables_1, d.before a0 Z = true) : (Jvm.Cond.laysStatic "com/example/delehat/delehat/protocols/whois/WhoisQuery$Flag" "REGISTRANT" "Lcom/example/delehat/delehat/protocols/whois/WhoisQuery$Flag;").before a0 Z = true := hw _ (List.mem_of_getElem? (i := 18) rfl)
theorem own_w19 {Z : State} {a0 : Array Value} (hw : ∀ d ∈ tables_1, d.before a0 Z = true) : (Jvm.Cond.laysStatic "com/example/delehat/delehat/protocols/whois/WhoisQuery$Flag" "ADMIN" "Lcom/example/delehat/delehat/protocols/whois/WhoisQuery$Flag;").before a0 Z = true := hw _ (List.mem_of_getElem? (i := 19) rfl)
theorem own_w20 {Z : State} {a0 : Array Value} (hw : ∀ d ∈ tables_1, d.before a0 Z = true) : (Jvm.Cond.laysStatic "com/example/delehat/delehat/protocols/whois/WhoisQuery$Flag" "TECH" "Lcom/example/delehat/delehat/protocols/whois/WhoisQuery$Flag;").before a0 Z = true := hw _ (List.mem_of_getElem? (i := 20) rfl)
theorem own_w21 {Z : State} {a0 : Array Value} (hw : ∀ d ∈ tables_1, d.before a0 Z = true) : (Jvm.Cond.laysStatic "com/example/delehat/delehat/protocols/whois/WhoisQuery$Flag" "SHORT" "Lcom/example/delehat/delehat/protocols/whois/WhoisQuery$Flag;").before a0 Z = true := hw _ (List.mem_of_getElem? (i := 21) rfl)
theorem own_w1 {Z : State} {a0 : Array Value} (hw : ∀ d ∈ tables_1, d.before a0 Z = true) : (Jvm.Cond.methodLink "com/example/delehat/delehat/protocols/whois/WhoisQueryOfPinLaw" (26 : Nat) ({ cls := "com/example/delehat/delehat/protocols/whois/WhoisQuery$Flag", name := "of", desc := "(C)Ljava/util/Optional;" } : Jvm.MethodName)).before a0 Z = true := hw _ (List.mem_of_getElem? (i := 1) rfl)
theorem d1_0 : decode prog_93_method_4_code 0 = .ok (.invokestatic 42, 3) := by decide +kernel
theorem own_w5 {Z : State} {a0 : Array Value} (hw : ∀ d ∈ tables_1, d.before a0 Z = true) : (Jvm.Cond.methodLink "com/example/delehat/delehat/protocols/whois/WhoisQuery$Flag" (42 : Nat) ({ cls := "com/example/delehat/delehat/protocols/whois/WhoisQuery$Flag", name := "values", desc := "()[Lcom/example/delehat/delehat/protocols/whois/WhoisQuery$Flag;" } : Jvm.MethodName)).before a0 Z = true := hw _ (List.mem_of_getElem? (i := 5) rfl)
theorem d2_0 : decode prog_93_method_1_code 0 = .ok (.getstatic 19, 3) := by decide +kernel
theorem own_w8 {Z : State} {a0 : Array Value} (hw : ∀ d ∈ tables_1, d.before a0 Z = true) : (Jvm.Cond.fieldLink "com/example/delehat/delehat/protocols/whois/WhoisQuery$Flag" (19 : Nat) "com/example/delehat/delehat/protocols/whois/WhoisQuery$Flag" "$VALUES" "[Lcom/example/delehat/delehat/protocols/whois/WhoisQuery$Flag;").before a0 Z = true := hw _ (List.mem_of_getElem? (i := 8) rfl)
theorem d2_3 : decode prog_93_method_1_code 3 = .ok (.invokevirtual 23, 3) := by decide +kernel
theorem own_w10 {Z : State} {a0 : Array Value} (hw : ∀ d ∈ tables_1, d.before a0 Z = true) : (Jvm.Cond.methodLink "com/example/delehat/delehat/protocols/whois/WhoisQuery$Flag" (23 : Nat) ({ cls := "[Lcom/example/delehat/delehat/protocols/whois/WhoisQuery$Flag;", name := "clone", desc := "()Ljava/lang/Object;" } : Jvm.MethodName)).before a0 Z = true := hw _ (List.mem_of_getElem? (i := 10) rfl)
theorem own_w11 {Z : State} {a0 : Array Value} (hw : ∀ d ∈ tables_1, d.before a0 Z = true) : (Jvm.Cond.sameMethod "[Lcom/example/delehat/delehat/protocols/whois/WhoisQuery$Flag;" "java/lang/Object" "clone" "()Ljava/lang/Object;").before a0 Z = true := hw _ (List.mem_of_getElem? (i := 11) rfl)
theorem own_w15 {Z : State} {a0 : Array Value} (hw : ∀ d ∈ tables_1, d.before a0 Z = true) : (Jvm.Cond.native ({ cls := "java/lang/Object", name := "clone", desc := "()Ljava/lang/Object;" } : Jvm.MethodName)).before a0 Z = true := hw _ (List.mem_of_getElem? (i := 15) rfl)
theorem own_w13 {Z : State} {a0 : Array Value} (hw : ∀ d ∈ tables_1, d.before a0 Z = true) : (Jvm.Cond.instanceMethod ({ cls := "java/lang/Object", name := "clone", desc := "()Ljava/lang/Object;" } : Jvm.MethodName)).before a0 Z = true := hw _ (List.mem_of_getElem? (i := 13) rfl)
theorem own_w14 {Z : State} {a0 : Array Value} (hw : ∀ d ∈ tables_1, d.before a0 Z = true) : (Jvm.Cond.selects "[Lcom/example/delehat/delehat/protocols/whois/WhoisQuery$Flag;" ({ cls := "[Lcom/example/delehat/delehat/protocols/whois/WhoisQuery$Flag;", name := "clone", desc := "()Ljava/lang/Object;" } : Jvm.MethodName) ({ cls := "java/lang/Object", name := "clone", desc := "()Ljava/lang/Object;" } : Jvm.MethodName)).before a0 Z = true := hw _ (List.mem_of_getElem? (i := 14) rfl)
theorem own_w16 {Z : State} {a0 : Array Value} (hw : ∀ d ∈ tables_1, d.before a0 Z = true) : (Jvm.Cond.castable "[Lcom/example/delehat/delehat/protocols/whois/WhoisQuery$Flag;" "java/lang/Cloneable").before a0 Z = true := hw _ (List.mem_of_getElem? (i := 16) rfl)
theorem d2_6 : decode prog_93_method_1_code 6 = .ok (.checkcast 24, 3) := by decide +kernel
theorem own_w23 {Z : State} {a0 : Array Value} (hw : ∀ d ∈ tables_1, d.before a0 Z = true) : (Jvm.Cond.classLink "com/example/delehat/delehat/protocols/whois/WhoisQuery$Flag" (24 : Nat) "[Lcom/example/delehat/delehat/protocols/whois/WhoisQuery$Flag;").before a0 Z = true := hw _ (List.mem_of_getElem? (i := 23) rfl)
theorem d2_9 : decode prog_93_method_1_code 9 = .ok (.areturn, 1) := by decide +kernel
theorem pn_com_example_delehat_delehat_protocols_whois_WhoisQuery_Flag : plainName "com/example/delehat/delehat/protocols/whois/WhoisQuery$Flag" = true := by first | (simp [plainName, overriddenIn]; done) | decide +kernel
theorem own_w7 {Z : State} {a0 : Array Value} (hw : ∀ d ∈ tables_1, d.before a0 Z = true) : (Jvm.Cond.code ({ cls := "com/example/delehat/delehat/protocols/whois/WhoisQuery$Flag", name := "values", desc := "()[Lcom/example/delehat/delehat/protocols/whois/WhoisQuery$Flag;" } : Jvm.MethodName) prog_93_method_1_code (0 : Nat) (Option.some (Jvm.ClassFile.FieldType.array (Jvm.ClassFile.FieldType.object "com/example/delehat/delehat/protocols/whois/WhoisQuery$Flag")))).before a0 Z = true := hw _ (List.mem_of_getElem? (i := 7) rfl)
theorem pd____Lcom_example_delehat_delehat_protocols_whois_WhoisQuery_Flag_ : parseMethodDescriptor "()[Lcom/example/delehat/delehat/protocols/whois/WhoisQuery$Flag;" = some ⟨[], some (.array (.object "com/example/delehat/delehat/protocols/whois/WhoisQuery$Flag"))⟩ := by decide +kernel
theorem own_w6 {Z : State} {a0 : Array Value} (hw : ∀ d ∈ tables_1, d.before a0 Z = true) : (Jvm.Cond.static ({ cls := "com/example/delehat/delehat/protocols/whois/WhoisQuery$Flag", name := "values", desc := "()[Lcom/example/delehat/delehat/protocols/whois/WhoisQuery$Flag;" } : Jvm.MethodName)).before a0 Z = true := hw _ (List.mem_of_getElem? (i := 6) rfl)
theorem d1_3 : decode prog_93_method_4_code 3 = .ok (.astore_n 1, 1) := by decide +kernel
theorem d1_4 : decode prog_93_method_4_code 4 = .ok (.aload_n 1, 1) := by decide +kernel
theorem d1_5 : decode prog_93_method_4_code 5 = .ok (.arraylength, 1) := by decide +kernel
theorem d1_6 : decode prog_93_method_4_code 6 = .ok (.istore_n 2, 1) := by decide +kernel
theorem d1_7 : decode prog_93_method_4_code 7 = .ok (.iconst 0, 1) := by decide +kernel
theorem d1_8 : decode prog_93_method_4_code 8 = .ok (.istore_n 3, 1) := by decide +kernel
theorem d1_9 : decode prog_93_method_4_code 9 = .ok (.iload_n 3, 1) := by decide +kernel
theorem d1_10 : decode prog_93_method_4_code 10 = .ok (.iload_n 2, 1) := by decide +kernel
theorem d1_11 : decode prog_93_method_4_code 11 = .ok (.if_icmp .ge 29, 3) := by decide +kernel
theorem d1_14 : decode prog_93_method_4_code 14 = .ok (.aload_n 1, 1) := by decide +kernel
theorem d1_15 : decode prog_93_method_4_code 15 = .ok (.iload_n 3, 1) := by decide +kernel
theorem d1_16 : decode prog_93_method_4_code 16 = .ok (.aaload, 1) := by decide +kernel
theorem d1_17 : decode prog_93_method_4_code 17 = .ok (.astore 4, 2) := by decide +kernel
theorem d1_19 : decode prog_93_method_4_code 19 = .ok (.aload 4, 2) := by decide +kernel
theorem d1_21 : decode prog_93_method_4_code 21 = .ok (.getfield 38, 3) := by decide +kernel
theorem own_w25 {Z : State} {a0 : Array Value} (hw : ∀ d ∈ tables_1, d.before a0 Z = true) : (Jvm.Cond.fieldLink "com/example/delehat/delehat/protocols/whois/WhoisQuery$Flag" (38 : Nat) "com/example/delehat/delehat/protocols/whois/WhoisQuery$Flag" "letter" "C").before a0 Z = true := hw _ (List.mem_of_getElem? (i := 25) rfl)
theorem d1_24 : decode prog_93_method_4_code 24 = .ok (.iload_n 0, 1) := by decide +kernel
theorem d1_25 : decode prog_93_method_4_code 25 = .ok (.if_icmp .ne 9, 3) := by decide +kernel
theorem d1_28 : decode prog_93_method_4_code 28 = .ok (.aload 4, 2) := by decide +kernel
theorem d1_30 : decode prog_93_method_4_code 30 = .ok (.invokestatic 46, 3) := by decide +kernel
theorem own_w27 {Z : State} {a0 : Array Value} (hw : ∀ d ∈ tables_1, d.before a0 Z = true) : (Jvm.Cond.methodLink "com/example/delehat/delehat/protocols/whois/WhoisQuery$Flag" (46 : Nat) ({ cls := "java/util/Optional", name := "of", desc := "(Ljava/lang/Object;)Ljava/util/Optional;" } : Jvm.MethodName)).before a0 Z = true := hw _ (List.mem_of_getElem? (i := 27) rfl)
theorem d3_0 : decode jdk_32_method_3_code 0 = .ok (.new 2, 3) := by decide +kernel
theorem own_w31 {Z : State} {a0 : Array Value} (hw : ∀ d ∈ tables_1, d.before a0 Z = true) : (Jvm.Cond.classLink "java/util/Optional" (2 : Nat) "java/util/Optional").before a0 Z = true := hw _ (List.mem_of_getElem? (i := 31) rfl)
theorem own_w32 {Z : State} {a0 : Array Value} (hw : ∀ d ∈ tables_1, d.before a0 Z = true) : (Jvm.Cond.instantiable "java/util/Optional" (1 : Nat)).before a0 Z = true := hw _ (List.mem_of_getElem? (i := 32) rfl)
theorem own_w29 {Z : State} {a0 : Array Value} (hw : ∀ d ∈ tables_1, d.before a0 Z = true) : (Jvm.Cond.initialized "java/util/Optional").before a0 Z = true := hw _ (List.mem_of_getElem? (i := 29) rfl)
theorem own_w45 {Z : State} {a0 : Array Value} (hw : ∀ d ∈ tables_1, d.before a0 Z = true) : (Jvm.Cond.laysFinal "java/util/Optional" "java/util/Optional" "value" "Ljava/lang/Object;").before a0 Z = true := hw _ (List.mem_of_getElem? (i := 45) rfl)
theorem d3_3 : decode jdk_32_method_3_code 3 = .ok (.dup, 1) := by decide +kernel
theorem d3_4 : decode jdk_32_method_3_code 4 = .ok (.aload_n 0, 1) := by decide +kernel
theorem d3_5 : decode jdk_32_method_3_code 5 = .ok (.invokestatic 17, 3) := by decide +kernel
theorem own_w33 {Z : State} {a0 : Array Value} (hw : ∀ d ∈ tables_1, d.before a0 Z = true) : (Jvm.Cond.methodLink "java/util/Optional" (17 : Nat) ({ cls := "java/util/Objects", name := "requireNonNull", desc := "(Ljava/lang/Object;)Ljava/lang/Object;" } : Jvm.MethodName)).before a0 Z = true := hw _ (List.mem_of_getElem? (i := 33) rfl)
theorem d4_0 : decode jdk_31_method_10_code 0 = .ok (.aload_n 0, 1) := by decide +kernel
theorem d4_1 : decode jdk_31_method_10_code 1 = .ok (.ifnonnull 11, 3) := by decide +kernel
theorem d4_12 : decode jdk_31_method_10_code 12 = .ok (.aload_n 0, 1) := by decide +kernel
theorem d4_13 : decode jdk_31_method_10_code 13 = .ok (.areturn, 1) := by decide +kernel
theorem pn_java_util_Objects : plainName "java/util/Objects" = true := by first | (simp [plainName, overriddenIn]; done) | decide +kernel
theorem own_w36 {Z : State} {a0 : Array Value} (hw : ∀ d ∈ tables_1, d.before a0 Z = true) : (Jvm.Cond.code ({ cls := "java/util/Objects", name := "requireNonNull", desc := "(Ljava/lang/Object;)Ljava/lang/Object;" } : Jvm.MethodName) jdk_31_method_10_code (1 : Nat) (Option.some (Jvm.ClassFile.FieldType.object "java/lang/Object"))).before a0 Z = true := hw _ (List.mem_of_getElem? (i := 36) rfl)
theorem own_w35 {Z : State} {a0 : Array Value} (hw : ∀ d ∈ tables_1, d.before a0 Z = true) : (Jvm.Cond.initialized "java/util/Objects").before a0 Z = true := hw _ (List.mem_of_getElem? (i := 35) rfl)
theorem pd__Ljava_lang_Object__Ljava_lang_Object_ : parseMethodDescriptor "(Ljava/lang/Object;)Ljava/lang/Object;" = some ⟨[(.object "java/lang/Object")], some (.object "java/lang/Object")⟩ := by decide +kernel
theorem own_w34 {Z : State} {a0 : Array Value} (hw : ∀ d ∈ tables_1, d.before a0 Z = true) : (Jvm.Cond.static ({ cls := "java/util/Objects", name := "requireNonNull", desc := "(Ljava/lang/Object;)Ljava/lang/Object;" } : Jvm.MethodName)).before a0 Z = true := hw _ (List.mem_of_getElem? (i := 34) rfl)
theorem d3_8 : decode jdk_32_method_3_code 8 = .ok (.invokespecial 23, 3) := by decide +kernel
theorem own_w37 {Z : State} {a0 : Array Value} (hw : ∀ d ∈ tables_1, d.before a0 Z = true) : (Jvm.Cond.methodLink "java/util/Optional" (23 : Nat) ({ cls := "java/util/Optional", name := "<init>", desc := "(Ljava/lang/Object;)V" } : Jvm.MethodName)).before a0 Z = true := hw _ (List.mem_of_getElem? (i := 37) rfl)
theorem d5_0 : decode jdk_32_method_2_code 0 = .ok (.aload_n 0, 1) := by decide +kernel
theorem d5_1 : decode jdk_32_method_2_code 1 = .ok (.invokespecial 7, 3) := by decide +kernel
theorem own_w41 {Z : State} {a0 : Array Value} (hw : ∀ d ∈ tables_1, d.before a0 Z = true) : (Jvm.Cond.methodLink "java/util/Optional" (7 : Nat) ({ cls := "java/lang/Object", name := "<init>", desc := "()V" } : Jvm.MethodName)).before a0 Z = true := hw _ (List.mem_of_getElem? (i := 41) rfl)
theorem own_w42 {Z : State} {a0 : Array Value} (hw : ∀ d ∈ tables_1, d.before a0 Z = true) : (Jvm.Cond.instanceMethod ({ cls := "java/lang/Object", name := "<init>", desc := "()V" } : Jvm.MethodName)).before a0 Z = true := hw _ (List.mem_of_getElem? (i := 42) rfl)
theorem own_w43 {Z : State} {a0 : Array Value} (hw : ∀ d ∈ tables_1, d.before a0 Z = true) : (Jvm.Cond.code ({ cls := "java/lang/Object", name := "<init>", desc := "()V" } : Jvm.MethodName) object_method_1_code (1 : Nat) (Option.none : Option Jvm.ClassFile.FieldType)).before a0 Z = true := hw _ (List.mem_of_getElem? (i := 43) rfl)
theorem d5_4 : decode jdk_32_method_2_code 4 = .ok (.aload_n 0, 1) := by decide +kernel
theorem d5_5 : decode jdk_32_method_2_code 5 = .ok (.aload_n 1, 1) := by decide +kernel
theorem d5_6 : decode jdk_32_method_2_code 6 = .ok (.putfield 13, 3) := by decide +kernel
theorem own_w44 {Z : State} {a0 : Array Value} (hw : ∀ d ∈ tables_1, d.before a0 Z = true) : (Jvm.Cond.fieldLink "java/util/Optional" (13 : Nat) "java/util/Optional" "value" "Ljava/lang/Object;").before a0 Z = true := hw _ (List.mem_of_getElem? (i := 44) rfl)
theorem d5_9 : decode jdk_32_method_2_code 9 = .ok (.return_, 1) := by decide +kernel
theorem pn_java_util_Optional : plainName "java/util/Optional" = true := by first | (simp [plainName, overriddenIn]; done) | decide +kernel
theorem own_w40 {Z : State} {a0 : Array Value} (hw : ∀ d ∈ tables_1, d.before a0 Z = true) : (Jvm.Cond.code ({ cls := "java/util/Optional", name := "<init>", desc := "(Ljava/lang/Object;)V" } : Jvm.MethodName) jdk_32_method_2_code (2 : Nat) (Option.none : Option Jvm.ClassFile.FieldType)).before a0 Z = true := hw _ (List.mem_of_getElem? (i := 40) rfl)
theorem pd__Ljava_lang_Object__V : parseMethodDescriptor "(Ljava/lang/Object;)V" = some ⟨[(.object "java/lang/Object")], none⟩ := by decide +kernel
theorem own_w38 {Z : State} {a0 : Array Value} (hw : ∀ d ∈ tables_1, d.before a0 Z = true) : (Jvm.Cond.instanceMethod ({ cls := "java/util/Optional", name := "<init>", desc := "(Ljava/lang/Object;)V" } : Jvm.MethodName)).before a0 Z = true := hw _ (List.mem_of_getElem? (i := 38) rfl)
theorem d3_11 : decode jdk_32_method_3_code 11 = .ok (.areturn, 1) := by decide +kernel
theorem own_w30 {Z : State} {a0 : Array Value} (hw : ∀ d ∈ tables_1, d.before a0 Z = true) : (Jvm.Cond.code ({ cls := "java/util/Optional", name := "of", desc := "(Ljava/lang/Object;)Ljava/util/Optional;" } : Jvm.MethodName) jdk_32_method_3_code (1 : Nat) (Option.some (Jvm.ClassFile.FieldType.object "java/util/Optional"))).before a0 Z = true := hw _ (List.mem_of_getElem? (i := 30) rfl)
theorem pd__Ljava_lang_Object__Ljava_util_Optional_ : parseMethodDescriptor "(Ljava/lang/Object;)Ljava/util/Optional;" = some ⟨[(.object "java/lang/Object")], some (.object "java/util/Optional")⟩ := by decide +kernel
theorem own_w28 {Z : State} {a0 : Array Value} (hw : ∀ d ∈ tables_1, d.before a0 Z = true) : (Jvm.Cond.static ({ cls := "java/util/Optional", name := "of", desc := "(Ljava/lang/Object;)Ljava/util/Optional;" } : Jvm.MethodName)).before a0 Z = true := hw _ (List.mem_of_getElem? (i := 28) rfl)
theorem d1_33 : decode prog_93_method_4_code 33 = .ok (.areturn, 1) := by decide +kernel
theorem d1_34 : decode prog_93_method_4_code 34 = .ok (.iinc 3 1, 3) := by decide +kernel
theorem d1_37 : decode prog_93_method_4_code 37 = .ok (.goto (-28), 3) := by decide +kernel
theorem d1_40 : decode prog_93_method_4_code 40 = .ok (.invokestatic 52, 3) := by decide +kernel
theorem own_w64 {Z : State} {a0 : Array Value} (hw : ∀ d ∈ tables_1, d.before a0 Z = true) : (Jvm.Cond.methodLink "com/example/delehat/delehat/protocols/whois/WhoisQuery$Flag" (52 : Nat) ({ cls := "java/util/Optional", name := "empty", desc := "()Ljava/util/Optional;" } : Jvm.MethodName)).before a0 Z = true := hw _ (List.mem_of_getElem? (i := 64) rfl)
theorem d10_0 : decode jdk_32_method_1_code 0 = .ok (.getstatic 1, 3) := by decide +kernel
theorem own_w67 {Z : State} {a0 : Array Value} (hw : ∀ d ∈ tables_1, d.before a0 Z = true) : (Jvm.Cond.fieldLink "java/util/Optional" (1 : Nat) "java/util/Optional" "EMPTY" "Ljava/util/Optional;").before a0 Z = true := hw _ (List.mem_of_getElem? (i := 67) rfl)
theorem d10_3 : decode jdk_32_method_1_code 3 = .ok (.astore_n 0, 1) := by decide +kernel
theorem d10_4 : decode jdk_32_method_1_code 4 = .ok (.aload_n 0, 1) := by decide +kernel
theorem d10_5 : decode jdk_32_method_1_code 5 = .ok (.areturn, 1) := by decide +kernel
theorem own_w66 {Z : State} {a0 : Array Value} (hw : ∀ d ∈ tables_1, d.before a0 Z = true) : (Jvm.Cond.code ({ cls := "java/util/Optional", name := "empty", desc := "()Ljava/util/Optional;" } : Jvm.MethodName) jdk_32_method_1_code (1 : Nat) (Option.some (Jvm.ClassFile.FieldType.object "java/util/Optional"))).before a0 Z = true := hw _ (List.mem_of_getElem? (i := 66) rfl)
theorem pd___Ljava_util_Optional_ : parseMethodDescriptor "()Ljava/util/Optional;" = some ⟨[], some (.object "java/util/Optional")⟩ := by decide +kernel
theorem own_w65 {Z : State} {a0 : Array Value} (hw : ∀ d ∈ tables_1, d.before a0 Z = true) : (Jvm.Cond.static ({ cls := "java/util/Optional", name := "empty", desc := "()Ljava/util/Optional;" } : Jvm.MethodName)).before a0 Z = true := hw _ (List.mem_of_getElem? (i := 65) rfl)
theorem d1_43 : decode prog_93_method_4_code 43 = .ok (.areturn, 1) := by decide +kernel
theorem own_w4 {Z : State} {a0 : Array Value} (hw : ∀ d ∈ tables_1, d.before a0 Z = true) : (Jvm.Cond.code ({ cls := "com/example/delehat/delehat/protocols/whois/WhoisQuery$Flag", name := "of", desc := "(C)Ljava/util/Optional;" } : Jvm.MethodName) prog_93_method_4_code (5 : Nat) (Option.some (Jvm.ClassFile.FieldType.object "java/util/Optional"))).before a0 Z = true := hw _ (List.mem_of_getElem? (i := 4) rfl)
theorem pd__C_Ljava_util_Optional_ : parseMethodDescriptor "(C)Ljava/util/Optional;" = some ⟨[.char], some (.object "java/util/Optional")⟩ := by decide +kernel
theorem own_w2 {Z : State} {a0 : Array Value} (hw : ∀ d ∈ tables_1, d.before a0 Z = true) : (Jvm.Cond.static ({ cls := "com/example/delehat/delehat/protocols/whois/WhoisQuery$Flag", name := "of", desc := "(C)Ljava/util/Optional;" } : Jvm.MethodName)).before a0 Z = true := hw _ (List.mem_of_getElem? (i := 2) rfl)
theorem own_w46 {Z : State} {a0 : Array Value} (hw : ∀ d ∈ tables_1, d.before a0 Z = true) : (Jvm.Cond.methodLink "com/example/delehat/delehat/protocols/whois/WhoisQueryOfPinLaw" (30 : Nat) ({ cls := "java/util/Optional", name := "isPresent", desc := "()Z" } : Jvm.MethodName)).before a0 Z = true := hw _ (List.mem_of_getElem? (i := 46) rfl)
theorem d7_0 : decode jdk_32_method_6_code 0 = .ok (.aload_n 0, 1) := by decide +kernel
theorem d7_1 : decode jdk_32_method_6_code 1 = .ok (.getfield 13, 3) := by decide +kernel
theorem d7_4 : decode jdk_32_method_6_code 4 = .ok (.ifnull 7, 3) := by decide +kernel
theorem d7_7 : decode jdk_32_method_6_code 7 = .ok (.iconst 1, 1) := by decide +kernel
theorem d7_8 : decode jdk_32_method_6_code 8 = .ok (.goto 4, 3) := by decide +kernel
theorem d7_12 : decode jdk_32_method_6_code 12 = .ok (.ireturn, 1) := by decide +kernel
theorem own_w50 {Z : State} {a0 : Array Value} (hw : ∀ d ∈ tables_1, d.before a0 Z = true) : (Jvm.Cond.code ({ cls := "java/util/Optional", name := "isPresent", desc := "()Z" } : Jvm.MethodName) jdk_32_method_6_code (1 : Nat) (Option.some Jvm.ClassFile.FieldType.boolean)).before a0 Z = true := hw _ (List.mem_of_getElem? (i := 50) rfl)
theorem pd___Z : parseMethodDescriptor "()Z" = some ⟨[], some .boolean⟩ := by decide +kernel
theorem own_w49 {Z : State} {a0 : Array Value} (hw : ∀ d ∈ tables_1, d.before a0 Z = true) : (Jvm.Cond.selects "java/util/Optional" ({ cls := "java/util/Optional", name := "isPresent", desc := "()Z" } : Jvm.MethodName) ({ cls := "java/util/Optional", name := "isPresent", desc := "()Z" } : Jvm.MethodName)).before a0 Z = true := hw _ (List.mem_of_getElem? (i := 49) rfl)
theorem own_w47 {Z : State} {a0 : Array Value} (hw : ∀ d ∈ tables_1, d.before a0 Z = true) : (Jvm.Cond.declares ({ cls := "java/util/Optional", name := "isPresent", desc := "()Z" } : Jvm.MethodName)).before a0 Z = true := hw _ (List.mem_of_getElem? (i := 47) rfl)
theorem own_w48 {Z : State} {a0 : Array Value} (hw : ∀ d ∈ tables_1, d.before a0 Z = true) : (Jvm.Cond.instanceMethod ({ cls := "java/util/Optional", name := "isPresent", desc := "()Z" } : Jvm.MethodName)).before a0 Z = true := hw _ (List.mem_of_getElem? (i := 48) rfl)
theorem own_w51 {Z : State} {a0 : Array Value} (hw : ∀ d ∈ tables_1, d.before a0 Z = true) : (Jvm.Cond.methodLink "com/example/delehat/delehat/protocols/whois/WhoisQueryOfPinLaw" (36 : Nat) ({ cls := "java/util/Optional", name := "get", desc := "()Ljava/lang/Object;" } : Jvm.MethodName)).before a0 Z = true := hw _ (List.mem_of_getElem? (i := 51) rfl)
theorem d8_0 : decode jdk_32_method_5_code 0 = .ok (.aload_n 0, 1) := by decide +kernel
theorem d8_1 : decode jdk_32_method_5_code 1 = .ok (.getfield 13, 3) := by decide +kernel
theorem d8_4 : decode jdk_32_method_5_code 4 = .ok (.ifnonnull 13, 3) := by decide +kernel
theorem d8_17 : decode jdk_32_method_5_code 17 = .ok (.aload_n 0, 1) := by decide +kernel
theorem d8_18 : decode jdk_32_method_5_code 18 = .ok (.getfield 13, 3) := by decide +kernel
theorem d8_21 : decode jdk_32_method_5_code 21 = .ok (.areturn, 1) := by decide +kernel
theorem own_w55 {Z : State} {a0 : Array Value} (hw : ∀ d ∈ tables_1, d.before a0 Z = true) : (Jvm.Cond.code ({ cls := "java/util/Optional", name := "get", desc := "()Ljava/lang/Object;" } : Jvm.MethodName) jdk_32_method_5_code (1 : Nat) (Option.some (Jvm.ClassFile.FieldType.object "java/lang/Object"))).before a0 Z = true := hw _ (List.mem_of_getElem? (i := 55) rfl)
theorem pd___Ljava_lang_Object_ : parseMethodDescriptor "()Ljava/lang/Object;" = some ⟨[], some (.object "java/lang/Object")⟩ := by decide +kernel
theorem own_w54 {Z : State} {a0 : Array Value} (hw : ∀ d ∈ tables_1, d.before a0 Z = true) : (Jvm.Cond.selects "java/util/Optional" ({ cls := "java/util/Optional", name := "get", desc := "()Ljava/lang/Object;" } : Jvm.MethodName) ({ cls := "java/util/Optional", name := "get", desc := "()Ljava/lang/Object;" } : Jvm.MethodName)).before a0 Z = true := hw _ (List.mem_of_getElem? (i := 54) rfl)
theorem own_w52 {Z : State} {a0 : Array Value} (hw : ∀ d ∈ tables_1, d.before a0 Z = true) : (Jvm.Cond.declares ({ cls := "java/util/Optional", name := "get", desc := "()Ljava/lang/Object;" } : Jvm.MethodName)).before a0 Z = true := hw _ (List.mem_of_getElem? (i := 52) rfl)
theorem own_w53 {Z : State} {a0 : Array Value} (hw : ∀ d ∈ tables_1, d.before a0 Z = true) : (Jvm.Cond.instanceMethod ({ cls := "java/util/Optional", name := "get", desc := "()Ljava/lang/Object;" } : Jvm.MethodName)).before a0 Z = true := hw _ (List.mem_of_getElem? (i := 53) rfl)
theorem own_w56 {Z : State} {a0 : Array Value} (hw : ∀ d ∈ tables_1, d.before a0 Z = true) : (Jvm.Cond.classLink "com/example/delehat/delehat/protocols/whois/WhoisQueryOfPinLaw" (8 : Nat) "com/example/delehat/delehat/protocols/whois/WhoisQuery$Flag").before a0 Z = true := hw _ (List.mem_of_getElem? (i := 56) rfl)
theorem own_w58 {Z : State} {a0 : Array Value} (hw : ∀ d ∈ tables_1, d.before a0 Z = true) : (Jvm.Cond.methodLink "com/example/delehat/delehat/protocols/whois/WhoisQueryOfPinLaw" (40 : Nat) ({ cls := "com/example/delehat/delehat/protocols/whois/WhoisQueryOfPinLaw", name := "expected", desc := "(C)Lcom/example/delehat/delehat/protocols/whois/WhoisQuery$Flag;" } : Jvm.MethodName)).before a0 Z = true := hw _ (List.mem_of_getElem? (i := 58) rfl)
theorem d9_0 : decode method_2_code 0 = .ok (.iload_n 0, 1) := by decide +kernel
theorem d9_1 : decode method_2_code 1 = .ok (.bipush 114, 2) := by decide +kernel
theorem d9_3 : decode method_2_code 3 = .ok (.if_icmp .ne 7, 3) := by decide +kernel
theorem d9_6 : decode method_2_code 6 = .ok (.getstatic 7, 3) := by decide +kernel
theorem own_w70 {Z : State} {a0 : Array Value} (hw : ∀ d ∈ tables_1, d.before a0 Z = true) : (Jvm.Cond.fieldLink "com/example/delehat/delehat/protocols/whois/WhoisQueryOfPinLaw" (7 : Nat) "com/example/delehat/delehat/protocols/whois/WhoisQuery$Flag" "REGISTRAR" "Lcom/example/delehat/delehat/protocols/whois/WhoisQuery$Flag;").before a0 Z = true := hw _ (List.mem_of_getElem? (i := 70) rfl)
theorem d9_9 : decode method_2_code 9 = .ok (.areturn, 1) := by decide +kernel
theorem pn_com_example_delehat_delehat_protocols_whois_WhoisQueryOfPinLaw : plainName "com/example/delehat/delehat/protocols/whois/WhoisQueryOfPinLaw" = true := by first | (simp [plainName, overriddenIn]; done) | decide +kernel
theorem own_w61 {Z : State} {a0 : Array Value} (hw : ∀ d ∈ tables_1, d.before a0 Z = true) : (Jvm.Cond.code ({ cls := "com/example/delehat/delehat/protocols/whois/WhoisQueryOfPinLaw", name := "expected", desc := "(C)Lcom/example/delehat/delehat/protocols/whois/WhoisQuery$Flag;" } : Jvm.MethodName) method_2_code (1 : Nat) (Option.some (Jvm.ClassFile.FieldType.object "com/example/delehat/delehat/protocols/whois/WhoisQuery$Flag"))).before a0 Z = true := hw _ (List.mem_of_getElem? (i := 61) rfl)
theorem own_w60 {Z : State} {a0 : Array Value} (hw : ∀ d ∈ tables_1, d.before a0 Z = true) : (Jvm.Cond.initialized "com/example/delehat/delehat/protocols/whois/WhoisQueryOfPinLaw").before a0 Z = true := hw _ (List.mem_of_getElem? (i := 60) rfl)
theorem pd__C_Lcom_example_delehat_delehat_protocols_whois_WhoisQuery_Flag_ : parseMethodDescriptor "(C)Lcom/example/delehat/delehat/protocols/whois/WhoisQuery$Flag;" = some ⟨[.char], some (.object "com/example/delehat/delehat/protocols/whois/WhoisQuery$Flag")⟩ := by decide +kernel
theorem own_w59 {Z : State} {a0 : Array Value} (hw : ∀ d ∈ tables_1, d.before a0 Z = true) : (Jvm.Cond.static ({ cls := "com/example/delehat/delehat/protocols/whois/WhoisQueryOfPinLaw", name := "expected", desc := "(C)Lcom/example/delehat/delehat/protocols/whois/WhoisQuery$Flag;" } : Jvm.MethodName)).before a0 Z = true := hw _ (List.mem_of_getElem? (i := 59) rfl)
theorem d9_10 : decode method_2_code 10 = .ok (.iload_n 0, 1) := by decide +kernel
theorem d9_11 : decode method_2_code 11 = .ok (.bipush 111, 2) := by decide +kernel
theorem d9_13 : decode method_2_code 13 = .ok (.if_icmp .ne 7, 3) := by decide +kernel
theorem d9_16 : decode method_2_code 16 = .ok (.getstatic 13, 3) := by decide +kernel
theorem own_w63 {Z : State} {a0 : Array Value} (hw : ∀ d ∈ tables_1, d.before a0 Z = true) : (Jvm.Cond.fieldLink "com/example/delehat/delehat/protocols/whois/WhoisQueryOfPinLaw" (13 : Nat) "com/example/delehat/delehat/protocols/whois/WhoisQuery$Flag" "REGISTRANT" "Lcom/example/delehat/delehat/protocols/whois/WhoisQuery$Flag;").before a0 Z = true := hw _ (List.mem_of_getElem? (i := 63) rfl)
theorem d9_19 : decode method_2_code 19 = .ok (.areturn, 1) := by decide +kernel
theorem d9_20 : decode method_2_code 20 = .ok (.iload_n 0, 1) := by decide +kernel
theorem d9_21 : decode method_2_code 21 = .ok (.bipush 97, 2) := by decide +kernel
theorem d9_23 : decode method_2_code 23 = .ok (.if_icmp .ne 7, 3) := by decide +kernel
theorem d9_26 : decode method_2_code 26 = .ok (.getstatic 16, 3) := by decide +kernel
theorem own_w62 {Z : State} {a0 : Array Value} (hw : ∀ d ∈ tables_1, d.before a0 Z = true) : (Jvm.Cond.fieldLink "com/example/delehat/delehat/protocols/whois/WhoisQueryOfPinLaw" (16 : Nat) "com/example/delehat/delehat/protocols/whois/WhoisQuery$Flag" "ADMIN" "Lcom/example/delehat/delehat/protocols/whois/WhoisQuery$Flag;").before a0 Z = true := hw _ (List.mem_of_getElem? (i := 62) rfl)
theorem d9_29 : decode method_2_code 29 = .ok (.areturn, 1) := by decide +kernel
theorem d9_30 : decode method_2_code 30 = .ok (.iload_n 0, 1) := by decide +kernel
theorem d9_31 : decode method_2_code 31 = .ok (.bipush 116, 2) := by decide +kernel
theorem d9_33 : decode method_2_code 33 = .ok (.if_icmp .ne 7, 3) := by decide +kernel
theorem d9_36 : decode method_2_code 36 = .ok (.getstatic 19, 3) := by decide +kernel
theorem own_w69 {Z : State} {a0 : Array Value} (hw : ∀ d ∈ tables_1, d.before a0 Z = true) : (Jvm.Cond.fieldLink "com/example/delehat/delehat/protocols/whois/WhoisQueryOfPinLaw" (19 : Nat) "com/example/delehat/delehat/protocols/whois/WhoisQuery$Flag" "TECH" "Lcom/example/delehat/delehat/protocols/whois/WhoisQuery$Flag;").before a0 Z = true := hw _ (List.mem_of_getElem? (i := 69) rfl)
theorem d9_39 : decode method_2_code 39 = .ok (.areturn, 1) := by decide +kernel
theorem d9_40 : decode method_2_code 40 = .ok (.iload_n 0, 1) := by decide +kernel
theorem d9_41 : decode method_2_code 41 = .ok (.bipush 115, 2) := by decide +kernel
theorem d9_43 : decode method_2_code 43 = .ok (.if_icmp .ne 7, 3) := by decide +kernel
theorem d9_46 : decode method_2_code 46 = .ok (.getstatic 22, 3) := by decide +kernel
theorem own_w68 {Z : State} {a0 : Array Value} (hw : ∀ d ∈ tables_1, d.before a0 Z = true) : (Jvm.Cond.fieldLink "com/example/delehat/delehat/protocols/whois/WhoisQueryOfPinLaw" (22 : Nat) "com/example/delehat/delehat/protocols/whois/WhoisQuery$Flag" "SHORT" "Lcom/example/delehat/delehat/protocols/whois/WhoisQuery$Flag;").before a0 Z = true := hw _ (List.mem_of_getElem? (i := 68) rfl)
theorem d9_49 : decode method_2_code 49 = .ok (.areturn, 1) := by decide +kernel
theorem d7_11 : decode jdk_32_method_6_code 11 = .ok (.iconst 0, 1) := by decide +kernel
theorem d9_50 : decode method_2_code 50 = .ok (.aconst_null, 1) := by decide +kernel
theorem d9_51 : decode method_2_code 51 = .ok (.areturn, 1) := by decide +kernel
theorem own_w0 {Z : State} {a0 : Array Value} (hw : ∀ d ∈ tables_1, d.before a0 Z = true) : (Jvm.Cond.constant "com/example/delehat/delehat/protocols/whois/WhoisQueryOfPinLaw" (25 : Nat) (2147483647 : Int32)).before a0 Z = true := hw _ (List.mem_of_getElem? (i := 0) rfl)
theorem ef2_1 (m : MethodId) : entryFrame m #[] 0 = mkF m 0 #[] [] := by first | (simp [entryFrame, mkF, argsToLocals, Value.category]; done) | rfl
def Q2_1 (Z : State) (a1 : Addr) (kc2 : ClassId) (a3 : Addr) (a4 : Addr) (a5 : Addr) (a6 : Addr) (a7 : Addr) (h0 : Heap) (n0 : Nat) (v : Option Value) (h : Heap) (L : List Loc) : Prop := ∃ b3 : Addr, v = some (.ref b3) ∧ Fr n0 L ∧ Keep h0 h [] ∧ h0.size ≤ b3 ∧ Arv Z h b3 kc2 (.object "com/example/delehat/delehat/protocols/whois/WhoisQuery$Flag") (5 : Int32) [(.ref a3), (.ref a4), (.ref a5), (.ref a6), (.ref a7)] .null ∧ Exa Z h b3 "[Lcom/example/delehat/delehat/protocols/whois/WhoisQuery$Flag;"
set_option maxRecDepth 65536 in
set_option maxHeartbeats 40000000 in
theorem rm2_1 (l : Launch) (Z : State) (a0 : Array Value) (hw : ∀ d ∈ tables_1, d.before a0 Z = true) (ws : List Jvm.Cond) (a1 : Addr) (kc2 : ClassId) (a3 : Addr) (a4 : Addr) (a5 : Addr) (a6 : Addr) (a7 : Addr) (h0 : Heap) (n0 : Nat) (Z0 : n0 ≤ h0.size) (S_WhoisQuery_Flag__VALUES : Sta Z h0 "com/example/delehat/delehat/protocols/whois/WhoisQuery$Flag" "$VALUES" "[Lcom/example/delehat/delehat/protocols/whois/WhoisQuery$Flag;" (.ref a1)) (E_a1 : Exa Z h0 a1 "[Lcom/example/delehat/delehat/protocols/whois/WhoisQuery$Flag;") (V_a1 : Arv Z h0 a1 kc2 (.object "com/example/delehat/delehat/protocols/whois/WhoisQuery$Flag") (5 : Int32) [(.ref a3), (.ref a4), (.ref a5), (.ref a6), (.ref a7)] .null) :
    MetFree l (⟨"com/example/delehat/delehat/protocols/whois/WhoisQuery$Flag", "values", "()[Lcom/example/delehat/delehat/protocols/whois/WhoisQuery$Flag;"⟩ : MethodName) (head1 (Jvm.Cond.code (⟨"com/example/delehat/delehat/protocols/whois/WhoisQuery$Flag", "values", "()[Lcom/example/delehat/delehat/protocols/whois/WhoisQuery$Flag;"⟩ : MethodName) prog_93_method_1_code 0 (some (.array (.object "com/example/delehat/delehat/protocols/whois/WhoisQuery$Flag"))) :: ws) ({ frames := 1, cells := 1, slots := 5, locals := 14 } : Room)) (fun a U => a = #[] ∧ Z.Warmed39 U.vm ∧ U.heap = h0) (fun _ _ _ _ _ => True) (fun _ U o U' => ∃ v L, o = .returned v ∧ Q2_1 Z a1 kc2 a3 a4 a5 a6 a7 h0 n0 v U'.heap L ∧ FrameEnd U o U' L ({ frames := 1, cells := 1, slots := 5, locals := 14 } : Room).cells ({ frames := 1, cells := 1, slots := 5, locals := 14 } : Room).slots) := by
  refine MetFree.of_bodySF (plainFor_of_name pn_com_example_delehat_delehat_protocols_whois_WhoisQuery_Flag) hisR ?_
  intro p e s m args below meth c s₁ Bd hml0 hP hK
  obtain ⟨rfl, hZ, hh⟩ := hP
  have hx := Bd.exec
  have hby := Bd.bytes
  have hml : c.maxLocals = 0 := hml0
  have hown : s.vm.findClass "com/example/delehat/delehat/protocols/whois/WhoisQuery$Flag" = some m.cls := findClass_of_methodNamed Bd.named
  have hnm := (name_of_methodNamed Bd.named Bd.method).1
  have X0 : Stand p l e ({ frames := 1, cells := 1, slots := 5, locals := 14 } : Room) s m #[] below meth c s₁ [] 0 0 := Stand.of_body Bd
  have e0 : s₁.heap = h0 := by rw [← hh, Bd.state]; rfl
  have N0 := Fr.nil n0
  have pre0 : ∀ t, Steps p.tables e below (s₁.setTop (mkF m 0 #[] [])) t → Steps p.tables e below (s₁.setTop (entryFrame m #[] 0)) t := fun t k => castTop (ef2_1 m) k
  obtain ⟨T1, X1, e1, st1⟩ := getS2 X0 hx hZ hown (host := "") (Or.inl (own_w8 hw)) Via.refl e0 S_WhoisQuery_Flag__VALUES (g := (mkF m 0 #[] [])) rfl (hb hby d2_0)
  obtain ⟨cl2, Ar2, qk2, Sz2, Ng2, Ha2, Gf2⟩ := id V_a1
  obtain ⟨T3, h3, X3, e3, E3, A3, C3, st3⟩ := cloneA X1 hx hZ hown (own_w10 hw) (own_w11 hw) (own_w15 hw) (own_w13 hw) (own_w14 hw) (own_w16 hw) e1 Ar2 E_a1 (own_fitc Ar2 Ha2 Gf2) (g := (mkF m 3 #[] [(.ref a1)])) rfl (by rw [hml]; rfl) rfl (hb hby d2_3) (by decide) (W := 0) (cap := 5) (by show 2 * 0 + _ ≤ _; exact Nat.le_of_eq rfl) (by decide) (Nat.le_of_eq Sz2) (by decide) (by decide)
  obtain ⟨b3, q3⟩ : ∃ z, z = h0.size := ⟨_, rfl⟩
  rw [← q3] at A3 C3 st3
  have sz_b3 : h0.size ≤ b3 := Nat.le_of_eq q3.symm
  have sz0_b3 : h0.size ≤ b3 := sz_b3
  have g_b3 : n0 ≤ b3 := Nat.le_trans Z0 sz0_b3
  have KC4 : Keep h0 h3 [] := (Keep.refl h0 []).ext E3
  have V3 : Arv Z h3 b3 kc2 (.object "com/example/delehat/delehat/protocols/whois/WhoisQuery$Flag") (5 : Int32) [(.ref a3), (.ref a4), (.ref a5), (.ref a6), (.ref a7)] .null := ⟨_, A3, qk2, Sz2, Ng2, Ha2, Gf2⟩
  obtain ⟨T5, X5, e5, st5⟩ := castY X3 hx hZ hown (own_w23 hw) e3 (Ins.self C3) (g := (mkF m 6 #[] [(.ref b3)])) rfl rfl (hb hby d2_6)
  obtain ⟨fs, hr, hrun, hended, hW, hsame⟩ := X5.leave (v := some (.ref b3)) (fun h => by rw [Bd.returns] at h; cases h)
  refine ⟨_, _, pre0 _ ?_, hrun, hended, _, _, rfl, ?_, ⟨_, rfl⟩, hW, hsame.mono (by decide) (by decide)⟩
  · show Steps p.tables e below (s₁.setTop (mkF m 0 #[] [])) _
    refine st1 _ ?_
    show Steps p.tables e below (T1.setTop (mkF m 3 #[] [(.ref a1)])) _
    refine st3 _ ?_
    show Steps p.tables e below (T3.setTop (mkF m 6 #[] [(.ref b3)])) _
    refine st5 _ ?_
    show Steps p.tables e below (T5.setTop (mkF m 9 #[] [(.ref b3)])) _
    exact retOut X5 hx Bd.returns rfl (Or.inr (Or.inr (Or.inr (Or.inr ⟨rfl, rfl, rfl⟩)))) (hb hby d2_9) hr
  · show Q2_1 Z a1 kc2 a3 a4 a5 a6 a7 h0 n0 _ T5.heap _
    rw [e5]
    exact ⟨b3, rfl, N0, KC4, sz0_b3, V3, C3⟩
theorem ef4_2 (m : MethodId) (a1 : Addr) : entryFrame m #[(.ref a1)] 1 = mkF m 0 #[.val (.ref a1)] [] := by first | (simp [entryFrame, mkF, argsToLocals, Value.category]; done) | rfl
def Q4_2 (Z : State) (a1 : Addr) (h0 : Heap) (n0 : Nat) (v : Option Value) (h : Heap) (L : List Loc) : Prop := v = some (.ref a1) ∧ Fr n0 L ∧ h = h0
set_option maxRecDepth 65536 in
set_option maxHeartbeats 40000000 in
theorem rm4_2 (l : Launch) (Z : State) (a0 : Array Value) (hw : ∀ d ∈ tables_1, d.before a0 Z = true) (ws : List Jvm.Cond) (a1 : Addr) (h0 : Heap) (n0 : Nat) (Z0 : n0 ≤ h0.size) :
    MetFree l (⟨"java/util/Objects", "requireNonNull", "(Ljava/lang/Object;)Ljava/lang/Object;"⟩ : MethodName) (head1 (Jvm.Cond.code (⟨"java/util/Objects", "requireNonNull", "(Ljava/lang/Object;)Ljava/lang/Object;"⟩ : MethodName) jdk_31_method_10_code 1 (some (.object "java/lang/Object")) :: ws) ({ frames := 0, cells := 0, slots := 0, locals := 0 } : Room)) (fun a U => a = #[(.ref a1)] ∧ Z.Warmed39 U.vm ∧ U.heap = h0) (fun _ _ _ _ _ => True) (fun _ U o U' => ∃ v L, o = .returned v ∧ Q4_2 Z a1 h0 n0 v U'.heap L ∧ FrameEnd U o U' L ({ frames := 0, cells := 0, slots := 0, locals := 0 } : Room).cells ({ frames := 0, cells := 0, slots := 0, locals := 0 } : Room).slots) := by
  refine MetFree.of_bodySF (plainFor_of_name pn_java_util_Objects) hisR ?_
  intro p e s m args below meth c s₁ Bd hml0 hP hK
  obtain ⟨rfl, hZ, hh⟩ := hP
  have hx := Bd.exec
  have hby := Bd.bytes
  have hml : c.maxLocals = 1 := hml0
  have hown : s.vm.findClass "java/util/Objects" = some m.cls := findClass_of_methodNamed Bd.named
  have hnm := (name_of_methodNamed Bd.named Bd.method).1
  have X0 : Stand p l e ({ frames := 0, cells := 0, slots := 0, locals := 0 } : Room) s m #[(.ref a1)] below meth c s₁ [] 0 0 := Stand.of_body Bd
  have e0 : s₁.heap = h0 := by rw [← hh, Bd.state]; rfl
  have N0 := Fr.nil n0
  have pre0 : ∀ t, Steps p.tables e below (s₁.setTop (mkF m 0 #[.val (.ref a1)] [])) t → Steps p.tables e below (s₁.setTop (entryFrame m #[(.ref a1)] 1)) t := fun t k => castTop (ef4_2 m a1) k
  obtain ⟨fs, hr, hrun, hended, hW, hsame⟩ := X0.leave (v := some (.ref a1)) (fun h => by rw [Bd.returns] at h; cases h)
  refine ⟨_, _, pre0 _ ?_, hrun, hended, _, _, rfl, ?_, ⟨_, rfl⟩, hW, hsame.mono (by decide) (by decide)⟩
  · show Steps p.tables e below (s₁.setTop (mkF m 0 #[.val (.ref a1)] [])) _
    refine XS.aloadN X0.here hx rfl (hb hby d4_0) rfl rfl ?_
    show Steps p.tables e below (s₁.setTop (mkF m 1 #[.val (.ref a1)] [(.ref a1)])) _
    refine XS.ifnonnullYes X0.here hx rfl (pc0 := 1) (pc' := 12) rfl (hb hby d4_1) rfl (by decide) (by decide) ?_
    show Steps p.tables e below (s₁.setTop (mkF m 12 #[.val (.ref a1)] [])) _
    refine XS.aloadN X0.here hx rfl (hb hby d4_12) rfl rfl ?_
    show Steps p.tables e below (s₁.setTop (mkF m 13 #[.val (.ref a1)] [(.ref a1)])) _
    exact retOut X0 hx Bd.returns rfl (Or.inr (Or.inr (Or.inr (Or.inr ⟨rfl, rfl, rfl⟩)))) (hb hby d4_13) hr
  · show Q4_2 Z a1 h0 n0 _ s₁.heap _
    rw [e0]
    exact ⟨rfl, N0, rfl⟩
theorem ef5_3 (m : MethodId) (a1 : Addr) (a2 : Addr) : entryFrame m #[(.ref a1), (.ref a2)] 2 = mkF m 0 #[.val (.ref a1), .val (.ref a2)] [] := by first | (simp [entryFrame, mkF, argsToLocals, Value.category]; done) | rfl
def Q5_3 (Z : State) (a1 : Addr) (a2 : Addr) (h0 : Heap) (n0 : Nat) (v : Option Value) (h : Heap) (L : List Loc) : Prop := v = none ∧ Fr n0 L ∧ Keep h0 h [a1] ∧ Exa Z h a1 "java/util/Optional" ∧ Fld Z h a1 "java/util/Optional" "value" "Ljava/lang/Object;" (.ref a2)
set_option maxRecDepth 65536 in
set_option maxHeartbeats 40000000 in
theorem rm5_3 (l : Launch) (Z : State) (a0 : Array Value) (hw : ∀ d ∈ tables_1, d.before a0 Z = true) (ws : List Jvm.Cond) (a1 : Addr) (a2 : Addr) (h0 : Heap) (n0 : Nat) (Z0 : n0 ≤ h0.size) (E_a1 : Exa Z h0 a1 "java/util/Optional") (F_a1_value : Fld Z h0 a1 "java/util/Optional" "value" "Ljava/lang/Object;" .null) (g_a1 : n0 ≤ a1) :
    MetFree l (⟨"java/util/Optional", "<init>", "(Ljava/lang/Object;)V"⟩ : MethodName) (head1 (Jvm.Cond.code (⟨"java/util/Optional", "<init>", "(Ljava/lang/Object;)V"⟩ : MethodName) jdk_32_method_2_code 2 none :: ws) ({ frames := 1, cells := 0, slots := 0, locals := 12 } : Room)) (fun a U => a = #[(.ref a1), (.ref a2)] ∧ Z.Warmed39 U.vm ∧ U.heap = h0) (fun _ _ _ _ _ => True) (fun _ U o U' => ∃ v L, o = .returned v ∧ Q5_3 Z a1 a2 h0 n0 v U'.heap L ∧ FrameEnd U o U' L ({ frames := 1, cells := 0, slots := 0, locals := 12 } : Room).cells ({ frames := 1, cells := 0, slots := 0, locals := 12 } : Room).slots) := by
  refine MetFree.of_bodySF (plainFor_of_name pn_java_util_Optional) hisR ?_
  intro p e s m args below meth c s₁ Bd hml0 hP hK
  obtain ⟨rfl, hZ, hh⟩ := hP
  have hx := Bd.exec
  have hby := Bd.bytes
  have hml : c.maxLocals = 2 := hml0
  have hown : s.vm.findClass "java/util/Optional" = some m.cls := findClass_of_methodNamed Bd.named
  have hnm := (name_of_methodNamed Bd.named Bd.method).1
  have X0 : Stand p l e ({ frames := 1, cells := 0, slots := 0, locals := 12 } : Room) s m #[(.ref a1), (.ref a2)] below meth c s₁ [] 0 0 := Stand.of_body Bd
  have e0 : s₁.heap = h0 := by rw [← hh, Bd.state]; rfl
  have N0 := Fr.nil n0
  have pre0 : ∀ t, Steps p.tables e below (s₁.setTop (mkF m 0 #[.val (.ref a1), .val (.ref a2)] [])) t → Steps p.tables e below (s₁.setTop (entryFrame m #[(.ref a1), (.ref a2)] 2)) t := fun t k => castTop (ef5_3 m a1 a2) k
  obtain ⟨T1, X1, e1, st1⟩ := initO X0 hx hZ hown (own_w41 hw) (own_w42 hw) (own_w43 hw) e0 (g := (mkF m 1 #[.val (.ref a1), .val (.ref a2)] [(.ref a1)])) rfl (by rw [hml]; rfl) rfl (hb hby d5_1) (by decide) (W := 0) (by show 2 * 0 + _ ≤ _; exact Nat.le_of_eq rfl) (by decide)
  obtain ⟨T2, h2, X2, e2, W2, st2⟩ := putF X1 hx hZ hown (host := "") (Or.inl (own_w44 hw)) Via.refl e1 F_a1_value E_a1 (Or.inr ⟨(own_w45 hw), rfl, hnm⟩) (own_w32 hw) (ty := (.object "java/lang/Object")) (by decide) rfl rfl (g := (mkF m 6 #[.val (.ref a1), .val (.ref a2)] [(.ref a2), (.ref a1)])) rfl rfl (hb hby d5_6)
  have KC3 : Keep h0 h2 [a1] := (Keep.refl h0 [a1]).wr W2 (Or.inl (List.mem_of_getElem? (i := 0) rfl))
  have Fw2 := F_a1_value.same W2
  have N2 := Fr.snoc X2 N0 g_a1
  have c4 := E_a1.wr W2
  obtain ⟨fs, hr, hrun, hended, hW, hsame⟩ := X2.leave (v := none) (fun _ => rfl)
  refine ⟨_, _, pre0 _ ?_, hrun, hended, _, _, rfl, ?_, ⟨_, rfl⟩, hW, hsame.mono (by decide) (by decide)⟩
  · show Steps p.tables e below (s₁.setTop (mkF m 0 #[.val (.ref a1), .val (.ref a2)] [])) _
    refine XS.aloadN X0.here hx rfl (hb hby d5_0) rfl rfl ?_
    show Steps p.tables e below (s₁.setTop (mkF m 1 #[.val (.ref a1), .val (.ref a2)] [(.ref a1)])) _
    refine st1 _ ?_
    show Steps p.tables e below (T1.setTop (mkF m 4 #[.val (.ref a1), .val (.ref a2)] [])) _
    refine XS.aloadN X1.here hx rfl (hb hby d5_4) rfl rfl ?_
    show Steps p.tables e below (T1.setTop (mkF m 5 #[.val (.ref a1), .val (.ref a2)] [(.ref a1)])) _
    refine XS.aloadN X1.here hx rfl (hb hby d5_5) rfl rfl ?_
    show Steps p.tables e below (T1.setTop (mkF m 6 #[.val (.ref a1), .val (.ref a2)] [(.ref a2), (.ref a1)])) _
    refine st2 _ ?_
    show Steps p.tables e below (T2.setTop (mkF m 9 #[.val (.ref a1), .val (.ref a2)] [])) _
    exact X2.returnOut hx Bd.returns (hb hby d5_9) hr
  · show Q5_3 Z a1 a2 h0 n0 _ T2.heap _
    rw [e2]
    exact ⟨rfl, N2, KC3, c4, Fw2⟩
theorem ef3_4 (m : MethodId) (a1 : Addr) : entryFrame m #[(.ref a1)] 1 = mkF m 0 #[.val (.ref a1)] [] := by first | (simp [entryFrame, mkF, argsToLocals, Value.category]; done) | rfl
def Q3_4 (Z : State) (a1 : Addr) (h0 : Heap) (n0 : Nat) (v : Option Value) (h : Heap) (L : List Loc) : Prop := ∃ b1 : Addr, v = some (.ref b1) ∧ Fr n0 L ∧ Keep h0 h [] ∧ h0.size ≤ b1 ∧ Exa Z h b1 "java/util/Optional" ∧ Fld Z h b1 "java/util/Optional" "value" "Ljava/lang/Object;" (.ref a1)
set_option maxRecDepth 65536 in
set_option maxHeartbeats 40000000 in
theorem rm3_4 (l : Launch) (Z : State) (a0 : Array Value) (hw : ∀ d ∈ tables_1, d.before a0 Z = true) (ws : List Jvm.Cond) (a1 : Addr) (h0 : Heap) (n0 : Nat) (Z0 : n0 ≤ h0.size) :
    MetFree l (⟨"java/util/Optional", "of", "(Ljava/lang/Object;)Ljava/util/Optional;"⟩ : MethodName) (head1 (Jvm.Cond.code (⟨"java/util/Optional", "of", "(Ljava/lang/Object;)Ljava/util/Optional;"⟩ : MethodName) jdk_32_method_3_code 1 (some (.object "java/util/Optional")) :: ws) ({ frames := 2, cells := 1, slots := 1, locals := 26 } : Room)) (fun a U => a = #[(.ref a1)] ∧ Z.Warmed39 U.vm ∧ U.heap = h0) (fun _ _ _ _ _ => True) (fun _ U o U' => ∃ v L, o = .returned v ∧ Q3_4 Z a1 h0 n0 v U'.heap L ∧ FrameEnd U o U' L ({ frames := 2, cells := 1, slots := 1, locals := 26 } : Room).cells ({ frames := 2, cells := 1, slots := 1, locals := 26 } : Room).slots) := by
  refine MetFree.of_bodySF (plainFor_of_name pn_java_util_Optional) hisR ?_
  intro p e s m args below meth c s₁ Bd hml0 hP hK
  obtain ⟨rfl, hZ, hh⟩ := hP
  have hx := Bd.exec
  have hby := Bd.bytes
  have hml : c.maxLocals = 1 := hml0
  have hown : s.vm.findClass "java/util/Optional" = some m.cls := findClass_of_methodNamed Bd.named
  have hnm := (name_of_methodNamed Bd.named Bd.method).1
  have X0 : Stand p l e ({ frames := 2, cells := 1, slots := 1, locals := 26 } : Room) s m #[(.ref a1)] below meth c s₁ [] 0 0 := Stand.of_body Bd
  have e0 : s₁.heap = h0 := by rw [← hh, Bd.state]; rfl
  have N0 := Fr.nil n0
  have pre0 : ∀ t, Steps p.tables e below (s₁.setTop (mkF m 0 #[.val (.ref a1)] [])) t → Steps p.tables e below (s₁.setTop (entryFrame m #[(.ref a1)] 1)) t := fun t k => castTop (ef3_4 m a1) k
  obtain ⟨T1, h1, X1, e1, E1, A1, D1, -, st1⟩ := newO X0 hx hZ hown (own_w31 hw) (own_w32 hw) (own_w29 hw) e0 (g := (mkF m 0 #[.val (.ref a1)] [])) rfl (hb hby d3_0) (by decide) (by decide)
  obtain ⟨b1, q1⟩ : ∃ z, z = h0.size := ⟨_, rfl⟩
  rw [← q1] at A1 D1 st1
  have sz_b1 : h0.size ≤ b1 := Nat.le_of_eq q1.symm
  have sz0_b1 : h0.size ≤ b1 := sz_b1
  have g_b1 : n0 ≤ b1 := Nat.le_trans Z0 sz0_b1
  have KC2 : Keep h0 h1 [] := (Keep.refl h0 []).ext E1
  have F1_value : Fld Z h1 b1 "java/util/Optional" "value" "Ljava/lang/Object;" .null := D1 (Or.inr (own_w45 hw)) (ty := (.object "java/lang/Object")) (by decide)
  obtain ⟨_, _, ⟨T3, L3, k3, n3⟩, -, X3, ⟨Lc3, hQ3, l3, y3, z3⟩, st3⟩ := Jvm.LawKit.callS X1 hx (y := (⟨"java/util/Objects", "requireNonNull", "(Ljava/lang/Object;)Ljava/lang/Object;"⟩ : MethodName)) hown (mvT hZ (own_w33 hw)) (mvT hZ (own_w34 hw)) (mvT hZ (own_w35 hw)) (mvT hZ (own_w36 hw)) (by decide) (backOf (W := 2) (rm4_2 l Z a0 hw [] a1 h1 n0 (Nat.le_trans Z0 KC2.1) ) hZ (own_w36 hw) (own_w35 hw) (by decide) (by decide)) (g := (mkF m 5 #[.val (.ref a1)] [(.ref a1), (.ref b1), (.ref b1)])) rfl (by rw [hml]; rfl) (argsL := [(.ref a1)]) (rest := [(.ref b1), (.ref b1)]) (lenOf pd__Ljava_lang_Object__Ljava_lang_Object_ rfl) rfl (by show 2 * 0 + _ ≤ _; exact Nat.le_of_eq rfl) (hb hby d3_5) (fun _ _ => ⟨rfl, e1, (by decide : 1 + 0 ≤ _), (by decide : 1 + 0 ≤ _)⟩)
  dsimp only [Pt.U, Pt.locs, Pt.cells, Pt.slots] at X3 l3 y3 z3 st3 hQ3
  subst l3 y3 z3
  obtain ⟨rfl, N3q, e3⟩ := hQ3
  have N3 := Fr.app N0 N3q
  obtain ⟨_, _, ⟨T4, L4, k4, n4⟩, -, X4, ⟨Lc4, hQ4, l4, y4, z4⟩, st4⟩ := X3.specialBack hx (y := (⟨"java/util/Optional", "<init>", "(Ljava/lang/Object;)V"⟩ : MethodName)) rfl hown (mvT hZ (own_w37 hw)) (mvT hZ (own_w38 hw)) (mvT hZ (own_w40 hw)) (by decide) (backOf (W := 1) (rm5_3 l Z a0 hw [] b1 a1 h1 n0 (Nat.le_trans Z0 KC2.1) A1 F1_value g_b1) hZ (own_w40 hw) (own_w29 hw) (by decide) (by decide)) (g := (mkF m 8 #[.val (.ref a1)] [(.ref a1), (.ref b1), (.ref b1)])) rfl (by rw [hml]; rfl) (Steps.refl _) (a := b1) (argsL := [(.ref a1)]) (rest := [(.ref b1)]) (lenOf pd__Ljava_lang_Object__V rfl) rfl (by show 2 * 0 + _ ≤ _; exact Nat.le_of_eq rfl) (hb hby d3_8) (fun _ _ => ⟨rfl, e3, (by decide : 1 + 0 ≤ _), (by decide : 1 + 0 ≤ _)⟩)
  dsimp only [Pt.U, Pt.locs, Pt.cells, Pt.slots] at X4 l4 y4 z4 st4 hQ4
  subst l4 y4 z4
  obtain ⟨rfl, N4q, K4, f4_0, f4_1⟩ := hQ4
  have N4 := Fr.app N3 N4q
  have KC5 : Keep h0 T4.heap [] := KC2.trans K4 (allS (Or.inr sz0_b1) all0)
  obtain ⟨fs, hr, hrun, hended, hW, hsame⟩ := X4.leave (v := some (.ref b1)) (fun h => by rw [Bd.returns] at h; cases h)
  refine ⟨_, _, pre0 _ ?_, hrun, hended, _, _, rfl, ?_, ⟨_, rfl⟩, hW, hsame.mono (by decide) (by decide)⟩
  · show Steps p.tables e below (s₁.setTop (mkF m 0 #[.val (.ref a1)] [])) _
    refine st1 _ ?_
    show Steps p.tables e below (T1.setTop (mkF m 3 #[.val (.ref a1)] [(.ref b1)])) _
    refine XS.dup X1.here hx rfl (hb hby d3_3) rfl rfl ?_
    show Steps p.tables e below (T1.setTop (mkF m 4 #[.val (.ref a1)] [(.ref b1), (.ref b1)])) _
    refine XS.aloadN X1.here hx rfl (hb hby d3_4) rfl rfl ?_
    show Steps p.tables e below (T1.setTop (mkF m 5 #[.val (.ref a1)] [(.ref a1), (.ref b1), (.ref b1)])) _
    refine st3 _ ?_
    show Steps p.tables e below (T3.setTop (mkF m 8 #[.val (.ref a1)] [(.ref a1), (.ref b1), (.ref b1)])) _
    refine st4.trans ?_
    show Steps p.tables e below (T4.setTop (mkF m 11 #[.val (.ref a1)] [(.ref b1)])) _
    exact retOut X4 hx Bd.returns rfl (Or.inr (Or.inr (Or.inr (Or.inr ⟨rfl, rfl, rfl⟩)))) (hb hby d3_11) hr
  · show Q3_4 Z a1 h0 n0 _ T4.heap _
    exact ⟨b1, rfl, N4, KC5, sz0_b1, f4_0, f4_1⟩
theorem ef10_5 (m : MethodId) : entryFrame m #[] 1 = mkF m 0 #[.unset] [] := by first | (simp [entryFrame, mkF, argsToLocals, Value.category]; done) | rfl
def Q10_5 (Z : State) (a1 : Addr) (h0 : Heap) (n0 : Nat) (v : Option Value) (h : Heap) (L : List Loc) : Prop := v = some (.ref a1) ∧ Fr n0 L ∧ h = h0
set_option maxRecDepth 65536 in
set_option maxHeartbeats 40000000 in
theorem rm10_5 (l : Launch) (Z : State) (a0 : Array Value) (hw : ∀ d ∈ tables_1, d.before a0 Z = true) (ws : List Jvm.Cond) (a1 : Addr) (h0 : Heap) (n0 : Nat) (Z0 : n0 ≤ h0.size) (S_Optional_EMPTY : Sta Z h0 "java/util/Optional" "EMPTY" "Ljava/util/Optional;" (.ref a1)) :
    MetFree l (⟨"java/util/Optional", "empty", "()Ljava/util/Optional;"⟩ : MethodName) (head1 (Jvm.Cond.code (⟨"java/util/Optional", "empty", "()Ljava/util/Optional;"⟩ : MethodName) jdk_32_method_1_code 1 (some (.object "java/util/Optional")) :: ws) ({ frames := 0, cells := 0, slots := 0, locals := 0 } : Room)) (fun a U => a = #[] ∧ Z.Warmed39 U.vm ∧ U.heap = h0) (fun _ _ _ _ _ => True) (fun _ U o U' => ∃ v L, o = .returned v ∧ Q10_5 Z a1 h0 n0 v U'.heap L ∧ FrameEnd U o U' L ({ frames := 0, cells := 0, slots := 0, locals := 0 } : Room).cells ({ frames := 0, cells := 0, slots := 0, locals := 0 } : Room).slots) := by
  refine MetFree.of_bodySF (plainFor_of_name pn_java_util_Optional) hisR ?_
  intro p e s m args below meth c s₁ Bd hml0 hP hK
  obtain ⟨rfl, hZ, hh⟩ := hP
  have hx := Bd.exec
  have hby := Bd.bytes
  have hml : c.maxLocals = 1 := hml0
  have hown : s.vm.findClass "java/util/Optional" = some m.cls := findClass_of_methodNamed Bd.named
  have hnm := (name_of_methodNamed Bd.named Bd.method).1
  have X0 : Stand p l e ({ frames := 0, cells := 0, slots := 0, locals := 0 } : Room) s m #[] below meth c s₁ [] 0 0 := Stand.of_body Bd
  have e0 : s₁.heap = h0 := by rw [← hh, Bd.state]; rfl
  have N0 := Fr.nil n0
  have pre0 : ∀ t, Steps p.tables e below (s₁.setTop (mkF m 0 #[.unset] [])) t → Steps p.tables e below (s₁.setTop (entryFrame m #[] 1)) t := fun t k => castTop (ef10_5 m) k
  obtain ⟨T1, X1, e1, st1⟩ := getS2 X0 hx hZ hown (host := "") (Or.inl (own_w67 hw)) Via.refl e0 S_Optional_EMPTY (g := (mkF m 0 #[.unset] [])) rfl (hb hby d10_0)
  obtain ⟨fs, hr, hrun, hended, hW, hsame⟩ := X1.leave (v := some (.ref a1)) (fun h => by rw [Bd.returns] at h; cases h)
  refine ⟨_, _, pre0 _ ?_, hrun, hended, _, _, rfl, ?_, ⟨_, rfl⟩, hW, hsame.mono (by decide) (by decide)⟩
  · show Steps p.tables e below (s₁.setTop (mkF m 0 #[.unset] [])) _
    refine st1 _ ?_
    show Steps p.tables e below (T1.setTop (mkF m 3 #[.unset] [(.ref a1)])) _
    refine XS.astoreN X1.here hx rfl (hb hby d10_3) rfl rfl (l' := #[.val (.ref a1)]) rfl ?_
    show Steps p.tables e below (T1.setTop (mkF m 4 #[.val (.ref a1)] [])) _
    refine XS.aloadN X1.here hx rfl (hb hby d10_4) rfl rfl ?_
    show Steps p.tables e below (T1.setTop (mkF m 5 #[.val (.ref a1)] [(.ref a1)])) _
    exact retOut X1 hx Bd.returns rfl (Or.inr (Or.inr (Or.inr (Or.inr ⟨rfl, rfl, rfl⟩)))) (hb hby d10_5) hr
  · show Q10_5 Z a1 h0 n0 _ T1.heap _
    rw [e1]
    exact ⟨rfl, N0, rfl⟩
theorem ef1_6 (m : MethodId) (p1 : Int32) : entryFrame m #[(.int p1)] 5 = mkF m 0 #[.val (.int p1), .unset, .unset, .unset, .unset] [] := by first | (simp [entryFrame, mkF, argsToLocals, Value.category]; done) | rfl
def Q1_6 (Z : State) (p1 : Int32) (a2 : Addr) (kc3 : ClassId) (a4 : Addr) (a5 : Addr) (a6 : Addr) (a7 : Addr) (a8 : Addr) (h0 : Heap) (n0 : Nat) (v : Option Value) (h : Heap) (L : List Loc) : Prop := ∃ b7_0 : Addr, v = some (.ref b7_0) ∧ Fr n0 L ∧ Keep h0 h [] ∧ h0.size ≤ b7_0 ∧ Exa Z h b7_0 "java/util/Optional" ∧ Fld Z h b7_0 "java/util/Optional" "value" "Ljava/lang/Object;" (.ref a4)
set_option maxRecDepth 65536 in
set_option maxHeartbeats 40000000 in
theorem rm1_6 (l : Launch) (Z : State) (a0 : Array Value) (hw : ∀ d ∈ tables_1, d.before a0 Z = true) (ws : List Jvm.Cond) (p1 : Int32) (a2 : Addr) (kc3 : ClassId) (a4 : Addr) (a5 : Addr) (a6 : Addr) (a7 : Addr) (a8 : Addr) (h0 : Heap) (n0 : Nat) (Z0 : n0 ≤ h0.size) (S_WhoisQuery_Flag__VALUES : Sta Z h0 "com/example/delehat/delehat/protocols/whois/WhoisQuery$Flag" "$VALUES" "[Lcom/example/delehat/delehat/protocols/whois/WhoisQuery$Flag;" (.ref a2)) (E_a2 : Exa Z h0 a2 "[Lcom/example/delehat/delehat/protocols/whois/WhoisQuery$Flag;") (V_a2 : Arv Z h0 a2 kc3 (.object "com/example/delehat/delehat/protocols/whois/WhoisQuery$Flag") (5 : Int32) [(.ref a4), (.ref a5), (.ref a6), (.ref a7), (.ref a8)] .null) (F_a4_letter : Fld Z h0 a4 "com/example/delehat/delehat/protocols/whois/WhoisQuery$Flag" "letter" "C" (.int (114 : Int32))) (hc4 : (114 : Int32) = p1) :
    MetFree l (⟨"com/example/delehat/delehat/protocols/whois/WhoisQuery$Flag", "of", "(C)Ljava/util/Optional;"⟩ : MethodName) (head1 (Jvm.Cond.code (⟨"com/example/delehat/delehat/protocols/whois/WhoisQuery$Flag", "of", "(C)Ljava/util/Optional;"⟩ : MethodName) prog_93_method_4_code 5 (some (.object "java/util/Optional")) :: ws) ({ frames := 3, cells := 2, slots := 6, locals := 38 } : Room)) (fun a U => a = #[(.int p1)] ∧ Z.Warmed39 U.vm ∧ U.heap = h0) (fun _ _ _ _ _ => True) (fun _ U o U' => ∃ v L, o = .returned v ∧ Q1_6 Z p1 a2 kc3 a4 a5 a6 a7 a8 h0 n0 v U'.heap L ∧ FrameEnd U o U' L ({ frames := 3, cells := 2, slots := 6, locals := 38 } : Room).cells ({ frames := 3, cells := 2, slots := 6, locals := 38 } : Room).slots) := by
  refine MetFree.of_bodySF (plainFor_of_name pn_com_example_delehat_delehat_protocols_whois_WhoisQuery_Flag) hisR ?_
  intro p e s m args below meth c s₁ Bd hml0 hP hK
  obtain ⟨rfl, hZ, hh⟩ := hP
  have hx := Bd.exec
  have hby := Bd.bytes
  have hml : c.maxLocals = 5 := hml0
  have hown : s.vm.findClass "com/example/delehat/delehat/protocols/whois/WhoisQuery$Flag" = some m.cls := findClass_of_methodNamed Bd.named
  have hnm := (name_of_methodNamed Bd.named Bd.method).1
  have X0 : Stand p l e ({ frames := 3, cells := 2, slots := 6, locals := 38 } : Room) s m #[(.int p1)] below meth c s₁ [] 0 0 := Stand.of_body Bd
  have e0 : s₁.heap = h0 := by rw [← hh, Bd.state]; rfl
  have N0 := Fr.nil n0
  have pre0 : ∀ t, Steps p.tables e below (s₁.setTop (mkF m 0 #[.val (.int p1), .unset, .unset, .unset, .unset] [])) t → Steps p.tables e below (s₁.setTop (entryFrame m #[(.int p1)] 5)) t := fun t k => castTop (ef1_6 m p1) k
  obtain ⟨_, _, ⟨T1, L1, k1, n1⟩, -, X1, ⟨Lc1, hQ1, l1, y1, z1⟩, st1⟩ := Jvm.LawKit.callS X0 hx (y := (⟨"com/example/delehat/delehat/protocols/whois/WhoisQuery$Flag", "values", "()[Lcom/example/delehat/delehat/protocols/whois/WhoisQuery$Flag;"⟩ : MethodName)) hown (mvT hZ (own_w5 hw)) (mvT hZ (own_w6 hw)) (mvT hZ (own_w3 hw)) (mvT hZ (own_w7 hw)) (by decide) (backOf (W := 0) (rm2_1 l Z a0 hw [] a2 kc3 a4 a5 a6 a7 a8 h0 n0 Z0 S_WhoisQuery_Flag__VALUES E_a2 V_a2) hZ (own_w7 hw) (own_w3 hw) (by decide) (by decide)) (g := (mkF m 0 #[.val (.int p1), .unset, .unset, .unset, .unset] [])) rfl (by rw [hml]; rfl) (argsL := []) (rest := []) (lenOf pd____Lcom_example_delehat_delehat_protocols_whois_WhoisQuery_Flag_ rfl) rfl (by show 2 * 0 + _ ≤ _; exact Nat.le_of_eq rfl) (hb hby d1_0) (fun _ _ => ⟨rfl, e0, (by decide : 0 + 1 ≤ _), (by decide : 0 + 5 ≤ _)⟩)
  dsimp only [Pt.U, Pt.locs, Pt.cells, Pt.slots] at X1 l1 y1 z1 st1 hQ1
  subst l1 y1 z1
  obtain ⟨b1_0, rfl, N1q, K1, sq1_0, f1_0, f1_1⟩ := hQ1
  have N1 := Fr.app N0 N1q
  have sz_b1_0 : h0.size ≤ b1_0 := sq1_0
  have sz0_b1_0 : h0.size ≤ b1_0 := sz_b1_0
  have g_b1_0 : n0 ≤ b1_0 := Nat.le_trans Z0 sz0_b1_0
  have KC2 : Keep h0 T1.heap [] := (Keep.refl h0 []).trans K1 all0
  obtain ⟨cl3, Ar3, -, Sz3, Ng3, -, -⟩ := id f1_0
  obtain ⟨cl4, Ar4, qk4, Sz4, Ng4, Ha4, Gf4⟩ := id f1_0
  have hin4 : ¬ ((0 : Int32) < 0 ∨ cl4.slots.size ≤ ((0 : Int32)).toNatClampNeg) := inb_of Sz4 ⟨by decide, by decide⟩
  have hat4 : cl4.slots[((0 : Int32)).toNatClampNeg]? = some (.ref a4) := Has.at Ha4 hin4 rfl
  have c5 := F_a4_letter.keep K1 nin0
  obtain ⟨T6, X6, e6, st6⟩ := getF X1 hx hZ hown (host := "") (Or.inl (own_w25 hw)) Via.refl rfl c5 (g := (mkF m 21 #[.val (.int p1), .val (.ref b1_0), .val (.int (5 : Int32)), .val (.int (0 : Int32)), .val (.ref a4)] [(.ref a4)])) rfl rfl (hb hby d1_21)
  obtain ⟨_, _, ⟨T7, L7, k7, n7⟩, -, X7, ⟨Lc7, hQ7, l7, y7, z7⟩, st7⟩ := Jvm.LawKit.callS X6 hx (y := (⟨"java/util/Optional", "of", "(Ljava/lang/Object;)Ljava/util/Optional;"⟩ : MethodName)) hown (mvT hZ (own_w27 hw)) (mvT hZ (own_w28 hw)) (mvT hZ (own_w29 hw)) (mvT hZ (own_w30 hw)) (by decide) (backOf (W := 0) (rm3_4 l Z a0 hw [] a4 T1.heap n0 (Nat.le_trans Z0 KC2.1) ) hZ (own_w30 hw) (own_w29 hw) (by decide) (by decide)) (g := (mkF m 30 #[.val (.int p1), .val (.ref b1_0), .val (.int (5 : Int32)), .val (.int (0 : Int32)), .val (.ref a4)] [(.ref a4)])) rfl (by rw [hml]; rfl) (argsL := [(.ref a4)]) (rest := []) (lenOf pd__Ljava_lang_Object__Ljava_util_Optional_ rfl) rfl (by show 2 * 0 + _ ≤ _; exact Nat.le_of_eq rfl) (hb hby d1_30) (fun _ _ => ⟨rfl, e6, (by decide : 1 + 1 ≤ _), (by decide : 5 + 1 ≤ _)⟩)
  dsimp only [Pt.U, Pt.locs, Pt.cells, Pt.slots] at X7 l7 y7 z7 st7 hQ7
  subst l7 y7 z7
  obtain ⟨b7_0, rfl, N7q, K7, sq7_0, f7_0, f7_1⟩ := hQ7
  have N7 := Fr.app N1 N7q
  have sz_b7_0 : T1.heap.size ≤ b7_0 := sq7_0
  have sz0_b7_0 : h0.size ≤ b7_0 := Nat.le_trans KC2.1 sz_b7_0
  have g_b7_0 : n0 ≤ b7_0 := Nat.le_trans Z0 sz0_b7_0
  have KC8 : Keep h0 T7.heap [] := KC2.trans K7 all0
  obtain ⟨fs, hr, hrun, hended, hW, hsame⟩ := X7.leave (v := some (.ref b7_0)) (fun h => by rw [Bd.returns] at h; cases h)
  refine ⟨_, _, pre0 _ ?_, hrun, hended, _, _, rfl, ?_, ⟨_, rfl⟩, hW, hsame.mono (by decide) (by decide)⟩
  · show Steps p.tables e below (s₁.setTop (mkF m 0 #[.val (.int p1), .unset, .unset, .unset, .unset] [])) _
    refine st1 _ ?_
    show Steps p.tables e below (T1.setTop (mkF m 3 #[.val (.int p1), .unset, .unset, .unset, .unset] [(.ref b1_0)])) _
    refine XS.astoreN X1.here hx rfl (hb hby d1_3) rfl rfl (l' := #[.val (.int p1), .val (.ref b1_0), .unset, .unset, .unset]) rfl ?_
    show Steps p.tables e below (T1.setTop (mkF m 4 #[.val (.int p1), .val (.ref b1_0), .unset, .unset, .unset] [])) _
    refine XS.aloadN X1.here hx rfl (hb hby d1_4) rfl rfl ?_
    show Steps p.tables e below (T1.setTop (mkF m 5 #[.val (.int p1), .val (.ref b1_0), .unset, .unset, .unset] [(.ref b1_0)])) _
    refine X1.arraylength hx Ar3.1 (State.isArrayOf_alike hZ.alike Ar3.2.1) (g := (mkF m 5 #[.val (.int p1), .val (.ref b1_0), .unset, .unset, .unset] [(.ref b1_0)])) rfl rfl (hb hby d1_5) _ ?_
    rw [len_of Sz3 Ng3]
    show Steps p.tables e below (T1.setTop (mkF m 6 #[.val (.int p1), .val (.ref b1_0), .unset, .unset, .unset] [(.int (5 : Int32))])) _
    refine XS.istoreN X1.here hx rfl (hb hby d1_6) rfl (l' := #[.val (.int p1), .val (.ref b1_0), .val (.int (5 : Int32)), .unset, .unset]) rfl ?_
    show Steps p.tables e below (T1.setTop (mkF m 7 #[.val (.int p1), .val (.ref b1_0), .val (.int (5 : Int32)), .unset, .unset] [])) _
    refine XS.iconst X1.here hx rfl (hb hby d1_7) ?_
    show Steps p.tables e below (T1.setTop (mkF m 8 #[.val (.int p1), .val (.ref b1_0), .val (.int (5 : Int32)), .unset, .unset] [(.int (0 : Int32))])) _
    refine XS.istoreN X1.here hx rfl (hb hby d1_8) rfl (l' := #[.val (.int p1), .val (.ref b1_0), .val (.int (5 : Int32)), .val (.int (0 : Int32)), .unset]) rfl ?_
    show Steps p.tables e below (T1.setTop (mkF m 9 #[.val (.int p1), .val (.ref b1_0), .val (.int (5 : Int32)), .val (.int (0 : Int32)), .unset] [])) _
    refine XS.iloadN X1.here hx rfl (hb hby d1_9) rfl ?_
    show Steps p.tables e below (T1.setTop (mkF m 10 #[.val (.int p1), .val (.ref b1_0), .val (.int (5 : Int32)), .val (.int (0 : Int32)), .unset] [(.int (0 : Int32))])) _
    refine XS.iloadN X1.here hx rfl (hb hby d1_10) rfl ?_
    show Steps p.tables e below (T1.setTop (mkF m 11 #[.val (.int p1), .val (.ref b1_0), .val (.int (5 : Int32)), .val (.int (0 : Int32)), .unset] [(.int (5 : Int32)), (.int (0 : Int32))])) _
    refine XS.icmpNo X1.here hx rfl (hb hby d1_11) rfl (tlt (by decide : (0 : Int32) < (5 : Int32))).2.1 ?_
    show Steps p.tables e below (T1.setTop (mkF m 14 #[.val (.int p1), .val (.ref b1_0), .val (.int (5 : Int32)), .val (.int (0 : Int32)), .unset] [])) _
    refine XS.aloadN X1.here hx rfl (hb hby d1_14) rfl rfl ?_
    show Steps p.tables e below (T1.setTop (mkF m 15 #[.val (.int p1), .val (.ref b1_0), .val (.int (5 : Int32)), .val (.int (0 : Int32)), .unset] [(.ref b1_0)])) _
    refine XS.iloadN X1.here hx rfl (hb hby d1_15) rfl ?_
    show Steps p.tables e below (T1.setTop (mkF m 16 #[.val (.int p1), .val (.ref b1_0), .val (.int (5 : Int32)), .val (.int (0 : Int32)), .unset] [(.int (0 : Int32)), (.ref b1_0)])) _
    refine X1.aaload hx (j := (0 : Int32)) (v := (.ref a4)) Ar4.1 (State.isArrayOf_alike hZ.alike Ar4.2.1) rfl Ar4.2.2 hin4 hat4 (g := (mkF m 16 #[.val (.int p1), .val (.ref b1_0), .val (.int (5 : Int32)), .val (.int (0 : Int32)), .unset] [(.int (0 : Int32)), (.ref b1_0)])) rfl rfl (hb hby d1_16) _ ?_
    show Steps p.tables e below (T1.setTop (mkF m 17 #[.val (.int p1), .val (.ref b1_0), .val (.int (5 : Int32)), .val (.int (0 : Int32)), .unset] [(.ref a4)])) _
    refine XS.astore X1.here hx rfl (hb hby d1_17) rfl rfl (l' := #[.val (.int p1), .val (.ref b1_0), .val (.int (5 : Int32)), .val (.int (0 : Int32)), .val (.ref a4)]) rfl ?_
    show Steps p.tables e below (T1.setTop (mkF m 19 #[.val (.int p1), .val (.ref b1_0), .val (.int (5 : Int32)), .val (.int (0 : Int32)), .val (.ref a4)] [])) _
    refine XS.aload X1.here hx rfl (hb hby d1_19) rfl rfl ?_
    show Steps p.tables e below (T1.setTop (mkF m 21 #[.val (.int p1), .val (.ref b1_0), .val (.int (5 : Int32)), .val (.int (0 : Int32)), .val (.ref a4)] [(.ref a4)])) _
    refine st6 _ ?_
    show Steps p.tables e below (T6.setTop (mkF m 24 #[.val (.int p1), .val (.ref b1_0), .val (.int (5 : Int32)), .val (.int (0 : Int32)), .val (.ref a4)] [(.int (114 : Int32))])) _
    refine XS.iloadN X6.here hx rfl (hb hby d1_24) rfl ?_
    show Steps p.tables e below (T6.setTop (mkF m 25 #[.val (.int p1), .val (.ref b1_0), .val (.int (5 : Int32)), .val (.int (0 : Int32)), .val (.ref a4)] [(.int p1), (.int (114 : Int32))])) _
    refine XS.icmpNo X6.here hx rfl (hb hby d1_25) rfl (teq hc4).2 ?_
    show Steps p.tables e below (T6.setTop (mkF m 28 #[.val (.int p1), .val (.ref b1_0), .val (.int (5 : Int32)), .val (.int (0 : Int32)), .val (.ref a4)] [])) _
    refine XS.aload X6.here hx rfl (hb hby d1_28) rfl rfl ?_
    show Steps p.tables e below (T6.setTop (mkF m 30 #[.val (.int p1), .val (.ref b1_0), .val (.int (5 : Int32)), .val (.int (0 : Int32)), .val (.ref a4)] [(.ref a4)])) _
    refine st7 _ ?_
    show Steps p.tables e below (T7.setTop (mkF m 33 #[.val (.int p1), .val (.ref b1_0), .val (.int (5 : Int32)), .val (.int (0 : Int32)), .val (.ref a4)] [(.ref b7_0)])) _
    exact retOut X7 hx Bd.returns rfl (Or.inr (Or.inr (Or.inr (Or.inr ⟨rfl, rfl, rfl⟩)))) (hb hby d1_33) hr
  · show Q1_6 Z p1 a2 kc3 a4 a5 a6 a7 a8 h0 n0 _ T7.heap _
    exact ⟨b7_0, rfl, N7, KC8, sz0_b7_0, f7_0, f7_1⟩
theorem ef7_7 (m : MethodId) (a1 : Addr) : entryFrame m #[(.ref a1)] 1 = mkF m 0 #[.val (.ref a1)] [] := by first | (simp [entryFrame, mkF, argsToLocals, Value.category]; done) | rfl
def Q7_7 (Z : State) (a1 : Addr) (a2 : Addr) (h0 : Heap) (n0 : Nat) (v : Option Value) (h : Heap) (L : List Loc) : Prop := v = some (.int (1 : Int32)) ∧ Fr n0 L ∧ h = h0
set_option maxRecDepth 65536 in
set_option maxHeartbeats 40000000 in
theorem rm7_7 (l : Launch) (Z : State) (a0 : Array Value) (hw : ∀ d ∈ tables_1, d.before a0 Z = true) (ws : List Jvm.Cond) (a1 : Addr) (a2 : Addr) (h0 : Heap) (n0 : Nat) (Z0 : n0 ≤ h0.size) (F_a1_value : Fld Z h0 a1 "java/util/Optional" "value" "Ljava/lang/Object;" (.ref a2)) :
    MetFree l (⟨"java/util/Optional", "isPresent", "()Z"⟩ : MethodName) (head1 (Jvm.Cond.code (⟨"java/util/Optional", "isPresent", "()Z"⟩ : MethodName) jdk_32_method_6_code 1 (some .boolean) :: ws) ({ frames := 0, cells := 0, slots := 0, locals := 0 } : Room)) (fun a U => a = #[(.ref a1)] ∧ Z.Warmed39 U.vm ∧ U.heap = h0) (fun _ _ _ _ _ => True) (fun _ U o U' => ∃ v L, o = .returned v ∧ Q7_7 Z a1 a2 h0 n0 v U'.heap L ∧ FrameEnd U o U' L ({ frames := 0, cells := 0, slots := 0, locals := 0 } : Room).cells ({ frames := 0, cells := 0, slots := 0, locals := 0 } : Room).slots) := by
  refine MetFree.of_bodySF (plainFor_of_name pn_java_util_Optional) hisR ?_
  intro p e s m args below meth c s₁ Bd hml0 hP hK
  obtain ⟨rfl, hZ, hh⟩ := hP
  have hx := Bd.exec
  have hby := Bd.bytes
  have hml : c.maxLocals = 1 := hml0
  have hown : s.vm.findClass "java/util/Optional" = some m.cls := findClass_of_methodNamed Bd.named
  have hnm := (name_of_methodNamed Bd.named Bd.method).1
  have X0 : Stand p l e ({ frames := 0, cells := 0, slots := 0, locals := 0 } : Room) s m #[(.ref a1)] below meth c s₁ [] 0 0 := Stand.of_body Bd
  have e0 : s₁.heap = h0 := by rw [← hh, Bd.state]; rfl
  have N0 := Fr.nil n0
  have pre0 : ∀ t, Steps p.tables e below (s₁.setTop (mkF m 0 #[.val (.ref a1)] [])) t → Steps p.tables e below (s₁.setTop (entryFrame m #[(.ref a1)] 1)) t := fun t k => castTop (ef7_7 m a1) k
  obtain ⟨T1, X1, e1, st1⟩ := getF X0 hx hZ hown (host := "") (Or.inl (own_w44 hw)) Via.refl e0 F_a1_value (g := (mkF m 1 #[.val (.ref a1)] [(.ref a1)])) rfl rfl (hb hby d7_1)
  obtain ⟨fs, hr, hrun, hended, hW, hsame⟩ := X1.leave (v := some (.int (1 : Int32))) (fun h => by rw [Bd.returns] at h; cases h)
  refine ⟨_, _, pre0 _ ?_, hrun, hended, _, _, rfl, ?_, ⟨_, rfl⟩, hW, hsame.mono (by decide) (by decide)⟩
  · show Steps p.tables e below (s₁.setTop (mkF m 0 #[.val (.ref a1)] [])) _
    refine XS.aloadN X0.here hx rfl (hb hby d7_0) rfl rfl ?_
    show Steps p.tables e below (s₁.setTop (mkF m 1 #[.val (.ref a1)] [(.ref a1)])) _
    refine st1 _ ?_
    show Steps p.tables e below (T1.setTop (mkF m 4 #[.val (.ref a1)] [(.ref a2)])) _
    refine XS.ifnullNo X1.here hx rfl (hb hby d7_4) rfl ?_
    show Steps p.tables e below (T1.setTop (mkF m 7 #[.val (.ref a1)] [])) _
    refine XS.iconst X1.here hx rfl (hb hby d7_7) ?_
    show Steps p.tables e below (T1.setTop (mkF m 8 #[.val (.ref a1)] [(.int (1 : Int32))])) _
    refine XS.goto X1.here hx rfl (pc0 := 8) (pc' := 12) rfl (hb hby d7_8) (by decide) (by decide) ?_
    show Steps p.tables e below (T1.setTop (mkF m 12 #[.val (.ref a1)] [(.int (1 : Int32))])) _
    exact retN X1 hx (t := .boolean) Bd.returns (by simp) (hb hby d7_12) hr
  · show Q7_7 Z a1 a2 h0 n0 _ T1.heap _
    rw [e1]
    exact ⟨rfl, N0, rfl⟩
theorem ef8_8 (m : MethodId) (a1 : Addr) : entryFrame m #[(.ref a1)] 1 = mkF m 0 #[.val (.ref a1)] [] := by first | (simp [entryFrame, mkF, argsToLocals, Value.category]; done) | rfl
def Q8_8 (Z : State) (a1 : Addr) (a2 : Addr) (h0 : Heap) (n0 : Nat) (v : Option Value) (h : Heap) (L : List Loc) : Prop := v = some (.ref a2) ∧ Fr n0 L ∧ h = h0
set_option maxRecDepth 65536 in
set_option maxHeartbeats 40000000 in
theorem rm8_8 (l : Launch) (Z : State) (a0 : Array Value) (hw : ∀ d ∈ tables_1, d.before a0 Z = true) (ws : List Jvm.Cond) (a1 : Addr) (a2 : Addr) (h0 : Heap) (n0 : Nat) (Z0 : n0 ≤ h0.size) (F_a1_value : Fld Z h0 a1 "java/util/Optional" "value" "Ljava/lang/Object;" (.ref a2)) :
    MetFree l (⟨"java/util/Optional", "get", "()Ljava/lang/Object;"⟩ : MethodName) (head1 (Jvm.Cond.code (⟨"java/util/Optional", "get", "()Ljava/lang/Object;"⟩ : MethodName) jdk_32_method_5_code 1 (some (.object "java/lang/Object")) :: ws) ({ frames := 0, cells := 0, slots := 0, locals := 0 } : Room)) (fun a U => a = #[(.ref a1)] ∧ Z.Warmed39 U.vm ∧ U.heap = h0) (fun _ _ _ _ _ => True) (fun _ U o U' => ∃ v L, o = .returned v ∧ Q8_8 Z a1 a2 h0 n0 v U'.heap L ∧ FrameEnd U o U' L ({ frames := 0, cells := 0, slots := 0, locals := 0 } : Room).cells ({ frames := 0, cells := 0, slots := 0, locals := 0 } : Room).slots) := by
  refine MetFree.of_bodySF (plainFor_of_name pn_java_util_Optional) hisR ?_
  intro p e s m args below meth c s₁ Bd hml0 hP hK
  obtain ⟨rfl, hZ, hh⟩ := hP
  have hx := Bd.exec
  have hby := Bd.bytes
  have hml : c.maxLocals = 1 := hml0
  have hown : s.vm.findClass "java/util/Optional" = some m.cls := findClass_of_methodNamed Bd.named
  have hnm := (name_of_methodNamed Bd.named Bd.method).1
  have X0 : Stand p l e ({ frames := 0, cells := 0, slots := 0, locals := 0 } : Room) s m #[(.ref a1)] below meth c s₁ [] 0 0 := Stand.of_body Bd
  have e0 : s₁.heap = h0 := by rw [← hh, Bd.state]; rfl
  have N0 := Fr.nil n0
  have pre0 : ∀ t, Steps p.tables e below (s₁.setTop (mkF m 0 #[.val (.ref a1)] [])) t → Steps p.tables e below (s₁.setTop (entryFrame m #[(.ref a1)] 1)) t := fun t k => castTop (ef8_8 m a1) k
  obtain ⟨T1, X1, e1, st1⟩ := getF X0 hx hZ hown (host := "") (Or.inl (own_w44 hw)) Via.refl e0 F_a1_value (g := (mkF m 1 #[.val (.ref a1)] [(.ref a1)])) rfl rfl (hb hby d8_1)
  obtain ⟨T2, X2, e2, st2⟩ := getF X1 hx hZ hown (host := "") (Or.inl (own_w44 hw)) Via.refl e1 F_a1_value (g := (mkF m 18 #[.val (.ref a1)] [(.ref a1)])) rfl rfl (hb hby d8_18)
  obtain ⟨fs, hr, hrun, hended, hW, hsame⟩ := X2.leave (v := some (.ref a2)) (fun h => by rw [Bd.returns] at h; cases h)
  refine ⟨_, _, pre0 _ ?_, hrun, hended, _, _, rfl, ?_, ⟨_, rfl⟩, hW, hsame.mono (by decide) (by decide)⟩
  · show Steps p.tables e below (s₁.setTop (mkF m 0 #[.val (.ref a1)] [])) _
    refine XS.aloadN X0.here hx rfl (hb hby d8_0) rfl rfl ?_
    show Steps p.tables e below (s₁.setTop (mkF m 1 #[.val (.ref a1)] [(.ref a1)])) _
    refine st1 _ ?_
    show Steps p.tables e below (T1.setTop (mkF m 4 #[.val (.ref a1)] [(.ref a2)])) _
    refine XS.ifnonnullYes X1.here hx rfl (pc0 := 4) (pc' := 17) rfl (hb hby d8_4) rfl (by decide) (by decide) ?_
    show Steps p.tables e below (T1.setTop (mkF m 17 #[.val (.ref a1)] [])) _
    refine XS.aloadN X1.here hx rfl (hb hby d8_17) rfl rfl ?_
    show Steps p.tables e below (T1.setTop (mkF m 18 #[.val (.ref a1)] [(.ref a1)])) _
    refine st2 _ ?_
    show Steps p.tables e below (T2.setTop (mkF m 21 #[.val (.ref a1)] [(.ref a2)])) _
    exact retOut X2 hx Bd.returns rfl (Or.inr (Or.inr (Or.inr (Or.inr ⟨rfl, rfl, rfl⟩)))) (hb hby d8_21) hr
  · show Q8_8 Z a1 a2 h0 n0 _ T2.heap _
    rw [e2]
    exact ⟨rfl, N0, rfl⟩
theorem ef9_9 (m : MethodId) (p1 : Int32) : entryFrame m #[(.int p1)] 1 = mkF m 0 #[.val (.int p1)] [] := by first | (simp [entryFrame, mkF, argsToLocals, Value.category]; done) | rfl
def Q9_9 (Z : State) (p1 : Int32) (a2 : Addr) (h0 : Heap) (n0 : Nat) (v : Option Value) (h : Heap) (L : List Loc) : Prop := v = some (.ref a2) ∧ Fr n0 L ∧ h = h0
set_option maxRecDepth 65536 in
set_option maxHeartbeats 40000000 in
theorem rm9_9 (l : Launch) (Z : State) (a0 : Array Value) (hw : ∀ d ∈ tables_1, d.before a0 Z = true) (ws : List Jvm.Cond) (p1 : Int32) (a2 : Addr) (h0 : Heap) (n0 : Nat) (Z0 : n0 ≤ h0.size) (hc0 : p1 = (114 : Int32)) (S_WhoisQuery_Flag_REGISTRAR : Sta Z h0 "com/example/delehat/delehat/protocols/whois/WhoisQuery$Flag" "REGISTRAR" "Lcom/example/delehat/delehat/protocols/whois/WhoisQuery$Flag;" (.ref a2)) :
    MetFree l (⟨"com/example/delehat/delehat/protocols/whois/WhoisQueryOfPinLaw", "expected", "(C)Lcom/example/delehat/delehat/protocols/whois/WhoisQuery$Flag;"⟩ : MethodName) (head1 (Jvm.Cond.code (⟨"com/example/delehat/delehat/protocols/whois/WhoisQueryOfPinLaw", "expected", "(C)Lcom/example/delehat/delehat/protocols/whois/WhoisQuery$Flag;"⟩ : MethodName) method_2_code 1 (some (.object "com/example/delehat/delehat/protocols/whois/WhoisQuery$Flag")) :: ws) ({ frames := 0, cells := 0, slots := 0, locals := 0 } : Room)) (fun a U => a = #[(.int p1)] ∧ Z.Warmed39 U.vm ∧ U.heap = h0) (fun _ _ _ _ _ => True) (fun _ U o U' => ∃ v L, o = .returned v ∧ Q9_9 Z p1 a2 h0 n0 v U'.heap L ∧ FrameEnd U o U' L ({ frames := 0, cells := 0, slots := 0, locals := 0 } : Room).cells ({ frames := 0, cells := 0, slots := 0, locals := 0 } : Room).slots) := by
  refine MetFree.of_bodySF (plainFor_of_name pn_com_example_delehat_delehat_protocols_whois_WhoisQueryOfPinLaw) hisR ?_
  intro p e s m args below meth c s₁ Bd hml0 hP hK
  obtain ⟨rfl, hZ, hh⟩ := hP
  have hx := Bd.exec
  have hby := Bd.bytes
  have hml : c.maxLocals = 1 := hml0
  have hown : s.vm.findClass "com/example/delehat/delehat/protocols/whois/WhoisQueryOfPinLaw" = some m.cls := findClass_of_methodNamed Bd.named
  have hnm := (name_of_methodNamed Bd.named Bd.method).1
  have X0 : Stand p l e ({ frames := 0, cells := 0, slots := 0, locals := 0 } : Room) s m #[(.int p1)] below meth c s₁ [] 0 0 := Stand.of_body Bd
  have e0 : s₁.heap = h0 := by rw [← hh, Bd.state]; rfl
  have N0 := Fr.nil n0
  have pre0 : ∀ t, Steps p.tables e below (s₁.setTop (mkF m 0 #[.val (.int p1)] [])) t → Steps p.tables e below (s₁.setTop (entryFrame m #[(.int p1)] 1)) t := fun t k => castTop (ef9_9 m p1) k
  obtain ⟨T1, X1, e1, st1⟩ := getS2 X0 hx hZ hown (host := "") (Or.inl (own_w70 hw)) Via.refl e0 S_WhoisQuery_Flag_REGISTRAR (g := (mkF m 6 #[.val (.int p1)] [])) rfl (hb hby d9_6)
  obtain ⟨fs, hr, hrun, hended, hW, hsame⟩ := X1.leave (v := some (.ref a2)) (fun h => by rw [Bd.returns] at h; cases h)
  refine ⟨_, _, pre0 _ ?_, hrun, hended, _, _, rfl, ?_, ⟨_, rfl⟩, hW, hsame.mono (by decide) (by decide)⟩
  · show Steps p.tables e below (s₁.setTop (mkF m 0 #[.val (.int p1)] [])) _
    refine XS.iloadN X0.here hx rfl (hb hby d9_0) rfl ?_
    show Steps p.tables e below (s₁.setTop (mkF m 1 #[.val (.int p1)] [(.int p1)])) _
    refine XS.bipush X0.here hx rfl (hb hby d9_1) ?_
    show Steps p.tables e below (s₁.setTop (mkF m 3 #[.val (.int p1)] [(.int (114 : Int32)), (.int p1)])) _
    refine XS.icmpNo X0.here hx rfl (hb hby d9_3) rfl (teq hc0).2 ?_
    show Steps p.tables e below (s₁.setTop (mkF m 6 #[.val (.int p1)] [])) _
    refine st1 _ ?_
    show Steps p.tables e below (T1.setTop (mkF m 9 #[.val (.int p1)] [(.ref a2)])) _
    exact retOut X1 hx Bd.returns rfl (Or.inr (Or.inr (Or.inr (Or.inr ⟨rfl, rfl, rfl⟩)))) (hb hby d9_9) hr
  · show Q9_9 Z p1 a2 h0 n0 _ T1.heap _
    rw [e1]
    exact ⟨rfl, N0, rfl⟩
theorem ef1_10 (m : MethodId) (p1 : Int32) : entryFrame m #[(.int p1)] 5 = mkF m 0 #[.val (.int p1), .unset, .unset, .unset, .unset] [] := by first | (simp [entryFrame, mkF, argsToLocals, Value.category]; done) | rfl
def Q1_10 (Z : State) (p1 : Int32) (a2 : Addr) (kc3 : ClassId) (a4 : Addr) (a5 : Addr) (a6 : Addr) (a7 : Addr) (a8 : Addr) (h0 : Heap) (n0 : Nat) (v : Option Value) (h : Heap) (L : List Loc) : Prop := ∃ b10_0 : Addr, v = some (.ref b10_0) ∧ Fr n0 L ∧ Keep h0 h [] ∧ h0.size ≤ b10_0 ∧ Exa Z h b10_0 "java/util/Optional" ∧ Fld Z h b10_0 "java/util/Optional" "value" "Ljava/lang/Object;" (.ref a5)
set_option maxRecDepth 65536 in
set_option maxHeartbeats 40000000 in
theorem rm1_10 (l : Launch) (Z : State) (a0 : Array Value) (hw : ∀ d ∈ tables_1, d.before a0 Z = true) (ws : List Jvm.Cond) (p1 : Int32) (a2 : Addr) (kc3 : ClassId) (a4 : Addr) (a5 : Addr) (a6 : Addr) (a7 : Addr) (a8 : Addr) (h0 : Heap) (n0 : Nat) (Z0 : n0 ≤ h0.size) (S_WhoisQuery_Flag__VALUES : Sta Z h0 "com/example/delehat/delehat/protocols/whois/WhoisQuery$Flag" "$VALUES" "[Lcom/example/delehat/delehat/protocols/whois/WhoisQuery$Flag;" (.ref a2)) (E_a2 : Exa Z h0 a2 "[Lcom/example/delehat/delehat/protocols/whois/WhoisQuery$Flag;") (V_a2 : Arv Z h0 a2 kc3 (.object "com/example/delehat/delehat/protocols/whois/WhoisQuery$Flag") (5 : Int32) [(.ref a4), (.ref a5), (.ref a6), (.ref a7), (.ref a8)] .null) (F_a4_letter : Fld Z h0 a4 "com/example/delehat/delehat/protocols/whois/WhoisQuery$Flag" "letter" "C" (.int (114 : Int32))) (hc4 : ¬ ((114 : Int32) = p1)) (F_a5_letter : Fld Z h0 a5 "com/example/delehat/delehat/protocols/whois/WhoisQuery$Flag" "letter" "C" (.int (111 : Int32))) (hc6 : (111 : Int32) = p1) :
    MetFree l (⟨"com/example/delehat/delehat/protocols/whois/WhoisQuery$Flag", "of", "(C)Ljava/util/Optional;"⟩ : MethodName) (head1 (Jvm.Cond.code (⟨"com/example/delehat/delehat/protocols/whois/WhoisQuery$Flag", "of", "(C)Ljava/util/Optional;"⟩ : MethodName) prog_93_method_4_code 5 (some (.object "java/util/Optional")) :: ws) ({ frames := 3, cells := 2, slots := 6, locals := 38 } : Room)) (fun a U => a = #[(.int p1)] ∧ Z.Warmed39 U.vm ∧ U.heap = h0) (fun _ _ _ _ _ => True) (fun _ U o U' => ∃ v L, o = .returned v ∧ Q1_10 Z p1 a2 kc3 a4 a5 a6 a7 a8 h0 n0 v U'.heap L ∧ FrameEnd U o U' L ({ frames := 3, cells := 2, slots := 6, locals := 38 } : Room).cells ({ frames := 3, cells := 2, slots := 6, locals := 38 } : Room).slots) := by
  refine MetFree.of_bodySF (plainFor_of_name pn_com_example_delehat_delehat_protocols_whois_WhoisQuery_Flag) hisR ?_
  intro p e s m args below meth c s₁ Bd hml0 hP hK
  obtain ⟨rfl, hZ, hh⟩ := hP
  have hx := Bd.exec
  have hby := Bd.bytes
  have hml : c.maxLocals = 5 := hml0
  have hown : s.vm.findClass "com/example/delehat/delehat/protocols/whois/WhoisQuery$Flag" = some m.cls := findClass_of_methodNamed Bd.named
  have hnm := (name_of_methodNamed Bd.named Bd.method).1
  have X0 : Stand p l e ({ frames := 3, cells := 2, slots := 6, locals := 38 } : Room) s m #[(.int p1)] below meth c s₁ [] 0 0 := Stand.of_body Bd
  have e0 : s₁.heap = h0 := by rw [← hh, Bd.state]; rfl
  have N0 := Fr.nil n0
  have pre0 : ∀ t, Steps p.tables e below (s₁.setTop (mkF m 0 #[.val (.int p1), .unset, .unset, .unset, .unset] [])) t → Steps p.tables e below (s₁.setTop (entryFrame m #[(.int p1)] 5)) t := fun t k => castTop (ef1_10 m p1) k
  obtain ⟨_, _, ⟨T1, L1, k1, n1⟩, -, X1, ⟨Lc1, hQ1, l1, y1, z1⟩, st1⟩ := Jvm.LawKit.callS X0 hx (y := (⟨"com/example/delehat/delehat/protocols/whois/WhoisQuery$Flag", "values", "()[Lcom/example/delehat/delehat/protocols/whois/WhoisQuery$Flag;"⟩ : MethodName)) hown (mvT hZ (own_w5 hw)) (mvT hZ (own_w6 hw)) (mvT hZ (own_w3 hw)) (mvT hZ (own_w7 hw)) (by decide) (backOf (W := 0) (rm2_1 l Z a0 hw [] a2 kc3 a4 a5 a6 a7 a8 h0 n0 Z0 S_WhoisQuery_Flag__VALUES E_a2 V_a2) hZ (own_w7 hw) (own_w3 hw) (by decide) (by decide)) (g := (mkF m 0 #[.val (.int p1), .unset, .unset, .unset, .unset] [])) rfl (by rw [hml]; rfl) (argsL := []) (rest := []) (lenOf pd____Lcom_example_delehat_delehat_protocols_whois_WhoisQuery_Flag_ rfl) rfl (by show 2 * 0 + _ ≤ _; exact Nat.le_of_eq rfl) (hb hby d1_0) (fun _ _ => ⟨rfl, e0, (by decide : 0 + 1 ≤ _), (by decide : 0 + 5 ≤ _)⟩)
  dsimp only [Pt.U, Pt.locs, Pt.cells, Pt.slots] at X1 l1 y1 z1 st1 hQ1
  subst l1 y1 z1
  obtain ⟨b1_0, rfl, N1q, K1, sq1_0, f1_0, f1_1⟩ := hQ1
  have N1 := Fr.app N0 N1q
  have sz_b1_0 : h0.size ≤ b1_0 := sq1_0
  have sz0_b1_0 : h0.size ≤ b1_0 := sz_b1_0
  have g_b1_0 : n0 ≤ b1_0 := Nat.le_trans Z0 sz0_b1_0
  have KC2 : Keep h0 T1.heap [] := (Keep.refl h0 []).trans K1 all0
  obtain ⟨cl3, Ar3, -, Sz3, Ng3, -, -⟩ := id f1_0
  obtain ⟨cl4, Ar4, qk4, Sz4, Ng4, Ha4, Gf4⟩ := id f1_0
  have hin4 : ¬ ((0 : Int32) < 0 ∨ cl4.slots.size ≤ ((0 : Int32)).toNatClampNeg) := inb_of Sz4 ⟨by decide, by decide⟩
  have hat4 : cl4.slots[((0 : Int32)).toNatClampNeg]? = some (.ref a4) := Has.at Ha4 hin4 rfl
  have c5 := F_a4_letter.keep K1 nin0
  obtain ⟨T6, X6, e6, st6⟩ := getF X1 hx hZ hown (host := "") (Or.inl (own_w25 hw)) Via.refl rfl c5 (g := (mkF m 21 #[.val (.int p1), .val (.ref b1_0), .val (.int (5 : Int32)), .val (.int (0 : Int32)), .val (.ref a4)] [(.ref a4)])) rfl rfl (hb hby d1_21)
  obtain ⟨cl7, Ar7, qk7, Sz7, Ng7, Ha7, Gf7⟩ := id f1_0
  have hin7 : ¬ ((1 : Int32) < 0 ∨ cl7.slots.size ≤ ((1 : Int32)).toNatClampNeg) := inb_of Sz7 ⟨by decide, by decide⟩
  have hat7 : cl7.slots[((1 : Int32)).toNatClampNeg]? = some (.ref a5) := Has.at Ha7 hin7 rfl
  have c8 := F_a5_letter.keep K1 nin0
  obtain ⟨T9, X9, e9, st9⟩ := getF X6 hx hZ hown (host := "") (Or.inl (own_w25 hw)) Via.refl e6 c8 (g := (mkF m 21 #[.val (.int p1), .val (.ref b1_0), .val (.int (5 : Int32)), .val (.int (1 : Int32)), .val (.ref a5)] [(.ref a5)])) rfl rfl (hb hby d1_21)
  obtain ⟨_, _, ⟨T10, L10, k10, n10⟩, -, X10, ⟨Lc10, hQ10, l10, y10, z10⟩, st10⟩ := Jvm.LawKit.callS X9 hx (y := (⟨"java/util/Optional", "of", "(Ljava/lang/Object;)Ljava/util/Optional;"⟩ : MethodName)) hown (mvT hZ (own_w27 hw)) (mvT hZ (own_w28 hw)) (mvT hZ (own_w29 hw)) (mvT hZ (own_w30 hw)) (by decide) (backOf (W := 0) (rm3_4 l Z a0 hw [] a5 T1.heap n0 (Nat.le_trans Z0 KC2.1) ) hZ (own_w30 hw) (own_w29 hw) (by decide) (by decide)) (g := (mkF m 30 #[.val (.int p1), .val (.ref b1_0), .val (.int (5 : Int32)), .val (.int (1 : Int32)), .val (.ref a5)] [(.ref a5)])) rfl (by rw [hml]; rfl) (argsL := [(.ref a5)]) (rest := []) (lenOf pd__Ljava_lang_Object__Ljava_util_Optional_ rfl) rfl (by show 2 * 0 + _ ≤ _; exact Nat.le_of_eq rfl) (hb hby d1_30) (fun _ _ => ⟨rfl, e9, (by decide : 1 + 1 ≤ _), (by decide : 5 + 1 ≤ _)⟩)
  dsimp only [Pt.U, Pt.locs, Pt.cells, Pt.slots] at X10 l10 y10 z10 st10 hQ10
  subst l10 y10 z10
  obtain ⟨b10_0, rfl, N10q, K10, sq10_0, f10_0, f10_1⟩ := hQ10
  have N10 := Fr.app N1 N10q
  have sz_b10_0 : T1.heap.size ≤ b10_0 := sq10_0
  have sz0_b10_0 : h0.size ≤ b10_0 := Nat.le_trans KC2.1 sz_b10_0
  have g_b10_0 : n0 ≤ b10_0 := Nat.le_trans Z0 sz0_b10_0
  have KC11 : Keep h0 T10.heap [] := KC2.trans K10 all0
  obtain ⟨fs, hr, hrun, hended, hW, hsame⟩ := X10.leave (v := some (.ref b10_0)) (fun h => by rw [Bd.returns] at h; cases h)
  refine ⟨_, _, pre0 _ ?_, hrun, hended, _, _, rfl, ?_, ⟨_, rfl⟩, hW, hsame.mono (by decide) (by decide)⟩
  · show Steps p.tables e below (s₁.setTop (mkF m 0 #[.val (.int p1), .unset, .unset, .unset, .unset] [])) _
    refine st1 _ ?_
    show Steps p.tables e below (T1.setTop (mkF m 3 #[.val (.int p1), .unset, .unset, .unset, .unset] [(.ref b1_0)])) _
    refine XS.astoreN X1.here hx rfl (hb hby d1_3) rfl rfl (l' := #[.val (.int p1), .val (.ref b1_0), .unset, .unset, .unset]) rfl ?_
    show Steps p.tables e below (T1.setTop (mkF m 4 #[.val (.int p1), .val (.ref b1_0), .unset, .unset, .unset] [])) _
    refine XS.aloadN X1.here hx rfl (hb hby d1_4) rfl rfl ?_
    show Steps p.tables e below (T1.setTop (mkF m 5 #[.val (.int p1), .val (.ref b1_0), .unset, .unset, .unset] [(.ref b1_0)])) _
    refine X1.arraylength hx Ar3.1 (State.isArrayOf_alike hZ.alike Ar3.2.1) (g := (mkF m 5 #[.val (.int p1), .val (.ref b1_0), .unset, .unset, .unset] [(.ref b1_0)])) rfl rfl (hb hby d1_5) _ ?_
    rw [len_of Sz3 Ng3]
    show Steps p.tables e below (T1.setTop (mkF m 6 #[.val (.int p1), .val (.ref b1_0), .unset, .unset, .unset] [(.int (5 : Int32))])) _
    refine XS.istoreN X1.here hx rfl (hb hby d1_6) rfl (l' := #[.val (.int p1), .val (.ref b1_0), .val (.int (5 : Int32)), .unset, .unset]) rfl ?_
    show Steps p.tables e below (T1.setTop (mkF m 7 #[.val (.int p1), .val (.ref b1_0), .val (.int (5 : Int32)), .unset, .unset] [])) _
    refine XS.iconst X1.here hx rfl (hb hby d1_7) ?_
    show Steps p.tables e below (T1.setTop (mkF m 8 #[.val (.int p1), .val (.ref b1_0), .val (.int (5 : Int32)), .unset, .unset] [(.int (0 : Int32))])) _
    refine XS.istoreN X1.here hx rfl (hb hby d1_8) rfl (l' := #[.val (.int p1), .val (.ref b1_0), .val (.int (5 : Int32)), .val (.int (0 : Int32)), .unset]) rfl ?_
    show Steps p.tables e below (T1.setTop (mkF m 9 #[.val (.int p1), .val (.ref b1_0), .val (.int (5 : Int32)), .val (.int (0 : Int32)), .unset] [])) _
    refine XS.iloadN X1.here hx rfl (hb hby d1_9) rfl ?_
    show Steps p.tables e below (T1.setTop (mkF m 10 #[.val (.int p1), .val (.ref b1_0), .val (.int (5 : Int32)), .val (.int (0 : Int32)), .unset] [(.int (0 : Int32))])) _
    refine XS.iloadN X1.here hx rfl (hb hby d1_10) rfl ?_
    show Steps p.tables e below (T1.setTop (mkF m 11 #[.val (.int p1), .val (.ref b1_0), .val (.int (5 : Int32)), .val (.int (0 : Int32)), .unset] [(.int (5 : Int32)), (.int (0 : Int32))])) _
    refine XS.icmpNo X1.here hx rfl (hb hby d1_11) rfl (tlt (by decide : (0 : Int32) < (5 : Int32))).2.1 ?_
    show Steps p.tables e below (T1.setTop (mkF m 14 #[.val (.int p1), .val (.ref b1_0), .val (.int (5 : Int32)), .val (.int (0 : Int32)), .unset] [])) _
    refine XS.aloadN X1.here hx rfl (hb hby d1_14) rfl rfl ?_
    show Steps p.tables e below (T1.setTop (mkF m 15 #[.val (.int p1), .val (.ref b1_0), .val (.int (5 : Int32)), .val (.int (0 : Int32)), .unset] [(.ref b1_0)])) _
    refine XS.iloadN X1.here hx rfl (hb hby d1_15) rfl ?_
    show Steps p.tables e below (T1.setTop (mkF m 16 #[.val (.int p1), .val (.ref b1_0), .val (.int (5 : Int32)), .val (.int (0 : Int32)), .unset] [(.int (0 : Int32)), (.ref b1_0)])) _
    refine X1.aaload hx (j := (0 : Int32)) (v := (.ref a4)) Ar4.1 (State.isArrayOf_alike hZ.alike Ar4.2.1) rfl Ar4.2.2 hin4 hat4 (g := (mkF m 16 #[.val (.int p1), .val (.ref b1_0), .val (.int (5 : Int32)), .val (.int (0 : Int32)), .unset] [(.int (0 : Int32)), (.ref b1_0)])) rfl rfl (hb hby d1_16) _ ?_
    show Steps p.tables e below (T1.setTop (mkF m 17 #[.val (.int p1), .val (.ref b1_0), .val (.int (5 : Int32)), .val (.int (0 : Int32)), .unset] [(.ref a4)])) _
    refine XS.astore X1.here hx rfl (hb hby d1_17) rfl rfl (l' := #[.val (.int p1), .val (.ref b1_0), .val (.int (5 : Int32)), .val (.int (0 : Int32)), .val (.ref a4)]) rfl ?_
    show Steps p.tables e below (T1.setTop (mkF m 19 #[.val (.int p1), .val (.ref b1_0), .val (.int (5 : Int32)), .val (.int (0 : Int32)), .val (.ref a4)] [])) _
    refine XS.aload X1.here hx rfl (hb hby d1_19) rfl rfl ?_
    show Steps p.tables e below (T1.setTop (mkF m 21 #[.val (.int p1), .val (.ref b1_0), .val (.int (5 : Int32)), .val (.int (0 : Int32)), .val (.ref a4)] [(.ref a4)])) _
    refine st6 _ ?_
    show Steps p.tables e below (T6.setTop (mkF m 24 #[.val (.int p1), .val (.ref b1_0), .val (.int (5 : Int32)), .val (.int (0 : Int32)), .val (.ref a4)] [(.int (114 : Int32))])) _
    refine XS.iloadN X6.here hx rfl (hb hby d1_24) rfl ?_
    show Steps p.tables e below (T6.setTop (mkF m 25 #[.val (.int p1), .val (.ref b1_0), .val (.int (5 : Int32)), .val (.int (0 : Int32)), .val (.ref a4)] [(.int p1), (.int (114 : Int32))])) _
    refine XS.icmpYes X6.here hx rfl (pc0 := 25) (pc' := 34) rfl (hb hby d1_25) rfl (feq hc4).2 (by decide) (by decide) ?_
    show Steps p.tables e below (T6.setTop (mkF m 34 #[.val (.int p1), .val (.ref b1_0), .val (.int (5 : Int32)), .val (.int (0 : Int32)), .val (.ref a4)] [])) _
    refine XS.iinc X6.here hx rfl (hb hby d1_34) rfl (l' := #[.val (.int p1), .val (.ref b1_0), .val (.int (5 : Int32)), .val (.int (1 : Int32)), .val (.ref a4)]) rfl ?_
    show Steps p.tables e below (T6.setTop (mkF m 37 #[.val (.int p1), .val (.ref b1_0), .val (.int (5 : Int32)), .val (.int (1 : Int32)), .val (.ref a4)] [])) _
    refine XS.goto X6.here hx rfl (pc0 := 37) (pc' := 9) rfl (hb hby d1_37) (by decide) (by decide) ?_
    show Steps p.tables e below (T6.setTop (mkF m 9 #[.val (.int p1), .val (.ref b1_0), .val (.int (5 : Int32)), .val (.int (1 : Int32)), .val (.ref a4)] [])) _
    refine XS.iloadN X6.here hx rfl (hb hby d1_9) rfl ?_
    show Steps p.tables e below (T6.setTop (mkF m 10 #[.val (.int p1), .val (.ref b1_0), .val (.int (5 : Int32)), .val (.int (1 : Int32)), .val (.ref a4)] [(.int (1 : Int32))])) _
    refine XS.iloadN X6.here hx rfl (hb hby d1_10) rfl ?_
    show Steps p.tables e below (T6.setTop (mkF m 11 #[.val (.int p1), .val (.ref b1_0), .val (.int (5 : Int32)), .val (.int (1 : Int32)), .val (.ref a4)] [(.int (5 : Int32)), (.int (1 : Int32))])) _
    refine XS.icmpNo X6.here hx rfl (hb hby d1_11) rfl (tlt (by decide : (1 : Int32) < (5 : Int32))).2.1 ?_
    show Steps p.tables e below (T6.setTop (mkF m 14 #[.val (.int p1), .val (.ref b1_0), .val (.int (5 : Int32)), .val (.int (1 : Int32)), .val (.ref a4)] [])) _
    refine XS.aloadN X6.here hx rfl (hb hby d1_14) rfl rfl ?_
    show Steps p.tables e below (T6.setTop (mkF m 15 #[.val (.int p1), .val (.ref b1_0), .val (.int (5 : Int32)), .val (.int (1 : Int32)), .val (.ref a4)] [(.ref b1_0)])) _
    refine XS.iloadN X6.here hx rfl (hb hby d1_15) rfl ?_
    show Steps p.tables e below (T6.setTop (mkF m 16 #[.val (.int p1), .val (.ref b1_0), .val (.int (5 : Int32)), .val (.int (1 : Int32)), .val (.ref a4)] [(.int (1 : Int32)), (.ref b1_0)])) _
    refine X6.aaload hx (j := (1 : Int32)) (v := (.ref a5)) (by rw [e6]; exact Ar7.1) (State.isArrayOf_alike hZ.alike Ar7.2.1) rfl Ar7.2.2 hin7 hat7 (g := (mkF m 16 #[.val (.int p1), .val (.ref b1_0), .val (.int (5 : Int32)), .val (.int (1 : Int32)), .val (.ref a4)] [(.int (1 : Int32)), (.ref b1_0)])) rfl rfl (hb hby d1_16) _ ?_
    show Steps p.tables e below (T6.setTop (mkF m 17 #[.val (.int p1), .val (.ref b1_0), .val (.int (5 : Int32)), .val (.int (1 : Int32)), .val (.ref a4)] [(.ref a5)])) _
    refine XS.astore X6.here hx rfl (hb hby d1_17) rfl rfl (l' := #[.val (.int p1), .val (.ref b1_0), .val (.int (5 : Int32)), .val (.int (1 : Int32)), .val (.ref a5)]) rfl ?_
    show Steps p.tables e below (T6.setTop (mkF m 19 #[.val (.int p1), .val (.ref b1_0), .val (.int (5 : Int32)), .val (.int (1 : Int32)), .val (.ref a5)] [])) _
    refine XS.aload X6.here hx rfl (hb hby d1_19) rfl rfl ?_
    show Steps p.tables e below (T6.setTop (mkF m 21 #[.val (.int p1), .val (.ref b1_0), .val (.int (5 : Int32)), .val (.int (1 : Int32)), .val (.ref a5)] [(.ref a5)])) _
    refine st9 _ ?_
    show Steps p.tables e below (T9.setTop (mkF m 24 #[.val (.int p1), .val (.ref b1_0), .val (.int (5 : Int32)), .val (.int (1 : Int32)), .val (.ref a5)] [(.int (111 : Int32))])) _
    refine XS.iloadN X9.here hx rfl (hb hby d1_24) rfl ?_
    show Steps p.tables e below (T9.setTop (mkF m 25 #[.val (.int p1), .val (.ref b1_0), .val (.int (5 : Int32)), .val (.int (1 : Int32)), .val (.ref a5)] [(.int p1), (.int (111 : Int32))])) _
    refine XS.icmpNo X9.here hx rfl (hb hby d1_25) rfl (teq hc6).2 ?_
    show Steps p.tables e below (T9.setTop (mkF m 28 #[.val (.int p1), .val (.ref b1_0), .val (.int (5 : Int32)), .val (.int (1 : Int32)), .val (.ref a5)] [])) _
    refine XS.aload X9.here hx rfl (hb hby d1_28) rfl rfl ?_
    show Steps p.tables e below (T9.setTop (mkF m 30 #[.val (.int p1), .val (.ref b1_0), .val (.int (5 : Int32)), .val (.int (1 : Int32)), .val (.ref a5)] [(.ref a5)])) _
    refine st10 _ ?_
    show Steps p.tables e below (T10.setTop (mkF m 33 #[.val (.int p1), .val (.ref b1_0), .val (.int (5 : Int32)), .val (.int (1 : Int32)), .val (.ref a5)] [(.ref b10_0)])) _
    exact retOut X10 hx Bd.returns rfl (Or.inr (Or.inr (Or.inr (Or.inr ⟨rfl, rfl, rfl⟩)))) (hb hby d1_33) hr
  · show Q1_10 Z p1 a2 kc3 a4 a5 a6 a7 a8 h0 n0 _ T10.heap _
    exact ⟨b10_0, rfl, N10, KC11, sz0_b10_0, f10_0, f10_1⟩
theorem ef9_11 (m : MethodId) (p1 : Int32) : entryFrame m #[(.int p1)] 1 = mkF m 0 #[.val (.int p1)] [] := by first | (simp [entryFrame, mkF, argsToLocals, Value.category]; done) | rfl
def Q9_11 (Z : State) (p1 : Int32) (a2 : Addr) (h0 : Heap) (n0 : Nat) (v : Option Value) (h : Heap) (L : List Loc) : Prop := v = some (.ref a2) ∧ Fr n0 L ∧ h = h0
set_option maxRecDepth 65536 in
set_option maxHeartbeats 40000000 in
theorem rm9_11 (l : Launch) (Z : State) (a0 : Array Value) (hw : ∀ d ∈ tables_1, d.before a0 Z = true) (ws : List Jvm.Cond) (p1 : Int32) (a2 : Addr) (h0 : Heap) (n0 : Nat) (Z0 : n0 ≤ h0.size) (hc0 : ¬ (p1 = (114 : Int32))) (hc1 : p1 = (111 : Int32)) (S_WhoisQuery_Flag_REGISTRANT : Sta Z h0 "com/example/delehat/delehat/protocols/whois/WhoisQuery$Flag" "REGISTRANT" "Lcom/example/delehat/delehat/protocols/whois/WhoisQuery$Flag;" (.ref a2)) :
    MetFree l (⟨"com/example/delehat/delehat/protocols/whois/WhoisQueryOfPinLaw", "expected", "(C)Lcom/example/delehat/delehat/protocols/whois/WhoisQuery$Flag;"⟩ : MethodName) (head1 (Jvm.Cond.code (⟨"com/example/delehat/delehat/protocols/whois/WhoisQueryOfPinLaw", "expected", "(C)Lcom/example/delehat/delehat/protocols/whois/WhoisQuery$Flag;"⟩ : MethodName) method_2_code 1 (some (.object "com/example/delehat/delehat/protocols/whois/WhoisQuery$Flag")) :: ws) ({ frames := 0, cells := 0, slots := 0, locals := 0 } : Room)) (fun a U => a = #[(.int p1)] ∧ Z.Warmed39 U.vm ∧ U.heap = h0) (fun _ _ _ _ _ => True) (fun _ U o U' => ∃ v L, o = .returned v ∧ Q9_11 Z p1 a2 h0 n0 v U'.heap L ∧ FrameEnd U o U' L ({ frames := 0, cells := 0, slots := 0, locals := 0 } : Room).cells ({ frames := 0, cells := 0, slots := 0, locals := 0 } : Room).slots) := by
  refine MetFree.of_bodySF (plainFor_of_name pn_com_example_delehat_delehat_protocols_whois_WhoisQueryOfPinLaw) hisR ?_
  intro p e s m args below meth c s₁ Bd hml0 hP hK
  obtain ⟨rfl, hZ, hh⟩ := hP
  have hx := Bd.exec
  have hby := Bd.bytes
  have hml : c.maxLocals = 1 := hml0
  have hown : s.vm.findClass "com/example/delehat/delehat/protocols/whois/WhoisQueryOfPinLaw" = some m.cls := findClass_of_methodNamed Bd.named
  have hnm := (name_of_methodNamed Bd.named Bd.method).1
  have X0 : Stand p l e ({ frames := 0, cells := 0, slots := 0, locals := 0 } : Room) s m #[(.int p1)] below meth c s₁ [] 0 0 := Stand.of_body Bd
  have e0 : s₁.heap = h0 := by rw [← hh, Bd.state]; rfl
  have N0 := Fr.nil n0
  have pre0 : ∀ t, Steps p.tables e below (s₁.setTop (mkF m 0 #[.val (.int p1)] [])) t → Steps p.tables e below (s₁.setTop (entryFrame m #[(.int p1)] 1)) t := fun t k => castTop (ef9_11 m p1) k
  obtain ⟨T1, X1, e1, st1⟩ := getS2 X0 hx hZ hown (host := "") (Or.inl (own_w63 hw)) Via.refl e0 S_WhoisQuery_Flag_REGISTRANT (g := (mkF m 16 #[.val (.int p1)] [])) rfl (hb hby d9_16)
  obtain ⟨fs, hr, hrun, hended, hW, hsame⟩ := X1.leave (v := some (.ref a2)) (fun h => by rw [Bd.returns] at h; cases h)
  refine ⟨_, _, pre0 _ ?_, hrun, hended, _, _, rfl, ?_, ⟨_, rfl⟩, hW, hsame.mono (by decide) (by decide)⟩
  · show Steps p.tables e below (s₁.setTop (mkF m 0 #[.val (.int p1)] [])) _
    refine XS.iloadN X0.here hx rfl (hb hby d9_0) rfl ?_
    show Steps p.tables e below (s₁.setTop (mkF m 1 #[.val (.int p1)] [(.int p1)])) _
    refine XS.bipush X0.here hx rfl (hb hby d9_1) ?_
    show Steps p.tables e below (s₁.setTop (mkF m 3 #[.val (.int p1)] [(.int (114 : Int32)), (.int p1)])) _
    refine XS.icmpYes X0.here hx rfl (pc0 := 3) (pc' := 10) rfl (hb hby d9_3) rfl (feq hc0).2 (by decide) (by decide) ?_
    show Steps p.tables e below (s₁.setTop (mkF m 10 #[.val (.int p1)] [])) _
    refine XS.iloadN X0.here hx rfl (hb hby d9_10) rfl ?_
    show Steps p.tables e below (s₁.setTop (mkF m 11 #[.val (.int p1)] [(.int p1)])) _
    refine XS.bipush X0.here hx rfl (hb hby d9_11) ?_
    show Steps p.tables e below (s₁.setTop (mkF m 13 #[.val (.int p1)] [(.int (111 : Int32)), (.int p1)])) _
    refine XS.icmpNo X0.here hx rfl (hb hby d9_13) rfl (teq hc1).2 ?_
    show Steps p.tables e below (s₁.setTop (mkF m 16 #[.val (.int p1)] [])) _
    refine st1 _ ?_
    show Steps p.tables e below (T1.setTop (mkF m 19 #[.val (.int p1)] [(.ref a2)])) _
    exact retOut X1 hx Bd.returns rfl (Or.inr (Or.inr (Or.inr (Or.inr ⟨rfl, rfl, rfl⟩)))) (hb hby d9_19) hr
  · show Q9_11 Z p1 a2 h0 n0 _ T1.heap _
    rw [e1]
    exact ⟨rfl, N0, rfl⟩
theorem ef1_12 (m : MethodId) (p1 : Int32) : entryFrame m #[(.int p1)] 5 = mkF m 0 #[.val (.int p1), .unset, .unset, .unset, .unset] [] := by first | (simp [entryFrame, mkF, argsToLocals, Value.category]; done) | rfl
def Q1_12 (Z : State) (p1 : Int32) (a2 : Addr) (kc3 : ClassId) (a4 : Addr) (a5 : Addr) (a6 : Addr) (a7 : Addr) (a8 : Addr) (h0 : Heap) (n0 : Nat) (v : Option Value) (h : Heap) (L : List Loc) : Prop := ∃ b13_0 : Addr, v = some (.ref b13_0) ∧ Fr n0 L ∧ Keep h0 h [] ∧ h0.size ≤ b13_0 ∧ Exa Z h b13_0 "java/util/Optional" ∧ Fld Z h b13_0 "java/util/Optional" "value" "Ljava/lang/Object;" (.ref a6)
set_option maxRecDepth 65536 in
set_option maxHeartbeats 40000000 in
theorem rm1_12 (l : Launch) (Z : State) (a0 : Array Value) (hw : ∀ d ∈ tables_1, d.before a0 Z = true) (ws : List Jvm.Cond) (p1 : Int32) (a2 : Addr) (kc3 : ClassId) (a4 : Addr) (a5 : Addr) (a6 : Addr) (a7 : Addr) (a8 : Addr) (h0 : Heap) (n0 : Nat) (Z0 : n0 ≤ h0.size) (S_WhoisQuery_Flag__VALUES : Sta Z h0 "com/example/delehat/delehat/protocols/whois/WhoisQuery$Flag" "$VALUES" "[Lcom/example/delehat/delehat/protocols/whois/WhoisQuery$Flag;" (.ref a2)) (E_a2 : Exa Z h0 a2 "[Lcom/example/delehat/delehat/protocols/whois/WhoisQuery$Flag;") (V_a2 : Arv Z h0 a2 kc3 (.object "com/example/delehat/delehat/protocols/whois/WhoisQuery$Flag") (5 : Int32) [(.ref a4), (.ref a5), (.ref a6), (.ref a7), (.ref a8)] .null) (F_a4_letter : Fld Z h0 a4 "com/example/delehat/delehat/protocols/whois/WhoisQuery$Flag" "letter" "C" (.int (114 : Int32))) (hc4 : ¬ ((114 : Int32) = p1)) (F_a5_letter : Fld Z h0 a5 "com/example/delehat/delehat/protocols/whois/WhoisQuery$Flag" "letter" "C" (.int (111 : Int32))) (hc6 : ¬ ((111 : Int32) = p1)) (F_a6_letter : Fld Z h0 a6 "com/example/delehat/delehat/protocols/whois/WhoisQuery$Flag" "letter" "C" (.int (97 : Int32))) (hc8 : (97 : Int32) = p1) :
    MetFree l (⟨"com/example/delehat/delehat/protocols/whois/WhoisQuery$Flag", "of", "(C)Ljava/util/Optional;"⟩ : MethodName) (head1 (Jvm.Cond.code (⟨"com/example/delehat/delehat/protocols/whois/WhoisQuery$Flag", "of", "(C)Ljava/util/Optional;"⟩ : MethodName) prog_93_method_4_code 5 (some (.object "java/util/Optional")) :: ws) ({ frames := 3, cells := 2, slots := 6, locals := 38 } : Room)) (fun a U => a = #[(.int p1)] ∧ Z.Warmed39 U.vm ∧ U.heap = h0) (fun _ _ _ _ _ => True) (fun _ U o U' => ∃ v L, o = .returned v ∧ Q1_12 Z p1 a2 kc3 a4 a5 a6 a7 a8 h0 n0 v U'.heap L ∧ FrameEnd U o U' L ({ frames := 3, cells := 2, slots := 6, locals := 38 } : Room).cells ({ frames := 3, cells := 2, slots := 6, locals := 38 } : Room).slots) := by
  refine MetFree.of_bodySF (plainFor_of_name pn_com_example_delehat_delehat_protocols_whois_WhoisQuery_Flag) hisR ?_
  intro p e s m args below meth c s₁ Bd hml0 hP hK
  obtain ⟨rfl, hZ, hh⟩ := hP
  have hx := Bd.exec
  have hby := Bd.bytes
  have hml : c.maxLocals = 5 := hml0
  have hown : s.vm.findClass "com/example/delehat/delehat/protocols/whois/WhoisQuery$Flag" = some m.cls := findClass_of_methodNamed Bd.named
  have hnm := (name_of_methodNamed Bd.named Bd.method).1
  have X0 : Stand p l e ({ frames := 3, cells := 2, slots := 6, locals := 38 } : Room) s m #[(.int p1)] below meth c s₁ [] 0 0 := Stand.of_body Bd
  have e0 : s₁.heap = h0 := by rw [← hh, Bd.state]; rfl
  have N0 := Fr.nil n0
  have pre0 : ∀ t, Steps p.tables e below (s₁.setTop (mkF m 0 #[.val (.int p1), .unset, .unset, .unset, .unset] [])) t → Steps p.tables e below (s₁.setTop (entryFrame m #[(.int p1)] 5)) t := fun t k => castTop (ef1_12 m p1) k
  obtain ⟨_, _, ⟨T1, L1, k1, n1⟩, -, X1, ⟨Lc1, hQ1, l1, y1, z1⟩, st1⟩ := Jvm.LawKit.callS X0 hx (y := (⟨"com/example/delehat/delehat/protocols/whois/WhoisQuery$Flag", "values", "()[Lcom/example/delehat/delehat/protocols/whois/WhoisQuery$Flag;"⟩ : MethodName)) hown (mvT hZ (own_w5 hw)) (mvT hZ (own_w6 hw)) (mvT hZ (own_w3 hw)) (mvT hZ (own_w7 hw)) (by decide) (backOf (W := 0) (rm2_1 l Z a0 hw [] a2 kc3 a4 a5 a6 a7 a8 h0 n0 Z0 S_WhoisQuery_Flag__VALUES E_a2 V_a2) hZ (own_w7 hw) (own_w3 hw) (by decide) (by decide)) (g := (mkF m 0 #[.val (.int p1), .unset, .unset, .unset, .unset] [])) rfl (by rw [hml]; rfl) (argsL := []) (rest := []) (lenOf pd____Lcom_example_delehat_delehat_protocols_whois_WhoisQuery_Flag_ rfl) rfl (by show 2 * 0 + _ ≤ _; exact Nat.le_of_eq rfl) (hb hby d1_0) (fun _ _ => ⟨rfl, e0, (by decide : 0 + 1 ≤ _), (by decide : 0 + 5 ≤ _)⟩)
  dsimp only [Pt.U, Pt.locs, Pt.cells, Pt.slots] at X1 l1 y1 z1 st1 hQ1
  subst l1 y1 z1
  obtain ⟨b1_0, rfl, N1q, K1, sq1_0, f1_0, f1_1⟩ := hQ1
  have N1 := Fr.app N0 N1q
  have sz_b1_0 : h0.size ≤ b1_0 := sq1_0
  have sz0_b1_0 : h0.size ≤ b1_0 := sz_b1_0
  have g_b1_0 : n0 ≤ b1_0 := Nat.le_trans Z0 sz0_b1_0
  have KC2 : Keep h0 T1.heap [] := (Keep.refl h0 []).trans K1 all0
  obtain ⟨cl3, Ar3, -, Sz3, Ng3, -, -⟩ := id f1_0
  obtain ⟨cl4, Ar4, qk4, Sz4, Ng4, Ha4, Gf4⟩ := id f1_0
  have hin4 : ¬ ((0 : Int32) < 0 ∨ cl4.slots.size ≤ ((0 : Int32)).toNatClampNeg) := inb_of Sz4 ⟨by decide, by decide⟩
  have hat4 : cl4.slots[((0 : Int32)).toNatClampNeg]? = some (.ref a4) := Has.at Ha4 hin4 rfl
  have c5 := F_a4_letter.keep K1 nin0
  obtain ⟨T6, X6, e6, st6⟩ := getF X1 hx hZ hown (host := "") (Or.inl (own_w25 hw)) Via.refl rfl c5 (g := (mkF m 21 #[.val (.int p1), .val (.ref b1_0), .val (.int (5 : Int32)), .val (.int (0 : Int32)), .val (.ref a4)] [(.ref a4)])) rfl rfl (hb hby d1_21)
  obtain ⟨cl7, Ar7, qk7, Sz7, Ng7, Ha7, Gf7⟩ := id f1_0
  have hin7 : ¬ ((1 : Int32) < 0 ∨ cl7.slots.size ≤ ((1 : Int32)).toNatClampNeg) := inb_of Sz7 ⟨by decide, by decide⟩
  have hat7 : cl7.slots[((1 : Int32)).toNatClampNeg]? = some (.ref a5) := Has.at Ha7 hin7 rfl
  have c8 := F_a5_letter.keep K1 nin0
  obtain ⟨T9, X9, e9, st9⟩ := getF X6 hx hZ hown (host := "") (Or.inl (own_w25 hw)) Via.refl e6 c8 (g := (mkF m 21 #[.val (.int p1), .val (.ref b1_0), .val (.int (5 : Int32)), .val (.int (1 : Int32)), .val (.ref a5)] [(.ref a5)])) rfl rfl (hb hby d1_21)
  obtain ⟨cl10, Ar10, qk10, Sz10, Ng10, Ha10, Gf10⟩ := id f1_0
  have hin10 : ¬ ((2 : Int32) < 0 ∨ cl10.slots.size ≤ ((2 : Int32)).toNatClampNeg) := inb_of Sz10 ⟨by decide, by decide⟩
  have hat10 : cl10.slots[((2 : Int32)).toNatClampNeg]? = some (.ref a6) := Has.at Ha10 hin10 rfl
  have c11 := F_a6_letter.keep K1 nin0
  obtain ⟨T12, X12, e12, st12⟩ := getF X9 hx hZ hown (host := "") (Or.inl (own_w25 hw)) Via.refl e9 c11 (g := (mkF m 21 #[.val (.int p1), .val (.ref b1_0), .val (.int (5 : Int32)), .val (.int (2 : Int32)), .val (.ref a6)] [(.ref a6)])) rfl rfl (hb hby d1_21)
  obtain ⟨_, _, ⟨T13, L13, k13, n13⟩, -, X13, ⟨Lc13, hQ13, l13, y13, z13⟩, st13⟩ := Jvm.LawKit.callS X12 hx (y := (⟨"java/util/Optional", "of", "(Ljava/lang/Object;)Ljava/util/Optional;"⟩ : MethodName)) hown (mvT hZ (own_w27 hw)) (mvT hZ (own_w28 hw)) (mvT hZ (own_w29 hw)) (mvT hZ (own_w30 hw)) (by decide) (backOf (W := 0) (rm3_4 l Z a0 hw [] a6 T1.heap n0 (Nat.le_trans Z0 KC2.1) ) hZ (own_w30 hw) (own_w29 hw) (by decide) (by decide)) (g := (mkF m 30 #[.val (.int p1), .val (.ref b1_0), .val (.int (5 : Int32)), .val (.int (2 : Int32)), .val (.ref a6)] [(.ref a6)])) rfl (by rw [hml]; rfl) (argsL := [(.ref a6)]) (rest := []) (lenOf pd__Ljava_lang_Object__Ljava_util_Optional_ rfl) rfl (by show 2 * 0 + _ ≤ _; exact Nat.le_of_eq rfl) (hb hby d1_30) (fun _ _ => ⟨rfl, e12, (by decide : 1 + 1 ≤ _), (by decide : 5 + 1 ≤ _)⟩)
  dsimp only [Pt.U, Pt.locs, Pt.cells, Pt.slots] at X13 l13 y13 z13 st13 hQ13
  subst l13 y13 z13
  obtain ⟨b13_0, rfl, N13q, K13, sq13_0, f13_0, f13_1⟩ := hQ13
  have N13 := Fr.app N1 N13q
  have sz_b13_0 : T1.heap.size ≤ b13_0 := sq13_0
  have sz0_b13_0 : h0.size ≤ b13_0 := Nat.le_trans KC2.1 sz_b13_0
  have g_b13_0 : n0 ≤ b13_0 := Nat.le_trans Z0 sz0_b13_0
  have KC14 : Keep h0 T13.heap [] := KC2.trans K13 all0
  obtain ⟨fs, hr, hrun, hended, hW, hsame⟩ := X13.leave (v := some (.ref b13_0)) (fun h => by rw [Bd.returns] at h; cases h)
  refine ⟨_, _, pre0 _ ?_, hrun, hended, _, _, rfl, ?_, ⟨_, rfl⟩, hW, hsame.mono (by decide) (by decide)⟩
  · show Steps p.tables e below (s₁.setTop (mkF m 0 #[.val (.int p1), .unset, .unset, .unset, .unset] [])) _
    refine st1 _ ?_
    show Steps p.tables e below (T1.setTop (mkF m 3 #[.val (.int p1), .unset, .unset, .unset, .unset] [(.ref b1_0)])) _
    refine XS.astoreN X1.here hx rfl (hb hby d1_3) rfl rfl (l' := #[.val (.int p1), .val (.ref b1_0), .unset, .unset, .unset]) rfl ?_
    show Steps p.tables e below (T1.setTop (mkF m 4 #[.val (.int p1), .val (.ref b1_0), .unset, .unset, .unset] [])) _
    refine XS.aloadN X1.here hx rfl (hb hby d1_4) rfl rfl ?_
    show Steps p.tables e below (T1.setTop (mkF m 5 #[.val (.int p1), .val (.ref b1_0), .unset, .unset, .unset] [(.ref b1_0)])) _
    refine X1.arraylength hx Ar3.1 (State.isArrayOf_alike hZ.alike Ar3.2.1) (g := (mkF m 5 #[.val (.int p1), .val (.ref b1_0), .unset, .unset, .unset] [(.ref b1_0)])) rfl rfl (hb hby d1_5) _ ?_
    rw [len_of Sz3 Ng3]
    show Steps p.tables e below (T1.setTop (mkF m 6 #[.val (.int p1), .val (.ref b1_0), .unset, .unset, .unset] [(.int (5 : Int32))])) _
    refine XS.istoreN X1.here hx rfl (hb hby d1_6) rfl (l' := #[.val (.int p1), .val (.ref b1_0), .val (.int (5 : Int32)), .unset, .unset]) rfl ?_
    show Steps p.tables e below (T1.setTop (mkF m 7 #[.val (.int p1), .val (.ref b1_0), .val (.int (5 : Int32)), .unset, .unset] [])) _
    refine XS.iconst X1.here hx rfl (hb hby d1_7) ?_
    show Steps p.tables e below (T1.setTop (mkF m 8 #[.val (.int p1), .val (.ref b1_0), .val (.int (5 : Int32)), .unset, .unset] [(.int (0 : Int32))])) _
    refine XS.istoreN X1.here hx rfl (hb hby d1_8) rfl (l' := #[.val (.int p1), .val (.ref b1_0), .val (.int (5 : Int32)), .val (.int (0 : Int32)), .unset]) rfl ?_
    show Steps p.tables e below (T1.setTop (mkF m 9 #[.val (.int p1), .val (.ref b1_0), .val (.int (5 : Int32)), .val (.int (0 : Int32)), .unset] [])) _
    refine XS.iloadN X1.here hx rfl (hb hby d1_9) rfl ?_
    show Steps p.tables e below (T1.setTop (mkF m 10 #[.val (.int p1), .val (.ref b1_0), .val (.int (5 : Int32)), .val (.int (0 : Int32)), .unset] [(.int (0 : Int32))])) _
    refine XS.iloadN X1.here hx rfl (hb hby d1_10) rfl ?_
    show Steps p.tables e below (T1.setTop (mkF m 11 #[.val (.int p1), .val (.ref b1_0), .val (.int (5 : Int32)), .val (.int (0 : Int32)), .unset] [(.int (5 : Int32)), (.int (0 : Int32))])) _
    refine XS.icmpNo X1.here hx rfl (hb hby d1_11) rfl (tlt (by decide : (0 : Int32) < (5 : Int32))).2.1 ?_
    show Steps p.tables e below (T1.setTop (mkF m 14 #[.val (.int p1), .val (.ref b1_0), .val (.int (5 : Int32)), .val (.int (0 : Int32)), .unset] [])) _
    refine XS.aloadN X1.here hx rfl (hb hby d1_14) rfl rfl ?_
    show Steps p.tables e below (T1.setTop (mkF m 15 #[.val (.int p1), .val (.ref b1_0), .val (.int (5 : Int32)), .val (.int (0 : Int32)), .unset] [(.ref b1_0)])) _
    refine XS.iloadN X1.here hx rfl (hb hby d1_15) rfl ?_
    show Steps p.tables e below (T1.setTop (mkF m 16 #[.val (.int p1), .val (.ref b1_0), .val (.int (5 : Int32)), .val (.int (0 : Int32)), .unset] [(.int (0 : Int32)), (.ref b1_0)])) _
    refine X1.aaload hx (j := (0 : Int32)) (v := (.ref a4)) Ar4.1 (State.isArrayOf_alike hZ.alike Ar4.2.1) rfl Ar4.2.2 hin4 hat4 (g := (mkF m 16 #[.val (.int p1), .val (.ref b1_0), .val (.int (5 : Int32)), .val (.int (0 : Int32)), .unset] [(.int (0 : Int32)), (.ref b1_0)])) rfl rfl (hb hby d1_16) _ ?_
    show Steps p.tables e below (T1.setTop (mkF m 17 #[.val (.int p1), .val (.ref b1_0), .val (.int (5 : Int32)), .val (.int (0 : Int32)), .unset] [(.ref a4)])) _
    refine XS.astore X1.here hx rfl (hb hby d1_17) rfl rfl (l' := #[.val (.int p1), .val (.ref b1_0), .val (.int (5 : Int32)), .val (.int (0 : Int32)), .val (.ref a4)]) rfl ?_
    show Steps p.tables e below (T1.setTop (mkF m 19 #[.val (.int p1), .val (.ref b1_0), .val (.int (5 : Int32)), .val (.int (0 : Int32)), .val (.ref a4)] [])) _
    refine XS.aload X1.here hx rfl (hb hby d1_19) rfl rfl ?_
    show Steps p.tables e below (T1.setTop (mkF m 21 #[.val (.int p1), .val (.ref b1_0), .val (.int (5 : Int32)), .val (.int (0 : Int32)), .val (.ref a4)] [(.ref a4)])) _
    refine st6 _ ?_
    show Steps p.tables e below (T6.setTop (mkF m 24 #[.val (.int p1), .val (.ref b1_0), .val (.int (5 : Int32)), .val (.int (0 : Int32)), .val (.ref a4)] [(.int (114 : Int32))])) _
    refine XS.iloadN X6.here hx rfl (hb hby d1_24) rfl ?_
    show Steps p.tables e below (T6.setTop (mkF m 25 #[.val (.int p1), .val (.ref b1_0), .val (.int (5 : Int32)), .val (.int (0 : Int32)), .val (.ref a4)] [(.int p1), (.int (114 : Int32))])) _
    refine XS.icmpYes X6.here hx rfl (pc0 := 25) (pc' := 34) rfl (hb hby d1_25) rfl (feq hc4).2 (by decide) (by decide) ?_
    show Steps p.tables e below (T6.setTop (mkF m 34 #[.val (.int p1), .val (.ref b1_0), .val (.int (5 : Int32)), .val (.int (0 : Int32)), .val (.ref a4)] [])) _
    refine XS.iinc X6.here hx rfl (hb hby d1_34) rfl (l' := #[.val (.int p1), .val (.ref b1_0), .val (.int (5 : Int32)), .val (.int (1 : Int32)), .val (.ref a4)]) rfl ?_
    show Steps p.tables e below (T6.setTop (mkF m 37 #[.val (.int p1), .val (.ref b1_0), .val (.int (5 : Int32)), .val (.int (1 : Int32)), .val (.ref a4)] [])) _
    refine XS.goto X6.here hx rfl (pc0 := 37) (pc' := 9) rfl (hb hby d1_37) (by decide) (by decide) ?_
    show Steps p.tables e below (T6.setTop (mkF m 9 #[.val (.int p1), .val (.ref b1_0), .val (.int (5 : Int32)), .val (.int (1 : Int32)), .val (.ref a4)] [])) _
    refine XS.iloadN X6.here hx rfl (hb hby d1_9) rfl ?_
    show Steps p.tables e below (T6.setTop (mkF m 10 #[.val (.int p1), .val (.ref b1_0), .val (.int (5 : Int32)), .val (.int (1 : Int32)), .val (.ref a4)] [(.int (1 : Int32))])) _
    refine XS.iloadN X6.here hx rfl (hb hby d1_10) rfl ?_
    show Steps p.tables e below (T6.setTop (mkF m 11 #[.val (.int p1), .val (.ref b1_0), .val (.int (5 : Int32)), .val (.int (1 : Int32)), .val (.ref a4)] [(.int (5 : Int32)), (.int (1 : Int32))])) _
    refine XS.icmpNo X6.here hx rfl (hb hby d1_11) rfl (tlt (by decide : (1 : Int32) < (5 : Int32))).2.1 ?_
    show Steps p.tables e below (T6.setTop (mkF m 14 #[.val (.int p1), .val (.ref b1_0), .val (.int (5 : Int32)), .val (.int (1 : Int32)), .val (.ref a4)] [])) _
    refine XS.aloadN X6.here hx rfl (hb hby d1_14) rfl rfl ?_
    show Steps p.tables e below (T6.setTop (mkF m 15 #[.val (.int p1), .val (.ref b1_0), .val (.int (5 : Int32)), .val (.int (1 : Int32)), .val (.ref a4)] [(.ref b1_0)])) _
    refine XS.iloadN X6.here hx rfl (hb hby d1_15) rfl ?_
    show Steps p.tables e below (T6.setTop (mkF m 16 #[.val (.int p1), .val (.ref b1_0), .val (.int (5 : Int32)), .val (.int (1 : Int32)), .val (.ref a4)] [(.int (1 : Int32)), (.ref b1_0)])) _
    refine X6.aaload hx (j := (1 : Int32)) (v := (.ref a5)) (by rw [e6]; exact Ar7.1) (State.isArrayOf_alike hZ.alike Ar7.2.1) rfl Ar7.2.2 hin7 hat7 (g := (mkF m 16 #[.val (.int p1), .val (.ref b1_0), .val (.int (5 : Int32)), .val (.int (1 : Int32)), .val (.ref a4)] [(.int (1 : Int32)), (.ref b1_0)])) rfl rfl (hb hby d1_16) _ ?_
    show Steps p.tables e below (T6.setTop (mkF m 17 #[.val (.int p1), .val (.ref b1_0), .val (.int (5 : Int32)), .val (.int (1 : Int32)), .val (.ref a4)] [(.ref a5)])) _
    refine XS.astore X6.here hx rfl (hb hby d1_17) rfl rfl (l' := #[.val (.int p1), .val (.ref b1_0), .val (.int (5 : Int32)), .val (.int (1 : Int32)), .val (.ref a5)]) rfl ?_
    show Steps p.tables e below (T6.setTop (mkF m 19 #[.val (.int p1), .val (.ref b1_0), .val (.int (5 : Int32)), .val (.int (1 : Int32)), .val (.ref a5)] [])) _
    refine XS.aload X6.here hx rfl (hb hby d1_19) rfl rfl ?_
    show Steps p.tables e below (T6.setTop (mkF m 21 #[.val (.int p1), .val (.ref b1_0), .val (.int (5 : Int32)), .val (.int (1 : Int32)), .val (.ref a5)] [(.ref a5)])) _
    refine st9 _ ?_
    show Steps p.tables e below (T9.setTop (mkF m 24 #[.val (.int p1), .val (.ref b1_0), .val (.int (5 : Int32)), .val (.int (1 : Int32)), .val (.ref a5)] [(.int (111 : Int32))])) _
    refine XS.iloadN X9.here hx rfl (hb hby d1_24) rfl ?_
    show Steps p.tables e below (T9.setTop (mkF m 25 #[.val (.int p1), .val (.ref b1_0), .val (.int (5 : Int32)), .val (.int (1 : Int32)), .val (.ref a5)] [(.int p1), (.int (111 : Int32))])) _
    refine XS.icmpYes X9.here hx rfl (pc0 := 25) (pc' := 34) rfl (hb hby d1_25) rfl (feq hc6).2 (by decide) (by decide) ?_
    show Steps p.tables e below (T9.setTop (mkF m 34 #[.val (.int p1), .val (.ref b1_0), .val (.int (5 : Int32)), .val (.int (1 : Int32)), .val (.ref a5)] [])) _
    refine XS.iinc X9.here hx rfl (hb hby d1_34) rfl (l' := #[.val (.int p1), .val (.ref b1_0), .val (.int (5 : Int32)), .val (.int (2 : Int32)), .val (.ref a5)]) rfl ?_
    show Steps p.tables e below (T9.setTop (mkF m 37 #[.val (.int p1), .val (.ref b1_0), .val (.int (5 : Int32)), .val (.int (2 : Int32)), .val (.ref a5)] [])) _
    refine XS.goto X9.here hx rfl (pc0 := 37) (pc' := 9) rfl (hb hby d1_37) (by decide) (by decide) ?_
    show Steps p.tables e below (T9.setTop (mkF m 9 #[.val (.int p1), .val (.ref b1_0), .val (.int (5 : Int32)), .val (.int (2 : Int32)), .val (.ref a5)] [])) _
    refine XS.iloadN X9.here hx rfl (hb hby d1_9) rfl ?_
    show Steps p.tables e below (T9.setTop (mkF m 10 #[.val (.int p1), .val (.ref b1_0), .val (.int (5 : Int32)), .val (.int (2 : Int32)), .val (.ref a5)] [(.int (2 : Int32))])) _
    refine XS.iloadN X9.here hx rfl (hb hby d1_10) rfl ?_
    show Steps p.tables e below (T9.setTop (mkF m 11 #[.val (.int p1), .val (.ref b1_0), .val (.int (5 : Int32)), .val (.int (2 : Int32)), .val (.ref a5)] [(.int (5 : Int32)), (.int (2 : Int32))])) _
    refine XS.icmpNo X9.here hx rfl (hb hby d1_11) rfl (tlt (by decide : (2 : Int32) < (5 : Int32))).2.1 ?_
    show Steps p.tables e below (T9.setTop (mkF m 14 #[.val (.int p1), .val (.ref b1_0), .val (.int (5 : Int32)), .val (.int (2 : Int32)), .val (.ref a5)] [])) _
    refine XS.aloadN X9.here hx rfl (hb hby d1_14) rfl rfl ?_
    show Steps p.tables e below (T9.setTop (mkF m 15 #[.val (.int p1), .val (.ref b1_0), .val (.int (5 : Int32)), .val (.int (2 : Int32)), .val (.ref a5)] [(.ref b1_0)])) _
    refine XS.iloadN X9.here hx rfl (hb hby d1_15) rfl ?_
    show Steps p.tables e below (T9.setTop (mkF m 16 #[.val (.int p1), .val (.ref b1_0), .val (.int (5 : Int32)), .val (.int (2 : Int32)), .val (.ref a5)] [(.int (2 : Int32)), (.ref b1_0)])) _
    refine X9.aaload hx (j := (2 : Int32)) (v := (.ref a6)) (by rw [e9]; exact Ar10.1) (State.isArrayOf_alike hZ.alike Ar10.2.1) rfl Ar10.2.2 hin10 hat10 (g := (mkF m 16 #[.val (.int p1), .val (.ref b1_0), .val (.int (5 : Int32)), .val (.int (2 : Int32)), .val (.ref a5)] [(.int (2 : Int32)), (.ref b1_0)])) rfl rfl (hb hby d1_16) _ ?_
    show Steps p.tables e below (T9.setTop (mkF m 17 #[.val (.int p1), .val (.ref b1_0), .val (.int (5 : Int32)), .val (.int (2 : Int32)), .val (.ref a5)] [(.ref a6)])) _
    refine XS.astore X9.here hx rfl (hb hby d1_17) rfl rfl (l' := #[.val (.int p1), .val (.ref b1_0), .val (.int (5 : Int32)), .val (.int (2 : Int32)), .val (.ref a6)]) rfl ?_
    show Steps p.tables e below (T9.setTop (mkF m 19 #[.val (.int p1), .val (.ref b1_0), .val (.int (5 : Int32)), .val (.int (2 : Int32)), .val (.ref a6)] [])) _
    refine XS.aload X9.here hx rfl (hb hby d1_19) rfl rfl ?_
    show Steps p.tables e below (T9.setTop (mkF m 21 #[.val (.int p1), .val (.ref b1_0), .val (.int (5 : Int32)), .val (.int (2 : Int32)), .val (.ref a6)] [(.ref a6)])) _
    refine st12 _ ?_
    show Steps p.tables e below (T12.setTop (mkF m 24 #[.val (.int p1), .val (.ref b1_0), .val (.int (5 : Int32)), .val (.int (2 : Int32)), .val (.ref a6)] [(.int (97 : Int32))])) _
    refine XS.iloadN X12.here hx rfl (hb hby d1_24) rfl ?_
    show Steps p.tables e below (T12.setTop (mkF m 25 #[.val (.int p1), .val (.ref b1_0), .val (.int (5 : Int32)), .val (.int (2 : Int32)), .val (.ref a6)] [(.int p1), (.int (97 : Int32))])) _
    refine XS.icmpNo X12.here hx rfl (hb hby d1_25) rfl (teq hc8).2 ?_
    show Steps p.tables e below (T12.setTop (mkF m 28 #[.val (.int p1), .val (.ref b1_0), .val (.int (5 : Int32)), .val (.int (2 : Int32)), .val (.ref a6)] [])) _
    refine XS.aload X12.here hx rfl (hb hby d1_28) rfl rfl ?_
    show Steps p.tables e below (T12.setTop (mkF m 30 #[.val (.int p1), .val (.ref b1_0), .val (.int (5 : Int32)), .val (.int (2 : Int32)), .val (.ref a6)] [(.ref a6)])) _
    refine st13 _ ?_
    show Steps p.tables e below (T13.setTop (mkF m 33 #[.val (.int p1), .val (.ref b1_0), .val (.int (5 : Int32)), .val (.int (2 : Int32)), .val (.ref a6)] [(.ref b13_0)])) _
    exact retOut X13 hx Bd.returns rfl (Or.inr (Or.inr (Or.inr (Or.inr ⟨rfl, rfl, rfl⟩)))) (hb hby d1_33) hr
  · show Q1_12 Z p1 a2 kc3 a4 a5 a6 a7 a8 h0 n0 _ T13.heap _
    exact ⟨b13_0, rfl, N13, KC14, sz0_b13_0, f13_0, f13_1⟩
theorem ef9_13 (m : MethodId) (p1 : Int32) : entryFrame m #[(.int p1)] 1 = mkF m 0 #[.val (.int p1)] [] := by first | (simp [entryFrame, mkF, argsToLocals, Value.category]; done) | rfl
def Q9_13 (Z : State) (p1 : Int32) (a2 : Addr) (h0 : Heap) (n0 : Nat) (v : Option Value) (h : Heap) (L : List Loc) : Prop := v = some (.ref a2) ∧ Fr n0 L ∧ h = h0
set_option maxRecDepth 65536 in
set_option maxHeartbeats 40000000 in
theorem rm9_13 (l : Launch) (Z : State) (a0 : Array Value) (hw : ∀ d ∈ tables_1, d.before a0 Z = true) (ws : List Jvm.Cond) (p1 : Int32) (a2 : Addr) (h0 : Heap) (n0 : Nat) (Z0 : n0 ≤ h0.size) (hc0 : ¬ (p1 = (114 : Int32))) (hc1 : ¬ (p1 = (111 : Int32))) (hc2 : p1 = (97 : Int32)) (S_WhoisQuery_Flag_ADMIN : Sta Z h0 "com/example/delehat/delehat/protocols/whois/WhoisQuery$Flag" "ADMIN" "Lcom/example/delehat/delehat/protocols/whois/WhoisQuery$Flag;" (.ref a2)) :
    MetFree l (⟨"com/example/delehat/delehat/protocols/whois/WhoisQueryOfPinLaw", "expected", "(C)Lcom/example/delehat/delehat/protocols/whois/WhoisQuery$Flag;"⟩ : MethodName) (head1 (Jvm.Cond.code (⟨"com/example/delehat/delehat/protocols/whois/WhoisQueryOfPinLaw", "expected", "(C)Lcom/example/delehat/delehat/protocols/whois/WhoisQuery$Flag;"⟩ : MethodName) method_2_code 1 (some (.object "com/example/delehat/delehat/protocols/whois/WhoisQuery$Flag")) :: ws) ({ frames := 0, cells := 0, slots := 0, locals := 0 } : Room)) (fun a U => a = #[(.int p1)] ∧ Z.Warmed39 U.vm ∧ U.heap = h0) (fun _ _ _ _ _ => True) (fun _ U o U' => ∃ v L, o = .returned v ∧ Q9_13 Z p1 a2 h0 n0 v U'.heap L ∧ FrameEnd U o U' L ({ frames := 0, cells := 0, slots := 0, locals := 0 } : Room).cells ({ frames := 0, cells := 0, slots := 0, locals := 0 } : Room).slots) := by
  refine MetFree.of_bodySF (plainFor_of_name pn_com_example_delehat_delehat_protocols_whois_WhoisQueryOfPinLaw) hisR ?_
  intro p e s m args below meth c s₁ Bd hml0 hP hK
  obtain ⟨rfl, hZ, hh⟩ := hP
  have hx := Bd.exec
  have hby := Bd.bytes
  have hml : c.maxLocals = 1 := hml0
  have hown : s.vm.findClass "com/example/delehat/delehat/protocols/whois/WhoisQueryOfPinLaw" = some m.cls := findClass_of_methodNamed Bd.named
  have hnm := (name_of_methodNamed Bd.named Bd.method).1
  have X0 : Stand p l e ({ frames := 0, cells := 0, slots := 0, locals := 0 } : Room) s m #[(.int p1)] below meth c s₁ [] 0 0 := Stand.of_body Bd
  have e0 : s₁.heap = h0 := by rw [← hh, Bd.state]; rfl
  have N0 := Fr.nil n0
  have pre0 : ∀ t, Steps p.tables e below (s₁.setTop (mkF m 0 #[.val (.int p1)] [])) t → Steps p.tables e below (s₁.setTop (entryFrame m #[(.int p1)] 1)) t := fun t k => castTop (ef9_13 m p1) k
  obtain ⟨T1, X1, e1, st1⟩ := getS2 X0 hx hZ hown (host := "") (Or.inl (own_w62 hw)) Via.refl e0 S_WhoisQuery_Flag_ADMIN (g := (mkF m 26 #[.val (.int p1)] [])) rfl (hb hby d9_26)
  obtain ⟨fs, hr, hrun, hended, hW, hsame⟩ := X1.leave (v := some (.ref a2)) (fun h => by rw [Bd.returns] at h; cases h)
  refine ⟨_, _, pre0 _ ?_, hrun, hended, _, _, rfl, ?_, ⟨_, rfl⟩, hW, hsame.mono (by decide) (by decide)⟩
  · show Steps p.tables e below (s₁.setTop (mkF m 0 #[.val (.int p1)] [])) _
    refine XS.iloadN X0.here hx rfl (hb hby d9_0) rfl ?_
    show Steps p.tables e below (s₁.setTop (mkF m 1 #[.val (.int p1)] [(.int p1)])) _
    refine XS.bipush X0.here hx rfl (hb hby d9_1) ?_
    show Steps p.tables e below (s₁.setTop (mkF m 3 #[.val (.int p1)] [(.int (114 : Int32)), (.int p1)])) _
    refine XS.icmpYes X0.here hx rfl (pc0 := 3) (pc' := 10) rfl (hb hby d9_3) rfl (feq hc0).2 (by decide) (by decide) ?_
    show Steps p.tables e below (s₁.setTop (mkF m 10 #[.val (.int p1)] [])) _
    refine XS.iloadN X0.here hx rfl (hb hby d9_10) rfl ?_
    show Steps p.tables e below (s₁.setTop (mkF m 11 #[.val (.int p1)] [(.int p1)])) _
    refine XS.bipush X0.here hx rfl (hb hby d9_11) ?_
    show Steps p.tables e below (s₁.setTop (mkF m 13 #[.val (.int p1)] [(.int (111 : Int32)), (.int p1)])) _
    refine XS.icmpYes X0.here hx rfl (pc0 := 13) (pc' := 20) rfl (hb hby d9_13) rfl (feq hc1).2 (by decide) (by decide) ?_
    show Steps p.tables e below (s₁.setTop (mkF m 20 #[.val (.int p1)] [])) _
    refine XS.iloadN X0.here hx rfl (hb hby d9_20) rfl ?_
    show Steps p.tables e below (s₁.setTop (mkF m 21 #[.val (.int p1)] [(.int p1)])) _
    refine XS.bipush X0.here hx rfl (hb hby d9_21) ?_
    show Steps p.tables e below (s₁.setTop (mkF m 23 #[.val (.int p1)] [(.int (97 : Int32)), (.int p1)])) _
    refine XS.icmpNo X0.here hx rfl (hb hby d9_23) rfl (teq hc2).2 ?_
    show Steps p.tables e below (s₁.setTop (mkF m 26 #[.val (.int p1)] [])) _
    refine st1 _ ?_
    show Steps p.tables e below (T1.setTop (mkF m 29 #[.val (.int p1)] [(.ref a2)])) _
    exact retOut X1 hx Bd.returns rfl (Or.inr (Or.inr (Or.inr (Or.inr ⟨rfl, rfl, rfl⟩)))) (hb hby d9_29) hr
  · show Q9_13 Z p1 a2 h0 n0 _ T1.heap _
    rw [e1]
    exact ⟨rfl, N0, rfl⟩
theorem ef1_14 (m : MethodId) (p1 : Int32) : entryFrame m #[(.int p1)] 5 = mkF m 0 #[.val (.int p1), .unset, .unset, .unset, .unset] [] := by first | (simp [entryFrame, mkF, argsToLocals, Value.category]; done) | rfl
def Q1_14 (Z : State) (p1 : Int32) (a2 : Addr) (kc3 : ClassId) (a4 : Addr) (a5 : Addr) (a6 : Addr) (a7 : Addr) (a8 : Addr) (h0 : Heap) (n0 : Nat) (v : Option Value) (h : Heap) (L : List Loc) : Prop := ∃ b16_0 : Addr, v = some (.ref b16_0) ∧ Fr n0 L ∧ Keep h0 h [] ∧ h0.size ≤ b16_0 ∧ Exa Z h b16_0 "java/util/Optional" ∧ Fld Z h b16_0 "java/util/Optional" "value" "Ljava/lang/Object;" (.ref a7)
set_option maxRecDepth 65536 in
set_option maxHeartbeats 40000000 in
theorem rm1_14 (l : Launch) (Z : State) (a0 : Array Value) (hw : ∀ d ∈ tables_1, d.before a0 Z = true) (ws : List Jvm.Cond) (p1 : Int32) (a2 : Addr) (kc3 : ClassId) (a4 : Addr) (a5 : Addr) (a6 : Addr) (a7 : Addr) (a8 : Addr) (h0 : Heap) (n0 : Nat) (Z0 : n0 ≤ h0.size) (S_WhoisQuery_Flag__VALUES : Sta Z h0 "com/example/delehat/delehat/protocols/whois/WhoisQuery$Flag" "$VALUES" "[Lcom/example/delehat/delehat/protocols/whois/WhoisQuery$Flag;" (.ref a2)) (E_a2 : Exa Z h0 a2 "[Lcom/example/delehat/delehat/protocols/whois/WhoisQuery$Flag;") (V_a2 : Arv Z h0 a2 kc3 (.object "com/example/delehat/delehat/protocols/whois/WhoisQuery$Flag") (5 : Int32) [(.ref a4), (.ref a5), (.ref a6), (.ref a7), (.ref a8)] .null) (F_a4_letter : Fld Z h0 a4 "com/example/delehat/delehat/protocols/whois/WhoisQuery$Flag" "letter" "C" (.int (114 : Int32))) (hc4 : ¬ ((114 : Int32) = p1)) (F_a5_letter : Fld Z h0 a5 "com/example/delehat/delehat/protocols/whois/WhoisQuery$Flag" "letter" "C" (.int (111 : Int32))) (hc6 : ¬ ((111 : Int32) = p1)) (F_a6_letter : Fld Z h0 a6 "com/example/delehat/delehat/protocols/whois/WhoisQuery$Flag" "letter" "C" (.int (97 : Int32))) (hc8 : ¬ ((97 : Int32) = p1)) (F_a7_letter : Fld Z h0 a7 "com/example/delehat/delehat/protocols/whois/WhoisQuery$Flag" "letter" "C" (.int (116 : Int32))) (hc10 : (116 : Int32) = p1) :
    MetFree l (⟨"com/example/delehat/delehat/protocols/whois/WhoisQuery$Flag", "of", "(C)Ljava/util/Optional;"⟩ : MethodName) (head1 (Jvm.Cond.code (⟨"com/example/delehat/delehat/protocols/whois/WhoisQuery$Flag", "of", "(C)Ljava/util/Optional;"⟩ : MethodName) prog_93_method_4_code 5 (some (.object "java/util/Optional")) :: ws) ({ frames := 3, cells := 2, slots := 6, locals := 38 } : Room)) (fun a U => a = #[(.int p1)] ∧ Z.Warmed39 U.vm ∧ U.heap = h0) (fun _ _ _ _ _ => True) (fun _ U o U' => ∃ v L, o = .returned v ∧ Q1_14 Z p1 a2 kc3 a4 a5 a6 a7 a8 h0 n0 v U'.heap L ∧ FrameEnd U o U' L ({ frames := 3, cells := 2, slots := 6, locals := 38 } : Room).cells ({ frames := 3, cells := 2, slots := 6, locals := 38 } : Room).slots) := by
  refine MetFree.of_bodySF (plainFor_of_name pn_com_example_delehat_delehat_protocols_whois_WhoisQuery_Flag) hisR ?_
  intro p e s m args below meth c s₁ Bd hml0 hP hK
  obtain ⟨rfl, hZ, hh⟩ := hP
  have hx := Bd.exec
  have hby := Bd.bytes
  have hml : c.maxLocals = 5 := hml0
  have hown : s.vm.findClass "com/example/delehat/delehat/protocols/whois/WhoisQuery$Flag" = some m.cls := findClass_of_methodNamed Bd.named
  have hnm := (name_of_methodNamed Bd.named Bd.method).1
  have X0 : Stand p l e ({ frames := 3, cells := 2, slots := 6, locals := 38 } : Room) s m #[(.int p1)] below meth c s₁ [] 0 0 := Stand.of_body Bd
  have e0 : s₁.heap = h0 := by rw [← hh, Bd.state]; rfl
  have N0 := Fr.nil n0
  have pre0 : ∀ t, Steps p.tables e below (s₁.setTop (mkF m 0 #[.val (.int p1), .unset, .unset, .unset, .unset] [])) t → Steps p.tables e below (s₁.setTop (entryFrame m #[(.int p1)] 5)) t := fun t k => castTop (ef1_14 m p1) k
  obtain ⟨_, _, ⟨T1, L1, k1, n1⟩, -, X1, ⟨Lc1, hQ1, l1, y1, z1⟩, st1⟩ := Jvm.LawKit.callS X0 hx (y := (⟨"com/example/delehat/delehat/protocols/whois/WhoisQuery$Flag", "values", "()[Lcom/example/delehat/delehat/protocols/whois/WhoisQuery$Flag;"⟩ : MethodName)) hown (mvT hZ (own_w5 hw)) (mvT hZ (own_w6 hw)) (mvT hZ (own_w3 hw)) (mvT hZ (own_w7 hw)) (by decide) (backOf (W := 0) (rm2_1 l Z a0 hw [] a2 kc3 a4 a5 a6 a7 a8 h0 n0 Z0 S_WhoisQuery_Flag__VALUES E_a2 V_a2) hZ (own_w7 hw) (own_w3 hw) (by decide) (by decide)) (g := (mkF m 0 #[.val (.int p1), .unset, .unset, .unset, .unset] [])) rfl (by rw [hml]; rfl) (argsL := []) (rest := []) (lenOf pd____Lcom_example_delehat_delehat_protocols_whois_WhoisQuery_Flag_ rfl) rfl (by show 2 * 0 + _ ≤ _; exact Nat.le_of_eq rfl) (hb hby d1_0) (fun _ _ => ⟨rfl, e0, (by decide : 0 + 1 ≤ _), (by decide : 0 + 5 ≤ _)⟩)
  dsimp only [Pt.U, Pt.locs, Pt.cells, Pt.slots] at X1 l1 y1 z1 st1 hQ1
  subst l1 y1 z1
  obtain ⟨b1_0, rfl, N1q, K1, sq1_0, f1_0, f1_1⟩ := hQ1
  have N1 := Fr.app N0 N1q
  have sz_b1_0 : h0.size ≤ b1_0 := sq1_0
  have sz0_b1_0 : h0.size ≤ b1_0 := sz_b1_0
  have g_b1_0 : n0 ≤ b1_0 := Nat.le_trans Z0 sz0_b1_0
  have KC2 : Keep h0 T1.heap [] := (Keep.refl h0 []).trans K1 all0
  obtain ⟨cl3, Ar3, -, Sz3, Ng3, -, -⟩ := id f1_0
  obtain ⟨cl4, Ar4, qk4, Sz4, Ng4, Ha4, Gf4⟩ := id f1_0
  have hin4 : ¬ ((0 : Int32) < 0 ∨ cl4.slots.size ≤ ((0 : Int32)).toNatClampNeg) := inb_of Sz4 ⟨by decide, by decide⟩
  have hat4 : cl4.slots[((0 : Int32)).toNatClampNeg]? = some (.ref a4) := Has.at Ha4 hin4 rfl
  have c5 := F_a4_letter.keep K1 nin0
  obtain ⟨T6, X6, e6, st6⟩ := getF X1 hx hZ hown (host := "") (Or.inl (own_w25 hw)) Via.refl rfl c5 (g := (mkF m 21 #[.val (.int p1), .val (.ref b1_0), .val (.int (5 : Int32)), .val (.int (0 : Int32)), .val (.ref a4)] [(.ref a4)])) rfl rfl (hb hby d1_21)
  obtain ⟨cl7, Ar7, qk7, Sz7, Ng7, Ha7, Gf7⟩ := id f1_0
  have hin7 : ¬ ((1 : Int32) < 0 ∨ cl7.slots.size ≤ ((1 : Int32)).toNatClampNeg) := inb_of Sz7 ⟨by decide, by decide⟩
  have hat7 : cl7.slots[((1 : Int32)).toNatClampNeg]? = some (.ref a5) := Has.at Ha7 hin7 rfl
  have c8 := F_a5_letter.keep K1 nin0
  obtain ⟨T9, X9, e9, st9⟩ := getF X6 hx hZ hown (host := "") (Or.inl (own_w25 hw)) Via.refl e6 c8 (g := (mkF m 21 #[.val (.int p1), .val (.ref b1_0), .val (.int (5 : Int32)), .val (.int (1 : Int32)), .val (.ref a5)] [(.ref a5)])) rfl rfl (hb hby d1_21)
  obtain ⟨cl10, Ar10, qk10, Sz10, Ng10, Ha10, Gf10⟩ := id f1_0
  have hin10 : ¬ ((2 : Int32) < 0 ∨ cl10.slots.size ≤ ((2 : Int32)).toNatClampNeg) := inb_of Sz10 ⟨by decide, by decide⟩
  have hat10 : cl10.slots[((2 : Int32)).toNatClampNeg]? = some (.ref a6) := Has.at Ha10 hin10 rfl
  have c11 := F_a6_letter.keep K1 nin0
  obtain ⟨T12, X12, e12, st12⟩ := getF X9 hx hZ hown (host := "") (Or.inl (own_w25 hw)) Via.refl e9 c11 (g := (mkF m 21 #[.val (.int p1), .val (.ref b1_0), .val (.int (5 : Int32)), .val (.int (2 : Int32)), .val (.ref a6)] [(.ref a6)])) rfl rfl (hb hby d1_21)
  obtain ⟨cl13, Ar13, qk13, Sz13, Ng13, Ha13, Gf13⟩ := id f1_0
  have hin13 : ¬ ((3 : Int32) < 0 ∨ cl13.slots.size ≤ ((3 : Int32)).toNatClampNeg) := inb_of Sz13 ⟨by decide, by decide⟩
  have hat13 : cl13.slots[((3 : Int32)).toNatClampNeg]? = some (.ref a7) := Has.at Ha13 hin13 rfl
  have c14 := F_a7_letter.keep K1 nin0
  obtain ⟨T15, X15, e15, st15⟩ := getF X12 hx hZ hown (host := "") (Or.inl (own_w25 hw)) Via.refl e12 c14 (g := (mkF m 21 #[.val (.int p1), .val (.ref b1_0), .val (.int (5 : Int32)), .val (.int (3 : Int32)), .val (.ref a7)] [(.ref a7)])) rfl rfl (hb hby d1_21)
  obtain ⟨_, _, ⟨T16, L16, k16, n16⟩, -, X16, ⟨Lc16, hQ16, l16, y16, z16⟩, st16⟩ := Jvm.LawKit.callS X15 hx (y := (⟨"java/util/Optional", "of", "(Ljava/lang/Object;)Ljava/util/Optional;"⟩ : MethodName)) hown (mvT hZ (own_w27 hw)) (mvT hZ (own_w28 hw)) (mvT hZ (own_w29 hw)) (mvT hZ (own_w30 hw)) (by decide) (backOf (W := 0) (rm3_4 l Z a0 hw [] a7 T1.heap n0 (Nat.le_trans Z0 KC2.1) ) hZ (own_w30 hw) (own_w29 hw) (by decide) (by decide)) (g := (mkF m 30 #[.val (.int p1), .val (.ref b1_0), .val (.int (5 : Int32)), .val (.int (3 : Int32)), .val (.ref a7)] [(.ref a7)])) rfl (by rw [hml]; rfl) (argsL := [(.ref a7)]) (rest := []) (lenOf pd__Ljava_lang_Object__Ljava_util_Optional_ rfl) rfl (by show 2 * 0 + _ ≤ _; exact Nat.le_of_eq rfl) (hb hby d1_30) (fun _ _ => ⟨rfl, e15, (by decide : 1 + 1 ≤ _), (by decide : 5 + 1 ≤ _)⟩)
  dsimp only [Pt.U, Pt.locs, Pt.cells, Pt.slots] at X16 l16 y16 z16 st16 hQ16
  subst l16 y16 z16
  obtain ⟨b16_0, rfl, N16q, K16, sq16_0, f16_0, f16_1⟩ := hQ16
  have N16 := Fr.app N1 N16q
  have sz_b16_0 : T1.heap.size ≤ b16_0 := sq16_0
  have sz0_b16_0 : h0.size ≤ b16_0 := Nat.le_trans KC2.1 sz_b16_0
  have g_b16_0 : n0 ≤ b16_0 := Nat.le_trans Z0 sz0_b16_0
  have KC17 : Keep h0 T16.heap [] := KC2.trans K16 all0
  obtain ⟨fs, hr, hrun, hended, hW, hsame⟩ := X16.leave (v := some (.ref b16_0)) (fun h => by rw [Bd.returns] at h; cases h)
  refine ⟨_, _, pre0 _ ?_, hrun, hended, _, _, rfl, ?_, ⟨_, rfl⟩, hW, hsame.mono (by decide) (by decide)⟩
  · show Steps p.tables e below (s₁.setTop (mkF m 0 #[.val (.int p1), .unset, .unset, .unset, .unset] [])) _
    refine st1 _ ?_
    show Steps p.tables e below (T1.setTop (mkF m 3 #[.val (.int p1), .unset, .unset, .unset, .unset] [(.ref b1_0)])) _
    refine XS.astoreN X1.here hx rfl (hb hby d1_3) rfl rfl (l' := #[.val (.int p1), .val (.ref b1_0), .unset, .unset, .unset]) rfl ?_
    show Steps p.tables e below (T1.setTop (mkF m 4 #[.val (.int p1), .val (.ref b1_0), .unset, .unset, .unset] [])) _
    refine XS.aloadN X1.here hx rfl (hb hby d1_4) rfl rfl ?_
    show Steps p.tables e below (T1.setTop (mkF m 5 #[.val (.int p1), .val (.ref b1_0), .unset, .unset, .unset] [(.ref b1_0)])) _
    refine X1.arraylength hx Ar3.1 (State.isArrayOf_alike hZ.alike Ar3.2.1) (g := (mkF m 5 #[.val (.int p1), .val (.ref b1_0), .unset, .unset, .unset] [(.ref b1_0)])) rfl rfl (hb hby d1_5) _ ?_
    rw [len_of Sz3 Ng3]
    show Steps p.tables e below (T1.setTop (mkF m 6 #[.val (.int p1), .val (.ref b1_0), .unset, .unset, .unset] [(.int (5 : Int32))])) _
    refine XS.istoreN X1.here hx rfl (hb hby d1_6) rfl (l' := #[.val (.int p1), .val (.ref b1_0), .val (.int (5 : Int32)), .unset, .unset]) rfl ?_
    show Steps p.tables e below (T1.setTop (mkF m 7 #[.val (.int p1), .val (.ref b1_0), .val (.int (5 : Int32)), .unset, .unset] [])) _
    refine XS.iconst X1.here hx rfl (hb hby d1_7) ?_
    show Steps p.tables e below (T1.setTop (mkF m 8 #[.val (.int p1), .val (.ref b1_0), .val (.int (5 : Int32)), .unset, .unset] [(.int (0 : Int32))])) _
    refine XS.istoreN X1.here hx rfl (hb hby d1_8) rfl (l' := #[.val (.int p1), .val (.ref b1_0), .val (.int (5 : Int32)), .val (.int (0 : Int32)), .unset]) rfl ?_
    show Steps p.tables e below (T1.setTop (mkF m 9 #[.val (.int p1), .val (.ref b1_0), .val (.int (5 : Int32)), .val (.int (0 : Int32)), .unset] [])) _
    refine XS.iloadN X1.here hx rfl (hb hby d1_9) rfl ?_
    show Steps p.tables e below (T1.setTop (mkF m 10 #[.val (.int p1), .val (.ref b1_0), .val (.int (5 : Int32)), .val (.int (0 : Int32)), .unset] [(.int (0 : Int32))])) _
    refine XS.iloadN X1.here hx rfl (hb hby d1_10) rfl ?_
    show Steps p.tables e below (T1.setTop (mkF m 11 #[.val (.int p1), .val (.ref b1_0), .val (.int (5 : Int32)), .val (.int (0 : Int32)), .unset] [(.int (5 : Int32)), (.int (0 : Int32))])) _
    refine XS.icmpNo X1.here hx rfl (hb hby d1_11) rfl (tlt (by decide : (0 : Int32) < (5 : Int32))).2.1 ?_
    show Steps p.tables e below (T1.setTop (mkF m 14 #[.val (.int p1), .val (.ref b1_0), .val (.int (5 : Int32)), .val (.int (0 : Int32)), .unset] [])) _
    refine XS.aloadN X1.here hx rfl (hb hby d1_14) rfl rfl ?_
    show Steps p.tables e below (T1.setTop (mkF m 15 #[.val (.int p1), .val (.ref b1_0), .val (.int (5 : Int32)), .val (.int (0 : Int32)), .unset] [(.ref b1_0)])) _
    refine XS.iloadN X1.here hx rfl (hb hby d1_15) rfl ?_
    show Steps p.tables e below (T1.setTop (mkF m 16 #[.val (.int p1), .val (.ref b1_0), .val (.int (5 : Int32)), .val (.int (0 : Int32)), .unset] [(.int (0 : Int32)), (.ref b1_0)])) _
    refine X1.aaload hx (j := (0 : Int32)) (v := (.ref a4)) Ar4.1 (State.isArrayOf_alike hZ.alike Ar4.2.1) rfl Ar4.2.2 hin4 hat4 (g := (mkF m 16 #[.val (.int p1), .val (.ref b1_0), .val (.int (5 : Int32)), .val (.int (0 : Int32)), .unset] [(.int (0 : Int32)), (.ref b1_0)])) rfl rfl (hb hby d1_16) _ ?_
    show Steps p.tables e below (T1.setTop (mkF m 17 #[.val (.int p1), .val (.ref b1_0), .val (.int (5 : Int32)), .val (.int (0 : Int32)), .unset] [(.ref a4)])) _
    refine XS.astore X1.here hx rfl (hb hby d1_17) rfl rfl (l' := #[.val (.int p1), .val (.ref b1_0), .val (.int (5 : Int32)), .val (.int (0 : Int32)), .val (.ref a4)]) rfl ?_
    show Steps p.tables e below (T1.setTop (mkF m 19 #[.val (.int p1), .val (.ref b1_0), .val (.int (5 : Int32)), .val (.int (0 : Int32)), .val (.ref a4)] [])) _
    refine XS.aload X1.here hx rfl (hb hby d1_19) rfl rfl ?_
    show Steps p.tables e below (T1.setTop (mkF m 21 #[.val (.int p1), .val (.ref b1_0), .val (.int (5 : Int32)), .val (.int (0 : Int32)), .val (.ref a4)] [(.ref a4)])) _
    refine st6 _ ?_
    show Steps p.tables e below (T6.setTop (mkF m 24 #[.val (.int p1), .val (.ref b1_0), .val (.int (5 : Int32)), .val (.int (0 : Int32)), .val (.ref a4)] [(.int (114 : Int32))])) _
    refine XS.iloadN X6.here hx rfl (hb hby d1_24) rfl ?_
    show Steps p.tables e below (T6.setTop (mkF m 25 #[.val (.int p1), .val (.ref b1_0), .val (.int (5 : Int32)), .val (.int (0 : Int32)), .val (.ref a4)] [(.int p1), (.int (114 : Int32))])) _
    refine XS.icmpYes X6.here hx rfl (pc0 := 25) (pc' := 34) rfl (hb hby d1_25) rfl (feq hc4).2 (by decide) (by decide) ?_
    show Steps p.tables e below (T6.setTop (mkF m 34 #[.val (.int p1), .val (.ref b1_0), .val (.int (5 : Int32)), .val (.int (0 : Int32)), .val (.ref a4)] [])) _
    refine XS.iinc X6.here hx rfl (hb hby d1_34) rfl (l' := #[.val (.int p1), .val (.ref b1_0), .val (.int (5 : Int32)), .val (.int (1 : Int32)), .val (.ref a4)]) rfl ?_
    show Steps p.tables e below (T6.setTop (mkF m 37 #[.val (.int p1), .val (.ref b1_0), .val (.int (5 : Int32)), .val (.int (1 : Int32)), .val (.ref a4)] [])) _
    refine XS.goto X6.here hx rfl (pc0 := 37) (pc' := 9) rfl (hb hby d1_37) (by decide) (by decide) ?_
    show Steps p.tables e below (T6.setTop (mkF m 9 #[.val (.int p1), .val (.ref b1_0), .val (.int (5 : Int32)), .val (.int (1 : Int32)), .val (.ref a4)] [])) _
    refine XS.iloadN X6.here hx rfl (hb hby d1_9) rfl ?_
    show Steps p.tables e below (T6.setTop (mkF m 10 #[.val (.int p1), .val (.ref b1_0), .val (.int (5 : Int32)), .val (.int (1 : Int32)), .val (.ref a4)] [(.int (1 : Int32))])) _
    refine XS.iloadN X6.here hx rfl (hb hby d1_10) rfl ?_
    show Steps p.tables e below (T6.setTop (mkF m 11 #[.val (.int p1), .val (.ref b1_0), .val (.int (5 : Int32)), .val (.int (1 : Int32)), .val (.ref a4)] [(.int (5 : Int32)), (.int (1 : Int32))])) _
    refine XS.icmpNo X6.here hx rfl (hb hby d1_11) rfl (tlt (by decide : (1 : Int32) < (5 : Int32))).2.1 ?_
    show Steps p.tables e below (T6.setTop (mkF m 14 #[.val (.int p1), .val (.ref b1_0), .val (.int (5 : Int32)), .val (.int (1 : Int32)), .val (.ref a4)] [])) _
    refine XS.aloadN X6.here hx rfl (hb hby d1_14) rfl rfl ?_
    show Steps p.tables e below (T6.setTop (mkF m 15 #[.val (.int p1), .val (.ref b1_0), .val (.int (5 : Int32)), .val (.int (1 : Int32)), .val (.ref a4)] [(.ref b1_0)])) _
    refine XS.iloadN X6.here hx rfl (hb hby d1_15) rfl ?_
    show Steps p.tables e below (T6.setTop (mkF m 16 #[.val (.int p1), .val (.ref b1_0), .val (.int (5 : Int32)), .val (.int (1 : Int32)), .val (.ref a4)] [(.int (1 : Int32)), (.ref b1_0)])) _
    refine X6.aaload hx (j := (1 : Int32)) (v := (.ref a5)) (by rw [e6]; exact Ar7.1) (State.isArrayOf_alike hZ.alike Ar7.2.1) rfl Ar7.2.2 hin7 hat7 (g := (mkF m 16 #[.val (.int p1), .val (.ref b1_0), .val (.int (5 : Int32)), .val (.int (1 : Int32)), .val (.ref a4)] [(.int (1 : Int32)), (.ref b1_0)])) rfl rfl (hb hby d1_16) _ ?_
    show Steps p.tables e below (T6.setTop (mkF m 17 #[.val (.int p1), .val (.ref b1_0), .val (.int (5 : Int32)), .val (.int (1 : Int32)), .val (.ref a4)] [(.ref a5)])) _
    refine XS.astore X6.here hx rfl (hb hby d1_17) rfl rfl (l' := #[.val (.int p1), .val (.ref b1_0), .val (.int (5 : Int32)), .val (.int (1 : Int32)), .val (.ref a5)]) rfl ?_
    show Steps p.tables e below (T6.setTop (mkF m 19 #[.val (.int p1), .val (.ref b1_0), .val (.int (5 : Int32)), .val (.int (1 : Int32)), .val (.ref a5)] [])) _
    refine XS.aload X6.here hx rfl (hb hby d1_19) rfl rfl ?_
    show Steps p.tables e below (T6.setTop (mkF m 21 #[.val (.int p1), .val (.ref b1_0), .val (.int (5 : Int32)), .val (.int (1 : Int32)), .val (.ref a5)] [(.ref a5)])) _
    refine st9 _ ?_
    show Steps p.tables e below (T9.setTop (mkF m 24 #[.val (.int p1), .val (.ref b1_0), .val (.int (5 : Int32)), .val (.int (1 : Int32)), .val (.ref a5)] [(.int (111 : Int32))])) _
    refine XS.iloadN X9.here hx rfl (hb hby d1_24) rfl ?_
    show Steps p.tables e below (T9.setTop (mkF m 25 #[.val (.int p1), .val (.ref b1_0), .val (.int (5 : Int32)), .val (.int (1 : Int32)), .val (.ref a5)] [(.int p1), (.int (111 : Int32))])) _
    refine XS.icmpYes X9.here hx rfl (pc0 := 25) (pc' := 34) rfl (hb hby d1_25) rfl (feq hc6).2 (by decide) (by decide) ?_
    show Steps p.tables e below (T9.setTop (mkF m 34 #[.val (.int p1), .val (.ref b1_0), .val (.int (5 : Int32)), .val (.int (1 : Int32)), .val (.ref a5)] [])) _
    refine XS.iinc X9.here hx rfl (hb hby d1_34) rfl (l' := #[.val (.int p1), .val (.ref b1_0), .val (.int (5 : Int32)), .val (.int (2 : Int32)), .val (.ref a5)]) rfl ?_
    show Steps p.tables e below (T9.setTop (mkF m 37 #[.val (.int p1), .val (.ref b1_0), .val (.int (5 : Int32)), .val (.int (2 : Int32)), .val (.ref a5)] [])) _
    refine XS.goto X9.here hx rfl (pc0 := 37) (pc' := 9) rfl (hb hby d1_37) (by decide) (by decide) ?_
    show Steps p.tables e below (T9.setTop (mkF m 9 #[.val (.int p1), .val (.ref b1_0), .val (.int (5 : Int32)), .val (.int (2 : Int32)), .val (.ref a5)] [])) _
    refine XS.iloadN X9.here hx rfl (hb hby d1_9) rfl ?_
    show Steps p.tables e below (T9.setTop (mkF m 10 #[.val (.int p1), .val (.ref b1_0), .val (.int (5 : Int32)), .val (.int (2 : Int32)), .val (.ref a5)] [(.int (2 : Int32))])) _
    refine XS.iloadN X9.here hx rfl (hb hby d1_10) rfl ?_
    show Steps p.tables e below (T9.setTop (mkF m 11 #[.val (.int p1), .val (.ref b1_0), .val (.int (5 : Int32)), .val (.int (2 : Int32)), .val (.ref a5)] [(.int (5 : Int32)), (.int (2 : Int32))])) _
    refine XS.icmpNo X9.here hx rfl (hb hby d1_11) rfl (tlt (by decide : (2 : Int32) < (5 : Int32))).2.1 ?_
    show Steps p.tables e below (T9.setTop (mkF m 14 #[.val (.int p1), .val (.ref b1_0), .val (.int (5 : Int32)), .val (.int (2 : Int32)), .val (.ref a5)] [])) _
    refine XS.aloadN X9.here hx rfl (hb hby d1_14) rfl rfl ?_
    show Steps p.tables e below (T9.setTop (mkF m 15 #[.val (.int p1), .val (.ref b1_0), .val (.int (5 : Int32)), .val (.int (2 : Int32)), .val (.ref a5)] [(.ref b1_0)])) _
    refine XS.iloadN X9.here hx rfl (hb hby d1_15) rfl ?_
    show Steps p.tables e below (T9.setTop (mkF m 16 #[.val (.int p1), .val (.ref b1_0), .val (.int (5 : Int32)), .val (.int (2 : Int32)), .val (.ref a5)] [(.int (2 : Int32)), (.ref b1_0)])) _
    refine X9.aaload hx (j := (2 : Int32)) (v := (.ref a6)) (by rw [e9]; exact Ar10.1) (State.isArrayOf_alike hZ.alike Ar10.2.1) rfl Ar10.2.2 hin10 hat10 (g := (mkF m 16 #[.val (.int p1), .val (.ref b1_0), .val (.int (5 : Int32)), .val (.int (2 : Int32)), .val (.ref a5)] [(.int (2 : Int32)), (.ref b1_0)])) rfl rfl (hb hby d1_16) _ ?_
    show Steps p.tables e below (T9.setTop (mkF m 17 #[.val (.int p1), .val (.ref b1_0), .val (.int (5 : Int32)), .val (.int (2 : Int32)), .val (.ref a5)] [(.ref a6)])) _
    refine XS.astore X9.here hx rfl (hb hby d1_17) rfl rfl (l' := #[.val (.int p1), .val (.ref b1_0), .val (.int (5 : Int32)), .val (.int (2 : Int32)), .val (.ref a6)]) rfl ?_
    show Steps p.tables e below (T9.setTop (mkF m 19 #[.val (.int p1), .val (.ref b1_0), .val (.int (5 : Int32)), .val (.int (2 : Int32)), .val (.ref a6)] [])) _
    refine XS.aload X9.here hx rfl (hb hby d1_19) rfl rfl ?_
    show Steps p.tables e below (T9.setTop (mkF m 21 #[.val (.int p1), .val (.ref b1_0), .val (.int (5 : Int32)), .val (.int (2 : Int32)), .val (.ref a6)] [(.ref a6)])) _
    refine st12 _ ?_
    show Steps p.tables e below (T12.setTop (mkF m 24 #[.val (.int p1), .val (.ref b1_0), .val (.int (5 : Int32)), .val (.int (2 : Int32)), .val (.ref a6)] [(.int (97 : Int32))])) _
    refine XS.iloadN X12.here hx rfl (hb hby d1_24) rfl ?_
    show Steps p.tables e below (T12.setTop (mkF m 25 #[.val (.int p1), .val (.ref b1_0), .val (.int (5 : Int32)), .val (.int (2 : Int32)), .val (.ref a6)] [(.int p1), (.int (97 : Int32))])) _
    refine XS.icmpYes X12.here hx rfl (pc0 := 25) (pc' := 34) rfl (hb hby d1_25) rfl (feq hc8).2 (by decide) (by decide) ?_
    show Steps p.tables e below (T12.setTop (mkF m 34 #[.val (.int p1), .val (.ref b1_0), .val (.int (5 : Int32)), .val (.int (2 : Int32)), .val (.ref a6)] [])) _
    refine XS.iinc X12.here hx rfl (hb hby d1_34) rfl (l' := #[.val (.int p1), .val (.ref b1_0), .val (.int (5 : Int32)), .val (.int (3 : Int32)), .val (.ref a6)]) rfl ?_
    show Steps p.tables e below (T12.setTop (mkF m 37 #[.val (.int p1), .val (.ref b1_0), .val (.int (5 : Int32)), .val (.int (3 : Int32)), .val (.ref a6)] [])) _
    refine XS.goto X12.here hx rfl (pc0 := 37) (pc' := 9) rfl (hb hby d1_37) (by decide) (by decide) ?_
    show Steps p.tables e below (T12.setTop (mkF m 9 #[.val (.int p1), .val (.ref b1_0), .val (.int (5 : Int32)), .val (.int (3 : Int32)), .val (.ref a6)] [])) _
    refine XS.iloadN X12.here hx rfl (hb hby d1_9) rfl ?_
    show Steps p.tables e below (T12.setTop (mkF m 10 #[.val (.int p1), .val (.ref b1_0), .val (.int (5 : Int32)), .val (.int (3 : Int32)), .val (.ref a6)] [(.int (3 : Int32))])) _
    refine XS.iloadN X12.here hx rfl (hb hby d1_10) rfl ?_
    show Steps p.tables e below (T12.setTop (mkF m 11 #[.val (.int p1), .val (.ref b1_0), .val (.int (5 : Int32)), .val (.int (3 : Int32)), .val (.ref a6)] [(.int (5 : Int32)), (.int (3 : Int32))])) _
    refine XS.icmpNo X12.here hx rfl (hb hby d1_11) rfl (tlt (by decide : (3 : Int32) < (5 : Int32))).2.1 ?_
    show Steps p.tables e below (T12.setTop (mkF m 14 #[.val (.int p1), .val (.ref b1_0), .val (.int (5 : Int32)), .val (.int (3 : Int32)), .val (.ref a6)] [])) _
    refine XS.aloadN X12.here hx rfl (hb hby d1_14) rfl rfl ?_
    show Steps p.tables e below (T12.setTop (mkF m 15 #[.val (.int p1), .val (.ref b1_0), .val (.int (5 : Int32)), .val (.int (3 : Int32)), .val (.ref a6)] [(.ref b1_0)])) _
    refine XS.iloadN X12.here hx rfl (hb hby d1_15) rfl ?_
    show Steps p.tables e below (T12.setTop (mkF m 16 #[.val (.int p1), .val (.ref b1_0), .val (.int (5 : Int32)), .val (.int (3 : Int32)), .val (.ref a6)] [(.int (3 : Int32)), (.ref b1_0)])) _
    refine X12.aaload hx (j := (3 : Int32)) (v := (.ref a7)) (by rw [e12]; exact Ar13.1) (State.isArrayOf_alike hZ.alike Ar13.2.1) rfl Ar13.2.2 hin13 hat13 (g := (mkF m 16 #[.val (.int p1), .val (.ref b1_0), .val (.int (5 : Int32)), .val (.int (3 : Int32)), .val (.ref a6)] [(.int (3 : Int32)), (.ref b1_0)])) rfl rfl (hb hby d1_16) _ ?_
    show Steps p.tables e below (T12.setTop (mkF m 17 #[.val (.int p1), .val (.ref b1_0), .val (.int (5 : Int32)), .val (.int (3 : Int32)), .val (.ref a6)] [(.ref a7)])) _
    refine XS.astore X12.here hx rfl (hb hby d1_17) rfl rfl (l' := #[.val (.int p1), .val (.ref b1_0), .val (.int (5 : Int32)), .val (.int (3 : Int32)), .val (.ref a7)]) rfl ?_
    show Steps p.tables e below (T12.setTop (mkF m 19 #[.val (.int p1), .val (.ref b1_0), .val (.int (5 : Int32)), .val (.int (3 : Int32)), .val (.ref a7)] [])) _
    refine XS.aload X12.here hx rfl (hb hby d1_19) rfl rfl ?_
    show Steps p.tables e below (T12.setTop (mkF m 21 #[.val (.int p1), .val (.ref b1_0), .val (.int (5 : Int32)), .val (.int (3 : Int32)), .val (.ref a7)] [(.ref a7)])) _
    refine st15 _ ?_
    show Steps p.tables e below (T15.setTop (mkF m 24 #[.val (.int p1), .val (.ref b1_0), .val (.int (5 : Int32)), .val (.int (3 : Int32)), .val (.ref a7)] [(.int (116 : Int32))])) _
    refine XS.iloadN X15.here hx rfl (hb hby d1_24) rfl ?_
    show Steps p.tables e below (T15.setTop (mkF m 25 #[.val (.int p1), .val (.ref b1_0), .val (.int (5 : Int32)), .val (.int (3 : Int32)), .val (.ref a7)] [(.int p1), (.int (116 : Int32))])) _
    refine XS.icmpNo X15.here hx rfl (hb hby d1_25) rfl (teq hc10).2 ?_
    show Steps p.tables e below (T15.setTop (mkF m 28 #[.val (.int p1), .val (.ref b1_0), .val (.int (5 : Int32)), .val (.int (3 : Int32)), .val (.ref a7)] [])) _
    refine XS.aload X15.here hx rfl (hb hby d1_28) rfl rfl ?_
    show Steps p.tables e below (T15.setTop (mkF m 30 #[.val (.int p1), .val (.ref b1_0), .val (.int (5 : Int32)), .val (.int (3 : Int32)), .val (.ref a7)] [(.ref a7)])) _
    refine st16 _ ?_
    show Steps p.tables e below (T16.setTop (mkF m 33 #[.val (.int p1), .val (.ref b1_0), .val (.int (5 : Int32)), .val (.int (3 : Int32)), .val (.ref a7)] [(.ref b16_0)])) _
    exact retOut X16 hx Bd.returns rfl (Or.inr (Or.inr (Or.inr (Or.inr ⟨rfl, rfl, rfl⟩)))) (hb hby d1_33) hr
  · show Q1_14 Z p1 a2 kc3 a4 a5 a6 a7 a8 h0 n0 _ T16.heap _
    exact ⟨b16_0, rfl, N16, KC17, sz0_b16_0, f16_0, f16_1⟩
theorem ef9_15 (m : MethodId) (p1 : Int32) : entryFrame m #[(.int p1)] 1 = mkF m 0 #[.val (.int p1)] [] := by first | (simp [entryFrame, mkF, argsToLocals, Value.category]; done) | rfl
def Q9_15 (Z : State) (p1 : Int32) (a2 : Addr) (h0 : Heap) (n0 : Nat) (v : Option Value) (h : Heap) (L : List Loc) : Prop := v = some (.ref a2) ∧ Fr n0 L ∧ h = h0
set_option maxRecDepth 65536 in
set_option maxHeartbeats 40000000 in
theorem rm9_15 (l : Launch) (Z : State) (a0 : Array Value) (hw : ∀ d ∈ tables_1, d.before a0 Z = true) (ws : List Jvm.Cond) (p1 : Int32) (a2 : Addr) (h0 : Heap) (n0 : Nat) (Z0 : n0 ≤ h0.size) (hc0 : ¬ (p1 = (114 : Int32))) (hc1 : ¬ (p1 = (111 : Int32))) (hc2 : ¬ (p1 = (97 : Int32))) (hc3 : p1 = (116 : Int32)) (S_WhoisQuery_Flag_TECH : Sta Z h0 "com/example/delehat/delehat/protocols/whois/WhoisQuery$Flag" "TECH" "Lcom/example/delehat/delehat/protocols/whois/WhoisQuery$Flag;" (.ref a2)) :
    MetFree l (⟨"com/example/delehat/delehat/protocols/whois/WhoisQueryOfPinLaw", "expected", "(C)Lcom/example/delehat/delehat/protocols/whois/WhoisQuery$Flag;"⟩ : MethodName) (head1 (Jvm.Cond.code (⟨"com/example/delehat/delehat/protocols/whois/WhoisQueryOfPinLaw", "expected", "(C)Lcom/example/delehat/delehat/protocols/whois/WhoisQuery$Flag;"⟩ : MethodName) method_2_code 1 (some (.object "com/example/delehat/delehat/protocols/whois/WhoisQuery$Flag")) :: ws) ({ frames := 0, cells := 0, slots := 0, locals := 0 } : Room)) (fun a U => a = #[(.int p1)] ∧ Z.Warmed39 U.vm ∧ U.heap = h0) (fun _ _ _ _ _ => True) (fun _ U o U' => ∃ v L, o = .returned v ∧ Q9_15 Z p1 a2 h0 n0 v U'.heap L ∧ FrameEnd U o U' L ({ frames := 0, cells := 0, slots := 0, locals := 0 } : Room).cells ({ frames := 0, cells := 0, slots := 0, locals := 0 } : Room).slots) := by
  refine MetFree.of_bodySF (plainFor_of_name pn_com_example_delehat_delehat_protocols_whois_WhoisQueryOfPinLaw) hisR ?_
  intro p e s m args below meth c s₁ Bd hml0 hP hK
  obtain ⟨rfl, hZ, hh⟩ := hP
  have hx := Bd.exec
  have hby := Bd.bytes
  have hml : c.maxLocals = 1 := hml0
  have hown : s.vm.findClass "com/example/delehat/delehat/protocols/whois/WhoisQueryOfPinLaw" = some m.cls := findClass_of_methodNamed Bd.named
  have hnm := (name_of_methodNamed Bd.named Bd.method).1
  have X0 : Stand p l e ({ frames := 0, cells := 0, slots := 0, locals := 0 } : Room) s m #[(.int p1)] below meth c s₁ [] 0 0 := Stand.of_body Bd
  have e0 : s₁.heap = h0 := by rw [← hh, Bd.state]; rfl
  have N0 := Fr.nil n0
  have pre0 : ∀ t, Steps p.tables e below (s₁.setTop (mkF m 0 #[.val (.int p1)] [])) t → Steps p.tables e below (s₁.setTop (entryFrame m #[(.int p1)] 1)) t := fun t k => castTop (ef9_15 m p1) k
  obtain ⟨T1, X1, e1, st1⟩ := getS2 X0 hx hZ hown (host := "") (Or.inl (own_w69 hw)) Via.refl e0 S_WhoisQuery_Flag_TECH (g := (mkF m 36 #[.val (.int p1)] [])) rfl (hb hby d9_36)
  obtain ⟨fs, hr, hrun, hended, hW, hsame⟩ := X1.leave (v := some (.ref a2)) (fun h => by rw [Bd.returns] at h; cases h)
  refine ⟨_, _, pre0 _ ?_, hrun, hended, _, _, rfl, ?_, ⟨_, rfl⟩, hW, hsame.mono (by decide) (by decide)⟩
  · show Steps p.tables e below (s₁.setTop (mkF m 0 #[.val (.int p1)] [])) _
    refine XS.iloadN X0.here hx rfl (hb hby d9_0) rfl ?_
    show Steps p.tables e below (s₁.setTop (mkF m 1 #[.val (.int p1)] [(.int p1)])) _
    refine XS.bipush X0.here hx rfl (hb hby d9_1) ?_
    show Steps p.tables e below (s₁.setTop (mkF m 3 #[.val (.int p1)] [(.int (114 : Int32)), (.int p1)])) _
    refine XS.icmpYes X0.here hx rfl (pc0 := 3) (pc' := 10) rfl (hb hby d9_3) rfl (feq hc0).2 (by decide) (by decide) ?_
    show Steps p.tables e below (s₁.setTop (mkF m 10 #[.val (.int p1)] [])) _
    refine XS.iloadN X0.here hx rfl (hb hby d9_10) rfl ?_
    show Steps p.tables e below (s₁.setTop (mkF m 11 #[.val (.int p1)] [(.int p1)])) _
    refine XS.bipush X0.here hx rfl (hb hby d9_11) ?_
    show Steps p.tables e below (s₁.setTop (mkF m 13 #[.val (.int p1)] [(.int (111 : Int32)), (.int p1)])) _
    refine XS.icmpYes X0.here hx rfl (pc0 := 13) (pc' := 20) rfl (hb hby d9_13) rfl (feq hc1).2 (by decide) (by decide) ?_
    show Steps p.tables e below (s₁.setTop (mkF m 20 #[.val (.int p1)] [])) _
    refine XS.iloadN X0.here hx rfl (hb hby d9_20) rfl ?_
    show Steps p.tables e below (s₁.setTop (mkF m 21 #[.val (.int p1)] [(.int p1)])) _
    refine XS.bipush X0.here hx rfl (hb hby d9_21) ?_
    show Steps p.tables e below (s₁.setTop (mkF m 23 #[.val (.int p1)] [(.int (97 : Int32)), (.int p1)])) _
    refine XS.icmpYes X0.here hx rfl (pc0 := 23) (pc' := 30) rfl (hb hby d9_23) rfl (feq hc2).2 (by decide) (by decide) ?_
    show Steps p.tables e below (s₁.setTop (mkF m 30 #[.val (.int p1)] [])) _
    refine XS.iloadN X0.here hx rfl (hb hby d9_30) rfl ?_
    show Steps p.tables e below (s₁.setTop (mkF m 31 #[.val (.int p1)] [(.int p1)])) _
    refine XS.bipush X0.here hx rfl (hb hby d9_31) ?_
    show Steps p.tables e below (s₁.setTop (mkF m 33 #[.val (.int p1)] [(.int (116 : Int32)), (.int p1)])) _
    refine XS.icmpNo X0.here hx rfl (hb hby d9_33) rfl (teq hc3).2 ?_
    show Steps p.tables e below (s₁.setTop (mkF m 36 #[.val (.int p1)] [])) _
    refine st1 _ ?_
    show Steps p.tables e below (T1.setTop (mkF m 39 #[.val (.int p1)] [(.ref a2)])) _
    exact retOut X1 hx Bd.returns rfl (Or.inr (Or.inr (Or.inr (Or.inr ⟨rfl, rfl, rfl⟩)))) (hb hby d9_39) hr
  · show Q9_15 Z p1 a2 h0 n0 _ T1.heap _
    rw [e1]
    exact ⟨rfl, N0, rfl⟩
theorem ef1_16 (m : MethodId) (p1 : Int32) : entryFrame m #[(.int p1)] 5 = mkF m 0 #[.val (.int p1), .unset, .unset, .unset, .unset] [] := by first | (simp [entryFrame, mkF, argsToLocals, Value.category]; done) | rfl
def Q1_16 (Z : State) (p1 : Int32) (a2 : Addr) (kc3 : ClassId) (a4 : Addr) (a5 : Addr) (a6 : Addr) (a7 : Addr) (a8 : Addr) (h0 : Heap) (n0 : Nat) (v : Option Value) (h : Heap) (L : List Loc) : Prop := ∃ b19_0 : Addr, v = some (.ref b19_0) ∧ Fr n0 L ∧ Keep h0 h [] ∧ h0.size ≤ b19_0 ∧ Exa Z h b19_0 "java/util/Optional" ∧ Fld Z h b19_0 "java/util/Optional" "value" "Ljava/lang/Object;" (.ref a8)
set_option maxRecDepth 65536 in
set_option maxHeartbeats 40000000 in
theorem rm1_16 (l : Launch) (Z : State) (a0 : Array Value) (hw : ∀ d ∈ tables_1, d.before a0 Z = true) (ws : List Jvm.Cond) (p1 : Int32) (a2 : Addr) (kc3 : ClassId) (a4 : Addr) (a5 : Addr) (a6 : Addr) (a7 : Addr) (a8 : Addr) (h0 : Heap) (n0 : Nat) (Z0 : n0 ≤ h0.size) (S_WhoisQuery_Flag__VALUES : Sta Z h0 "com/example/delehat/delehat/protocols/whois/WhoisQuery$Flag" "$VALUES" "[Lcom/example/delehat/delehat/protocols/whois/WhoisQuery$Flag;" (.ref a2)) (E_a2 : Exa Z h0 a2 "[Lcom/example/delehat/delehat/protocols/whois/WhoisQuery$Flag;") (V_a2 : Arv Z h0 a2 kc3 (.object "com/example/delehat/delehat/protocols/whois/WhoisQuery$Flag") (5 : Int32) [(.ref a4), (.ref a5), (.ref a6), (.ref a7), (.ref a8)] .null) (F_a4_letter : Fld Z h0 a4 "com/example/delehat/delehat/protocols/whois/WhoisQuery$Flag" "letter" "C" (.int (114 : Int32))) (hc4 : ¬ ((114 : Int32) = p1)) (F_a5_letter : Fld Z h0 a5 "com/example/delehat/delehat/protocols/whois/WhoisQuery$Flag" "letter" "C" (.int (111 : Int32))) (hc6 : ¬ ((111 : Int32) = p1)) (F_a6_letter : Fld Z h0 a6 "com/example/delehat/delehat/protocols/whois/WhoisQuery$Flag" "letter" "C" (.int (97 : Int32))) (hc8 : ¬ ((97 : Int32) = p1)) (F_a7_letter : Fld Z h0 a7 "com/example/delehat/delehat/protocols/whois/WhoisQuery$Flag" "letter" "C" (.int (116 : Int32))) (hc10 : ¬ ((116 : Int32) = p1)) (F_a8_letter : Fld Z h0 a8 "com/example/delehat/delehat/protocols/whois/WhoisQuery$Flag" "letter" "C" (.int (115 : Int32))) (hc12 : (115 : Int32) = p1) :
    MetFree l (⟨"com/example/delehat/delehat/protocols/whois/WhoisQuery$Flag", "of", "(C)Ljava/util/Optional;"⟩ : MethodName) (head1 (Jvm.Cond.code (⟨"com/example/delehat/delehat/protocols/whois/WhoisQuery$Flag", "of", "(C)Ljava/util/Optional;"⟩ : MethodName) prog_93_method_4_code 5 (some (.object "java/util/Optional")) :: ws) ({ frames := 3, cells := 2, slots := 6, locals := 38 } : Room)) (fun a U => a = #[(.int p1)] ∧ Z.Warmed39 U.vm ∧ U.heap = h0) (fun _ _ _ _ _ => True) (fun _ U o U' => ∃ v L, o = .returned v ∧ Q1_16 Z p1 a2 kc3 a4 a5 a6 a7 a8 h0 n0 v U'.heap L ∧ FrameEnd U o U' L ({ frames := 3, cells := 2, slots := 6, locals := 38 } : Room).cells ({ frames := 3, cells := 2, slots := 6, locals := 38 } : Room).slots) := by
  refine MetFree.of_bodySF (plainFor_of_name pn_com_example_delehat_delehat_protocols_whois_WhoisQuery_Flag) hisR ?_
  intro p e s m args below meth c s₁ Bd hml0 hP hK
  obtain ⟨rfl, hZ, hh⟩ := hP
  have hx := Bd.exec
  have hby := Bd.bytes
  have hml : c.maxLocals = 5 := hml0
  have hown : s.vm.findClass "com/example/delehat/delehat/protocols/whois/WhoisQuery$Flag" = some m.cls := findClass_of_methodNamed Bd.named
  have hnm := (name_of_methodNamed Bd.named Bd.method).1
  have X0 : Stand p l e ({ frames := 3, cells := 2, slots := 6, locals := 38 } : Room) s m #[(.int p1)] below meth c s₁ [] 0 0 := Stand.of_body Bd
  have e0 : s₁.heap = h0 := by rw [← hh, Bd.state]; rfl
  have N0 := Fr.nil n0
  have pre0 : ∀ t, Steps p.tables e below (s₁.setTop (mkF m 0 #[.val (.int p1), .unset, .unset, .unset, .unset] [])) t → Steps p.tables e below (s₁.setTop (entryFrame m #[(.int p1)] 5)) t := fun t k => castTop (ef1_16 m p1) k
  obtain ⟨_, _, ⟨T1, L1, k1, n1⟩, -, X1, ⟨Lc1, hQ1, l1, y1, z1⟩, st1⟩ := Jvm.LawKit.callS X0 hx (y := (⟨"com/example/delehat/delehat/protocols/whois/WhoisQuery$Flag", "values", "()[Lcom/example/delehat/delehat/protocols/whois/WhoisQuery$Flag;"⟩ : MethodName)) hown (mvT hZ (own_w5 hw)) (mvT hZ (own_w6 hw)) (mvT hZ (own_w3 hw)) (mvT hZ (own_w7 hw)) (by decide) (backOf (W := 0) (rm2_1 l Z a0 hw [] a2 kc3 a4 a5 a6 a7 a8 h0 n0 Z0 S_WhoisQuery_Flag__VALUES E_a2 V_a2) hZ (own_w7 hw) (own_w3 hw) (by decide) (by decide)) (g := (mkF m 0 #[.val (.int p1), .unset, .unset, .unset, .unset] [])) rfl (by rw [hml]; rfl) (argsL := []) (rest := []) (lenOf pd____Lcom_example_delehat_delehat_protocols_whois_WhoisQuery_Flag_ rfl) rfl (by show 2 * 0 + _ ≤ _; exact Nat.le_of_eq rfl) (hb hby d1_0) (fun _ _ => ⟨rfl, e0, (by decide : 0 + 1 ≤ _), (by decide : 0 + 5 ≤ _)⟩)
  dsimp only [Pt.U, Pt.locs, Pt.cells, Pt.slots] at X1 l1 y1 z1 st1 hQ1
  subst l1 y1 z1
  obtain ⟨b1_0, rfl, N1q, K1, sq1_0, f1_0, f1_1⟩ := hQ1
  have N1 := Fr.app N0 N1q
  have sz_b1_0 : h0.size ≤ b1_0 := sq1_0
  have sz0_b1_0 : h0.size ≤ b1_0 := sz_b1_0
  have g_b1_0 : n0 ≤ b1_0 := Nat.le_trans Z0 sz0_b1_0
  have KC2 : Keep h0 T1.heap [] := (Keep.refl h0 []).trans K1 all0
  obtain ⟨cl3, Ar3, -, Sz3, Ng3, -, -⟩ := id f1_0
  obtain ⟨cl4, Ar4, qk4, Sz4, Ng4, Ha4, Gf4⟩ := id f1_0
  have hin4 : ¬ ((0 : Int32) < 0 ∨ cl4.slots.size ≤ ((0 : Int32)).toNatClampNeg) := inb_of Sz4 ⟨by decide, by decide⟩
  have hat4 : cl4.slots[((0 : Int32)).toNatClampNeg]? = some (.ref a4) := Has.at Ha4 hin4 rfl
  have c5 := F_a4_letter.keep K1 nin0
  obtain ⟨T6, X6, e6, st6⟩ := getF X1 hx hZ hown (host := "") (Or.inl (own_w25 hw)) Via.refl rfl c5 (g := (mkF m 21 #[.val (.int p1), .val (.ref b1_0), .val (.int (5 : Int32)), .val (.int (0 : Int32)), .val (.ref a4)] [(.ref a4)])) rfl rfl (hb hby d1_21)
  obtain ⟨cl7, Ar7, qk7, Sz7, Ng7, Ha7, Gf7⟩ := id f1_0
  have hin7 : ¬ ((1 : Int32) < 0 ∨ cl7.slots.size ≤ ((1 : Int32)).toNatClampNeg) := inb_of Sz7 ⟨by decide, by decide⟩
  have hat7 : cl7.slots[((1 : Int32)).toNatClampNeg]? = some (.ref a5) := Has.at Ha7 hin7 rfl
  have c8 := F_a5_letter.keep K1 nin0
  obtain ⟨T9, X9, e9, st9⟩ := getF X6 hx hZ hown (host := "") (Or.inl (own_w25 hw)) Via.refl e6 c8 (g := (mkF m 21 #[.val (.int p1), .val (.ref b1_0), .val (.int (5 : Int32)), .val (.int (1 : Int32)), .val (.ref a5)] [(.ref a5)])) rfl rfl (hb hby d1_21)
  obtain ⟨cl10, Ar10, qk10, Sz10, Ng10, Ha10, Gf10⟩ := id f1_0
  have hin10 : ¬ ((2 : Int32) < 0 ∨ cl10.slots.size ≤ ((2 : Int32)).toNatClampNeg) := inb_of Sz10 ⟨by decide, by decide⟩
  have hat10 : cl10.slots[((2 : Int32)).toNatClampNeg]? = some (.ref a6) := Has.at Ha10 hin10 rfl
  have c11 := F_a6_letter.keep K1 nin0
  obtain ⟨T12, X12, e12, st12⟩ := getF X9 hx hZ hown (host := "") (Or.inl (own_w25 hw)) Via.refl e9 c11 (g := (mkF m 21 #[.val (.int p1), .val (.ref b1_0), .val (.int (5 : Int32)), .val (.int (2 : Int32)), .val (.ref a6)] [(.ref a6)])) rfl rfl (hb hby d1_21)
  obtain ⟨cl13, Ar13, qk13, Sz13, Ng13, Ha13, Gf13⟩ := id f1_0
  have hin13 : ¬ ((3 : Int32) < 0 ∨ cl13.slots.size ≤ ((3 : Int32)).toNatClampNeg) := inb_of Sz13 ⟨by decide, by decide⟩
  have hat13 : cl13.slots[((3 : Int32)).toNatClampNeg]? = some (.ref a7) := Has.at Ha13 hin13 rfl
  have c14 := F_a7_letter.keep K1 nin0
  obtain ⟨T15, X15, e15, st15⟩ := getF X12 hx hZ hown (host := "") (Or.inl (own_w25 hw)) Via.refl e12 c14 (g := (mkF m 21 #[.val (.int p1), .val (.ref b1_0), .val (.int (5 : Int32)), .val (.int (3 : Int32)), .val (.ref a7)] [(.ref a7)])) rfl rfl (hb hby d1_21)
  obtain ⟨cl16, Ar16, qk16, Sz16, Ng16, Ha16, Gf16⟩ := id f1_0
  have hin16 : ¬ ((4 : Int32) < 0 ∨ cl16.slots.size ≤ ((4 : Int32)).toNatClampNeg) := inb_of Sz16 ⟨by decide, by decide⟩
  have hat16 : cl16.slots[((4 : Int32)).toNatClampNeg]? = some (.ref a8) := Has.at Ha16 hin16 rfl
  have c17 := F_a8_letter.keep K1 nin0
  obtain ⟨T18, X18, e18, st18⟩ := getF X15 hx hZ hown (host := "") (Or.inl (own_w25 hw)) Via.refl e15 c17 (g := (mkF m 21 #[.val (.int p1), .val (.ref b1_0), .val (.int (5 : Int32)), .val (.int (4 : Int32)), .val (.ref a8)] [(.ref a8)])) rfl rfl (hb hby d1_21)
  obtain ⟨_, _, ⟨T19, L19, k19, n19⟩, -, X19, ⟨Lc19, hQ19, l19, y19, z19⟩, st19⟩ := Jvm.LawKit.callS X18 hx (y := (⟨"java/util/Optional", "of", "(Ljava/lang/Object;)Ljava/util/Optional;"⟩ : MethodName)) hown (mvT hZ (own_w27 hw)) (mvT hZ (own_w28 hw)) (mvT hZ (own_w29 hw)) (mvT hZ (own_w30 hw)) (by decide) (backOf (W := 0) (rm3_4 l Z a0 hw [] a8 T1.heap n0 (Nat.le_trans Z0 KC2.1) ) hZ (own_w30 hw) (own_w29 hw) (by decide) (by decide)) (g := (mkF m 30 #[.val (.int p1), .val (.ref b1_0), .val (.int (5 : Int32)), .val (.int (4 : Int32)), .val (.ref a8)] [(.ref a8)])) rfl (by rw [hml]; rfl) (argsL := [(.ref a8)]) (rest := []) (lenOf pd__Ljava_lang_Object__Ljava_util_Optional_ rfl) rfl (by show 2 * 0 + _ ≤ _; exact Nat.le_of_eq rfl) (hb hby d1_30) (fun _ _ => ⟨rfl, e18, (by decide : 1 + 1 ≤ _), (by decide : 5 + 1 ≤ _)⟩)
  dsimp only [Pt.U, Pt.locs, Pt.cells, Pt.slots] at X19 l19 y19 z19 st19 hQ19
  subst l19 y19 z19
  obtain ⟨b19_0, rfl, N19q, K19, sq19_0, f19_0, f19_1⟩ := hQ19
  have N19 := Fr.app N1 N19q
  have sz_b19_0 : T1.heap.size ≤ b19_0 := sq19_0
  have sz0_b19_0 : h0.size ≤ b19_0 := Nat.le_trans KC2.1 sz_b19_0
  have g_b19_0 : n0 ≤ b19_0 := Nat.le_trans Z0 sz0_b19_0
  have KC20 : Keep h0 T19.heap [] := KC2.trans K19 all0
  obtain ⟨fs, hr, hrun, hended, hW, hsame⟩ := X19.leave (v := some (.ref b19_0)) (fun h => by rw [Bd.returns] at h; cases h)
  refine ⟨_, _, pre0 _ ?_, hrun, hended, _, _, rfl, ?_, ⟨_, rfl⟩, hW, hsame.mono (by decide) (by decide)⟩
  · show Steps p.tables e below (s₁.setTop (mkF m 0 #[.val (.int p1), .unset, .unset, .unset, .unset] [])) _
    refine st1 _ ?_
    show Steps p.tables e below (T1.setTop (mkF m 3 #[.val (.int p1), .unset, .unset, .unset, .unset] [(.ref b1_0)])) _
    refine XS.astoreN X1.here hx rfl (hb hby d1_3) rfl rfl (l' := #[.val (.int p1), .val (.ref b1_0), .unset, .unset, .unset]) rfl ?_
    show Steps p.tables e below (T1.setTop (mkF m 4 #[.val (.int p1), .val (.ref b1_0), .unset, .unset, .unset] [])) _
    refine XS.aloadN X1.here hx rfl (hb hby d1_4) rfl rfl ?_
    show Steps p.tables e below (T1.setTop (mkF m 5 #[.val (.int p1), .val (.ref b1_0), .unset, .unset, .unset] [(.ref b1_0)])) _
    refine X1.arraylength hx Ar3.1 (State.isArrayOf_alike hZ.alike Ar3.2.1) (g := (mkF m 5 #[.val (.int p1), .val (.ref b1_0), .unset, .unset, .unset] [(.ref b1_0)])) rfl rfl (hb hby d1_5) _ ?_
    rw [len_of Sz3 Ng3]
    show Steps p.tables e below (T1.setTop (mkF m 6 #[.val (.int p1), .val (.ref b1_0), .unset, .unset, .unset] [(.int (5 : Int32))])) _
    refine XS.istoreN X1.here hx rfl (hb hby d1_6) rfl (l' := #[.val (.int p1), .val (.ref b1_0), .val (.int (5 : Int32)), .unset, .unset]) rfl ?_
    show Steps p.tables e below (T1.setTop (mkF m 7 #[.val (.int p1), .val (.ref b1_0), .val (.int (5 : Int32)), .unset, .unset] [])) _
    refine XS.iconst X1.here hx rfl (hb hby d1_7) ?_
    show Steps p.tables e below (T1.setTop (mkF m 8 #[.val (.int p1), .val (.ref b1_0), .val (.int (5 : Int32)), .unset, .unset] [(.int (0 : Int32))])) _
    refine XS.istoreN X1.here hx rfl (hb hby d1_8) rfl (l' := #[.val (.int p1), .val (.ref b1_0), .val (.int (5 : Int32)), .val (.int (0 : Int32)), .unset]) rfl ?_
    show Steps p.tables e below (T1.setTop (mkF m 9 #[.val (.int p1), .val (.ref b1_0), .val (.int (5 : Int32)), .val (.int (0 : Int32)), .unset] [])) _
    refine XS.iloadN X1.here hx rfl (hb hby d1_9) rfl ?_
    show Steps p.tables e below (T1.setTop (mkF m 10 #[.val (.int p1), .val (.ref b1_0), .val (.int (5 : Int32)), .val (.int (0 : Int32)), .unset] [(.int (0 : Int32))])) _
    refine XS.iloadN X1.here hx rfl (hb hby d1_10) rfl ?_
    show Steps p.tables e below (T1.setTop (mkF m 11 #[.val (.int p1), .val (.ref b1_0), .val (.int (5 : Int32)), .val (.int (0 : Int32)), .unset] [(.int (5 : Int32)), (.int (0 : Int32))])) _
    refine XS.icmpNo X1.here hx rfl (hb hby d1_11) rfl (tlt (by decide : (0 : Int32) < (5 : Int32))).2.1 ?_
    show Steps p.tables e below (T1.setTop (mkF m 14 #[.val (.int p1), .val (.ref b1_0), .val (.int (5 : Int32)), .val (.int (0 : Int32)), .unset] [])) _
    refine XS.aloadN X1.here hx rfl (hb hby d1_14) rfl rfl ?_
    show Steps p.tables e below (T1.setTop (mkF m 15 #[.val (.int p1), .val (.ref b1_0), .val (.int (5 : Int32)), .val (.int (0 : Int32)), .unset] [(.ref b1_0)])) _
    refine XS.iloadN X1.here hx rfl (hb hby d1_15) rfl ?_
    show Steps p.tables e below (T1.setTop (mkF m 16 #[.val (.int p1), .val (.ref b1_0), .val (.int (5 : Int32)), .val (.int (0 : Int32)), .unset] [(.int (0 : Int32)), (.ref b1_0)])) _
    refine X1.aaload hx (j := (0 : Int32)) (v := (.ref a4)) Ar4.1 (State.isArrayOf_alike hZ.alike Ar4.2.1) rfl Ar4.2.2 hin4 hat4 (g := (mkF m 16 #[.val (.int p1), .val (.ref b1_0), .val (.int (5 : Int32)), .val (.int (0 : Int32)), .unset] [(.int (0 : Int32)), (.ref b1_0)])) rfl rfl (hb hby d1_16) _ ?_
    show Steps p.tables e below (T1.setTop (mkF m 17 #[.val (.int p1), .val (.ref b1_0), .val (.int (5 : Int32)), .val (.int (0 : Int32)), .unset] [(.ref a4)])) _
    refine XS.astore X1.here hx rfl (hb hby d1_17) rfl rfl (l' := #[.val (.int p1), .val (.ref b1_0), .val (.int (5 : Int32)), .val (.int (0 : Int32)), .val (.ref a4)]) rfl ?_
    show Steps p.tables e below (T1.setTop (mkF m 19 #[.val (.int p1), .val (.ref b1_0), .val (.int (5 : Int32)), .val (.int (0 : Int32)), .val (.ref a4)] [])) _
    refine XS.aload X1.here hx rfl (hb hby d1_19) rfl rfl ?_
    show Steps p.tables e below (T1.setTop (mkF m 21 #[.val (.int p1), .val (.ref b1_0), .val (.int (5 : Int32)), .val (.int (0 : Int32)), .val (.ref a4)] [(.ref a4)])) _
    refine st6 _ ?_
    show Steps p.tables e below (T6.setTop (mkF m 24 #[.val (.int p1), .val (.ref b1_0), .val (.int (5 : Int32)), .val (.int (0 : Int32)), .val (.ref a4)] [(.int (114 : Int32))])) _
    refine XS.iloadN X6.here hx rfl (hb hby d1_24) rfl ?_
    show Steps p.tables e below (T6.setTop (mkF m 25 #[.val (.int p1), .val (.ref b1_0), .val (.int (5 : Int32)), .val (.int (0 : Int32)), .val (.ref a4)] [(.int p1), (.int (114 : Int32))])) _
    refine XS.icmpYes X6.here hx rfl (pc0 := 25) (pc' := 34) rfl (hb hby d1_25) rfl (feq hc4).2 (by decide) (by decide) ?_
    show Steps p.tables e below (T6.setTop (mkF m 34 #[.val (.int p1), .val (.ref b1_0), .val (.int (5 : Int32)), .val (.int (0 : Int32)), .val (.ref a4)] [])) _
    refine XS.iinc X6.here hx rfl (hb hby d1_34) rfl (l' := #[.val (.int p1), .val (.ref b1_0), .val (.int (5 : Int32)), .val (.int (1 : Int32)), .val (.ref a4)]) rfl ?_
    show Steps p.tables e below (T6.setTop (mkF m 37 #[.val (.int p1), .val (.ref b1_0), .val (.int (5 : Int32)), .val (.int (1 : Int32)), .val (.ref a4)] [])) _
    refine XS.goto X6.here hx rfl (pc0 := 37) (pc' := 9) rfl (hb hby d1_37) (by decide) (by decide) ?_
    show Steps p.tables e below (T6.setTop (mkF m 9 #[.val (.int p1), .val (.ref b1_0), .val (.int (5 : Int32)), .val (.int (1 : Int32)), .val (.ref a4)] [])) _
    refine XS.iloadN X6.here hx rfl (hb hby d1_9) rfl ?_
    show Steps p.tables e below (T6.setTop (mkF m 10 #[.val (.int p1), .val (.ref b1_0), .val (.int (5 : Int32)), .val (.int (1 : Int32)), .val (.ref a4)] [(.int (1 : Int32))])) _
    refine XS.iloadN X6.here hx rfl (hb hby d1_10) rfl ?_
    show Steps p.tables e below (T6.setTop (mkF m 11 #[.val (.int p1), .val (.ref b1_0), .val (.int (5 : Int32)), .val (.int (1 : Int32)), .val (.ref a4)] [(.int (5 : Int32)), (.int (1 : Int32))])) _
    refine XS.icmpNo X6.here hx rfl (hb hby d1_11) rfl (tlt (by decide : (1 : Int32) < (5 : Int32))).2.1 ?_
    show Steps p.tables e below (T6.setTop (mkF m 14 #[.val (.int p1), .val (.ref b1_0), .val (.int (5 : Int32)), .val (.int (1 : Int32)), .val (.ref a4)] [])) _
    refine XS.aloadN X6.here hx rfl (hb hby d1_14) rfl rfl ?_
    show Steps p.tables e below (T6.setTop (mkF m 15 #[.val (.int p1), .val (.ref b1_0), .val (.int (5 : Int32)), .val (.int (1 : Int32)), .val (.ref a4)] [(.ref b1_0)])) _
    refine XS.iloadN X6.here hx rfl (hb hby d1_15) rfl ?_
    show Steps p.tables e below (T6.setTop (mkF m 16 #[.val (.int p1), .val (.ref b1_0), .val (.int (5 : Int32)), .val (.int (1 : Int32)), .val (.ref a4)] [(.int (1 : Int32)), (.ref b1_0)])) _
    refine X6.aaload hx (j := (1 : Int32)) (v := (.ref a5)) (by rw [e6]; exact Ar7.1) (State.isArrayOf_alike hZ.alike Ar7.2.1) rfl Ar7.2.2 hin7 hat7 (g := (mkF m 16 #[.val (.int p1), .val (.ref b1_0), .val (.int (5 : Int32)), .val (.int (1 : Int32)), .val (.ref a4)] [(.int (1 : Int32)), (.ref b1_0)])) rfl rfl (hb hby d1_16) _ ?_
    show Steps p.tables e below (T6.setTop (mkF m 17 #[.val (.int p1), .val (.ref b1_0), .val (.int (5 : Int32)), .val (.int (1 : Int32)), .val (.ref a4)] [(.ref a5)])) _
    refine XS.astore X6.here hx rfl (hb hby d1_17) rfl rfl (l' := #[.val (.int p1), .val (.ref b1_0), .val (.int (5 : Int32)), .val (.int (1 : Int32)), .val (.ref a5)]) rfl ?_
    show Steps p.tables e below (T6.setTop (mkF m 19 #[.val (.int p1), .val (.ref b1_0), .val (.int (5 : Int32)), .val (.int (1 : Int32)), .val (.ref a5)] [])) _
    refine XS.aload X6.here hx rfl (hb hby d1_19) rfl rfl ?_
    show Steps p.tables e below (T6.setTop (mkF m 21 #[.val (.int p1), .val (.ref b1_0), .val (.int (5 : Int32)), .val (.int (1 : Int32)), .val (.ref a5)] [(.ref a5)])) _
    refine st9 _ ?_
    show Steps p.tables e below (T9.setTop (mkF m 24 #[.val (.int p1), .val (.ref b1_0), .val (.int (5 : Int32)), .val (.int (1 : Int32)), .val (.ref a5)] [(.int (111 : Int32))])) _
    refine XS.iloadN X9.here hx rfl (hb hby d1_24) rfl ?_
    show Steps p.tables e below (T9.setTop (mkF m 25 #[.val (.int p1), .val (.ref b1_0), .val (.int (5 : Int32)), .val (.int (1 : Int32)), .val (.ref a5)] [(.int p1), (.int (111 : Int32))])) _
    refine XS.icmpYes X9.here hx rfl (pc0 := 25) (pc' := 34) rfl (hb hby d1_25) rfl (feq hc6).2 (by decide) (by decide) ?_
    show Steps p.tables e below (T9.setTop (mkF m 34 #[.val (.int p1), .val (.ref b1_0), .val (.int (5 : Int32)), .val (.int (1 : Int32)), .val (.ref a5)] [])) _
    refine XS.iinc X9.here hx rfl (hb hby d1_34) rfl (l' := #[.val (.int p1), .val (.ref b1_0), .val (.int (5 : Int32)), .val (.int (2 : Int32)), .val (.ref a5)]) rfl ?_
    show Steps p.tables e below (T9.setTop (mkF m 37 #[.val (.int p1), .val (.ref b1_0), .val (.int (5 : Int32)), .val (.int (2 : Int32)), .val (.ref a5)] [])) _
    refine XS.goto X9.here hx rfl (pc0 := 37) (pc' := 9) rfl (hb hby d1_37) (by decide) (by decide) ?_
    show Steps p.tables e below (T9.setTop (mkF m 9 #[.val (.int p1), .val (.ref b1_0), .val (.int (5 : Int32)), .val (.int (2 : Int32)), .val (.ref a5)] [])) _
    refine XS.iloadN X9.here hx rfl (hb hby d1_9) rfl ?_
    show Steps p.tables e below (T9.setTop (mkF m 10 #[.val (.int p1), .val (.ref b1_0), .val (.int (5 : Int32)), .val (.int (2 : Int32)), .val (.ref a5)] [(.int (2 : Int32))])) _
    refine XS.iloadN X9.here hx rfl (hb hby d1_10) rfl ?_
    show Steps p.tables e below (T9.setTop (mkF m 11 #[.val (.int p1), .val (.ref b1_0), .val (.int (5 : Int32)), .val (.int (2 : Int32)), .val (.ref a5)] [(.int (5 : Int32)), (.int (2 : Int32))])) _
    refine XS.icmpNo X9.here hx rfl (hb hby d1_11) rfl (tlt (by decide : (2 : Int32) < (5 : Int32))).2.1 ?_
    show Steps p.tables e below (T9.setTop (mkF m 14 #[.val (.int p1), .val (.ref b1_0), .val (.int (5 : Int32)), .val (.int (2 : Int32)), .val (.ref a5)] [])) _
    refine XS.aloadN X9.here hx rfl (hb hby d1_14) rfl rfl ?_
    show Steps p.tables e below (T9.setTop (mkF m 15 #[.val (.int p1), .val (.ref b1_0), .val (.int (5 : Int32)), .val (.int (2 : Int32)), .val (.ref a5)] [(.ref b1_0)])) _
    refine XS.iloadN X9.here hx rfl (hb hby d1_15) rfl ?_
    show Steps p.tables e below (T9.setTop (mkF m 16 #[.val (.int p1), .val (.ref b1_0), .val (.int (5 : Int32)), .val (.int (2 : Int32)), .val (.ref a5)] [(.int (2 : Int32)), (.ref b1_0)])) _
    refine X9.aaload hx (j := (2 : Int32)) (v := (.ref a6)) (by rw [e9]; exact Ar10.1) (State.isArrayOf_alike hZ.alike Ar10.2.1) rfl Ar10.2.2 hin10 hat10 (g := (mkF m 16 #[.val (.int p1), .val (.ref b1_0), .val (.int (5 : Int32)), .val (.int (2 : Int32)), .val (.ref a5)] [(.int (2 : Int32)), (.ref b1_0)])) rfl rfl (hb hby d1_16) _ ?_
    show Steps p.tables e below (T9.setTop (mkF m 17 #[.val (.int p1), .val (.ref b1_0), .val (.int (5 : Int32)), .val (.int (2 : Int32)), .val (.ref a5)] [(.ref a6)])) _
    refine XS.astore X9.here hx rfl (hb hby d1_17) rfl rfl (l' := #[.val (.int p1), .val (.ref b1_0), .val (.int (5 : Int32)), .val (.int (2 : Int32)), .val (.ref a6)]) rfl ?_
    show Steps p.tables e below (T9.setTop (mkF m 19 #[.val (.int p1), .val (.ref b1_0), .val (.int (5 : Int32)), .val (.int (2 : Int32)), .val (.ref a6)] [])) _
    refine XS.aload X9.here hx rfl (hb hby d1_19) rfl rfl ?_
    show Steps p.tables e below (T9.setTop (mkF m 21 #[.val (.int p1), .val (.ref b1_0), .val (.int (5 : Int32)), .val (.int (2 : Int32)), .val (.ref a6)] [(.ref a6)])) _
    refine st12 _ ?_
    show Steps p.tables e below (T12.setTop (mkF m 24 #[.val (.int p1), .val (.ref b1_0), .val (.int (5 : Int32)), .val (.int (2 : Int32)), .val (.ref a6)] [(.int (97 : Int32))])) _
    refine XS.iloadN X12.here hx rfl (hb hby d1_24) rfl ?_
    show Steps p.tables e below (T12.setTop (mkF m 25 #[.val (.int p1), .val (.ref b1_0), .val (.int (5 : Int32)), .val (.int (2 : Int32)), .val (.ref a6)] [(.int p1), (.int (97 : Int32))])) _
    refine XS.icmpYes X12.here hx rfl (pc0 := 25) (pc' := 34) rfl (hb hby d1_25) rfl (feq hc8).2 (by decide) (by decide) ?_
    show Steps p.tables e below (T12.setTop (mkF m 34 #[.val (.int p1), .val (.ref b1_0), .val (.int (5 : Int32)), .val (.int (2 : Int32)), .val (.ref a6)] [])) _
    refine XS.iinc X12.here hx rfl (hb hby d1_34) rfl (l' := #[.val (.int p1), .val (.ref b1_0), .val (.int (5 : Int32)), .val (.int (3 : Int32)), .val (.ref a6)]) rfl ?_
    show Steps p.tables e below (T12.setTop (mkF m 37 #[.val (.int p1), .val (.ref b1_0), .val (.int (5 : Int32)), .val (.int (3 : Int32)), .val (.ref a6)] [])) _
    refine XS.goto X12.here hx rfl (pc0 := 37) (pc' := 9) rfl (hb hby d1_37) (by decide) (by decide) ?_
    show Steps p.tables e below (T12.setTop (mkF m 9 #[.val (.int p1), .val (.ref b1_0), .val (.int (5 : Int32)), .val (.int (3 : Int32)), .val (.ref a6)] [])) _
    refine XS.iloadN X12.here hx rfl (hb hby d1_9) rfl ?_
    show Steps p.tables e below (T12.setTop (mkF m 10 #[.val (.int p1), .val (.ref b1_0), .val (.int (5 : Int32)), .val (.int (3 : Int32)), .val (.ref a6)] [(.int (3 : Int32))])) _
    refine XS.iloadN X12.here hx rfl (hb hby d1_10) rfl ?_
    show Steps p.tables e below (T12.setTop (mkF m 11 #[.val (.int p1), .val (.ref b1_0), .val (.int (5 : Int32)), .val (.int (3 : Int32)), .val (.ref a6)] [(.int (5 : Int32)), (.int (3 : Int32))])) _
    refine XS.icmpNo X12.here hx rfl (hb hby d1_11) rfl (tlt (by decide : (3 : Int32) < (5 : Int32))).2.1 ?_
    show Steps p.tables e below (T12.setTop (mkF m 14 #[.val (.int p1), .val (.ref b1_0), .val (.int (5 : Int32)), .val (.int (3 : Int32)), .val (.ref a6)] [])) _
    refine XS.aloadN X12.here hx rfl (hb hby d1_14) rfl rfl ?_
    show Steps p.tables e below (T12.setTop (mkF m 15 #[.val (.int p1), .val (.ref b1_0), .val (.int (5 : Int32)), .val (.int (3 : Int32)), .val (.ref a6)] [(.ref b1_0)])) _
    refine XS.iloadN X12.here hx rfl (hb hby d1_15) rfl ?_
    show Steps p.tables e below (T12.setTop (mkF m 16 #[.val (.int p1), .val (.ref b1_0), .val (.int (5 : Int32)), .val (.int (3 : Int32)), .val (.ref a6)] [(.int (3 : Int32)), (.ref b1_0)])) _
    refine X12.aaload hx (j := (3 : Int32)) (v := (.ref a7)) (by rw [e12]; exact Ar13.1) (State.isArrayOf_alike hZ.alike Ar13.2.1) rfl Ar13.2.2 hin13 hat13 (g := (mkF m 16 #[.val (.int p1), .val (.ref b1_0), .val (.int (5 : Int32)), .val (.int (3 : Int32)), .val (.ref a6)] [(.int (3 : Int32)), (.ref b1_0)])) rfl rfl (hb hby d1_16) _ ?_
    show Steps p.tables e below (T12.setTop (mkF m 17 #[.val (.int p1), .val (.ref b1_0), .val (.int (5 : Int32)), .val (.int (3 : Int32)), .val (.ref a6)] [(.ref a7)])) _
    refine XS.astore X12.here hx rfl (hb hby d1_17) rfl rfl (l' := #[.val (.int p1), .val (.ref b1_0), .val (.int (5 : Int32)), .val (.int (3 : Int32)), .val (.ref a7)]) rfl ?_
    show Steps p.tables e below (T12.setTop (mkF m 19 #[.val (.int p1), .val (.ref b1_0), .val (.int (5 : Int32)), .val (.int (3 : Int32)), .val (.ref a7)] [])) _
    refine XS.aload X12.here hx rfl (hb hby d1_19) rfl rfl ?_
    show Steps p.tables e below (T12.setTop (mkF m 21 #[.val (.int p1), .val (.ref b1_0), .val (.int (5 : Int32)), .val (.int (3 : Int32)), .val (.ref a7)] [(.ref a7)])) _
    refine st15 _ ?_
    show Steps p.tables e below (T15.setTop (mkF m 24 #[.val (.int p1), .val (.ref b1_0), .val (.int (5 : Int32)), .val (.int (3 : Int32)), .val (.ref a7)] [(.int (116 : Int32))])) _
    refine XS.iloadN X15.here hx rfl (hb hby d1_24) rfl ?_
    show Steps p.tables e below (T15.setTop (mkF m 25 #[.val (.int p1), .val (.ref b1_0), .val (.int (5 : Int32)), .val (.int (3 : Int32)), .val (.ref a7)] [(.int p1), (.int (116 : Int32))])) _
    refine XS.icmpYes X15.here hx rfl (pc0 := 25) (pc' := 34) rfl (hb hby d1_25) rfl (feq hc10).2 (by decide) (by decide) ?_
    show Steps p.tables e below (T15.setTop (mkF m 34 #[.val (.int p1), .val (.ref b1_0), .val (.int (5 : Int32)), .val (.int (3 : Int32)), .val (.ref a7)] [])) _
    refine XS.iinc X15.here hx rfl (hb hby d1_34) rfl (l' := #[.val (.int p1), .val (.ref b1_0), .val (.int (5 : Int32)), .val (.int (4 : Int32)), .val (.ref a7)]) rfl ?_
    show Steps p.tables e below (T15.setTop (mkF m 37 #[.val (.int p1), .val (.ref b1_0), .val (.int (5 : Int32)), .val (.int (4 : Int32)), .val (.ref a7)] [])) _
    refine XS.goto X15.here hx rfl (pc0 := 37) (pc' := 9) rfl (hb hby d1_37) (by decide) (by decide) ?_
    show Steps p.tables e below (T15.setTop (mkF m 9 #[.val (.int p1), .val (.ref b1_0), .val (.int (5 : Int32)), .val (.int (4 : Int32)), .val (.ref a7)] [])) _
    refine XS.iloadN X15.here hx rfl (hb hby d1_9) rfl ?_
    show Steps p.tables e below (T15.setTop (mkF m 10 #[.val (.int p1), .val (.ref b1_0), .val (.int (5 : Int32)), .val (.int (4 : Int32)), .val (.ref a7)] [(.int (4 : Int32))])) _
    refine XS.iloadN X15.here hx rfl (hb hby d1_10) rfl ?_
    show Steps p.tables e below (T15.setTop (mkF m 11 #[.val (.int p1), .val (.ref b1_0), .val (.int (5 : Int32)), .val (.int (4 : Int32)), .val (.ref a7)] [(.int (5 : Int32)), (.int (4 : Int32))])) _
    refine XS.icmpNo X15.here hx rfl (hb hby d1_11) rfl (tlt (by decide : (4 : Int32) < (5 : Int32))).2.1 ?_
    show Steps p.tables e below (T15.setTop (mkF m 14 #[.val (.int p1), .val (.ref b1_0), .val (.int (5 : Int32)), .val (.int (4 : Int32)), .val (.ref a7)] [])) _
    refine XS.aloadN X15.here hx rfl (hb hby d1_14) rfl rfl ?_
    show Steps p.tables e below (T15.setTop (mkF m 15 #[.val (.int p1), .val (.ref b1_0), .val (.int (5 : Int32)), .val (.int (4 : Int32)), .val (.ref a7)] [(.ref b1_0)])) _
    refine XS.iloadN X15.here hx rfl (hb hby d1_15) rfl ?_
    show Steps p.tables e below (T15.setTop (mkF m 16 #[.val (.int p1), .val (.ref b1_0), .val (.int (5 : Int32)), .val (.int (4 : Int32)), .val (.ref a7)] [(.int (4 : Int32)), (.ref b1_0)])) _
    refine X15.aaload hx (j := (4 : Int32)) (v := (.ref a8)) (by rw [e15]; exact Ar16.1) (State.isArrayOf_alike hZ.alike Ar16.2.1) rfl Ar16.2.2 hin16 hat16 (g := (mkF m 16 #[.val (.int p1), .val (.ref b1_0), .val (.int (5 : Int32)), .val (.int (4 : Int32)), .val (.ref a7)] [(.int (4 : Int32)), (.ref b1_0)])) rfl rfl (hb hby d1_16) _ ?_
    show Steps p.tables e below (T15.setTop (mkF m 17 #[.val (.int p1), .val (.ref b1_0), .val (.int (5 : Int32)), .val (.int (4 : Int32)), .val (.ref a7)] [(.ref a8)])) _
    refine XS.astore X15.here hx rfl (hb hby d1_17) rfl rfl (l' := #[.val (.int p1), .val (.ref b1_0), .val (.int (5 : Int32)), .val (.int (4 : Int32)), .val (.ref a8)]) rfl ?_
    show Steps p.tables e below (T15.setTop (mkF m 19 #[.val (.int p1), .val (.ref b1_0), .val (.int (5 : Int32)), .val (.int (4 : Int32)), .val (.ref a8)] [])) _
    refine XS.aload X15.here hx rfl (hb hby d1_19) rfl rfl ?_
    show Steps p.tables e below (T15.setTop (mkF m 21 #[.val (.int p1), .val (.ref b1_0), .val (.int (5 : Int32)), .val (.int (4 : Int32)), .val (.ref a8)] [(.ref a8)])) _
    refine st18 _ ?_
    show Steps p.tables e below (T18.setTop (mkF m 24 #[.val (.int p1), .val (.ref b1_0), .val (.int (5 : Int32)), .val (.int (4 : Int32)), .val (.ref a8)] [(.int (115 : Int32))])) _
    refine XS.iloadN X18.here hx rfl (hb hby d1_24) rfl ?_
    show Steps p.tables e below (T18.setTop (mkF m 25 #[.val (.int p1), .val (.ref b1_0), .val (.int (5 : Int32)), .val (.int (4 : Int32)), .val (.ref a8)] [(.int p1), (.int (115 : Int32))])) _
    refine XS.icmpNo X18.here hx rfl (hb hby d1_25) rfl (teq hc12).2 ?_
    show Steps p.tables e below (T18.setTop (mkF m 28 #[.val (.int p1), .val (.ref b1_0), .val (.int (5 : Int32)), .val (.int (4 : Int32)), .val (.ref a8)] [])) _
    refine XS.aload X18.here hx rfl (hb hby d1_28) rfl rfl ?_
    show Steps p.tables e below (T18.setTop (mkF m 30 #[.val (.int p1), .val (.ref b1_0), .val (.int (5 : Int32)), .val (.int (4 : Int32)), .val (.ref a8)] [(.ref a8)])) _
    refine st19 _ ?_
    show Steps p.tables e below (T19.setTop (mkF m 33 #[.val (.int p1), .val (.ref b1_0), .val (.int (5 : Int32)), .val (.int (4 : Int32)), .val (.ref a8)] [(.ref b19_0)])) _
    exact retOut X19 hx Bd.returns rfl (Or.inr (Or.inr (Or.inr (Or.inr ⟨rfl, rfl, rfl⟩)))) (hb hby d1_33) hr
  · show Q1_16 Z p1 a2 kc3 a4 a5 a6 a7 a8 h0 n0 _ T19.heap _
    exact ⟨b19_0, rfl, N19, KC20, sz0_b19_0, f19_0, f19_1⟩
theorem ef9_17 (m : MethodId) (p1 : Int32) : entryFrame m #[(.int p1)] 1 = mkF m 0 #[.val (.int p1)] [] := by first | (simp [entryFrame, mkF, argsToLocals, Value.category]; done) | rfl
def Q9_17 (Z : State) (p1 : Int32) (a2 : Addr) (h0 : Heap) (n0 : Nat) (v : Option Value) (h : Heap) (L : List Loc) : Prop := v = some (.ref a2) ∧ Fr n0 L ∧ h = h0
set_option maxRecDepth 65536 in
set_option maxHeartbeats 40000000 in
theorem rm9_17 (l : Launch) (Z : State) (a0 : Array Value) (hw : ∀ d ∈ tables_1, d.before a0 Z = true) (ws : List Jvm.Cond) (p1 : Int32) (a2 : Addr) (h0 : Heap) (n0 : Nat) (Z0 : n0 ≤ h0.size) (hc0 : ¬ (p1 = (114 : Int32))) (hc1 : ¬ (p1 = (111 : Int32))) (hc2 : ¬ (p1 = (97 : Int32))) (hc3 : ¬ (p1 = (116 : Int32))) (hc4 : p1 = (115 : Int32)) (S_WhoisQuery_Flag_SHORT : Sta Z h0 "com/example/delehat/delehat/protocols/whois/WhoisQuery$Flag" "SHORT" "Lcom/example/delehat/delehat/protocols/whois/WhoisQuery$Flag;" (.ref a2)) :
    MetFree l (⟨"com/example/delehat/delehat/protocols/whois/WhoisQueryOfPinLaw", "expected", "(C)Lcom/example/delehat/delehat/protocols/whois/WhoisQuery$Flag;"⟩ : MethodName) (head1 (Jvm.Cond.code (⟨"com/example/delehat/delehat/protocols/whois/WhoisQueryOfPinLaw", "expected", "(C)Lcom/example/delehat/delehat/protocols/whois/WhoisQuery$Flag;"⟩ : MethodName) method_2_code 1 (some (.object "com/example/delehat/delehat/protocols/whois/WhoisQuery$Flag")) :: ws) ({ frames := 0, cells := 0, slots := 0, locals := 0 } : Room)) (fun a U => a = #[(.int p1)] ∧ Z.Warmed39 U.vm ∧ U.heap = h0) (fun _ _ _ _ _ => True) (fun _ U o U' => ∃ v L, o = .returned v ∧ Q9_17 Z p1 a2 h0 n0 v U'.heap L ∧ FrameEnd U o U' L ({ frames := 0, cells := 0, slots := 0, locals := 0 } : Room).cells ({ frames := 0, cells := 0, slots := 0, locals := 0 } : Room).slots) := by
  refine MetFree.of_bodySF (plainFor_of_name pn_com_example_delehat_delehat_protocols_whois_WhoisQueryOfPinLaw) hisR ?_
  intro p e s m args below meth c s₁ Bd hml0 hP hK
  obtain ⟨rfl, hZ, hh⟩ := hP
  have hx := Bd.exec
  have hby := Bd.bytes
  have hml : c.maxLocals = 1 := hml0
  have hown : s.vm.findClass "com/example/delehat/delehat/protocols/whois/WhoisQueryOfPinLaw" = some m.cls := findClass_of_methodNamed Bd.named
  have hnm := (name_of_methodNamed Bd.named Bd.method).1
  have X0 : Stand p l e ({ frames := 0, cells := 0, slots := 0, locals := 0 } : Room) s m #[(.int p1)] below meth c s₁ [] 0 0 := Stand.of_body Bd
  have e0 : s₁.heap = h0 := by rw [← hh, Bd.state]; rfl
  have N0 := Fr.nil n0
  have pre0 : ∀ t, Steps p.tables e below (s₁.setTop (mkF m 0 #[.val (.int p1)] [])) t → Steps p.tables e below (s₁.setTop (entryFrame m #[(.int p1)] 1)) t := fun t k => castTop (ef9_17 m p1) k
  obtain ⟨T1, X1, e1, st1⟩ := getS2 X0 hx hZ hown (host := "") (Or.inl (own_w68 hw)) Via.refl e0 S_WhoisQuery_Flag_SHORT (g := (mkF m 46 #[.val (.int p1)] [])) rfl (hb hby d9_46)
  obtain ⟨fs, hr, hrun, hended, hW, hsame⟩ := X1.leave (v := some (.ref a2)) (fun h => by rw [Bd.returns] at h; cases h)
  refine ⟨_, _, pre0 _ ?_, hrun, hended, _, _, rfl, ?_, ⟨_, rfl⟩, hW, hsame.mono (by decide) (by decide)⟩
  · show Steps p.tables e below (s₁.setTop (mkF m 0 #[.val (.int p1)] [])) _
    refine XS.iloadN X0.here hx rfl (hb hby d9_0) rfl ?_
    show Steps p.tables e below (s₁.setTop (mkF m 1 #[.val (.int p1)] [(.int p1)])) _
    refine XS.bipush X0.here hx rfl (hb hby d9_1) ?_
    show Steps p.tables e below (s₁.setTop (mkF m 3 #[.val (.int p1)] [(.int (114 : Int32)), (.int p1)])) _
    refine XS.icmpYes X0.here hx rfl (pc0 := 3) (pc' := 10) rfl (hb hby d9_3) rfl (feq hc0).2 (by decide) (by decide) ?_
    show Steps p.tables e below (s₁.setTop (mkF m 10 #[.val (.int p1)] [])) _
    refine XS.iloadN X0.here hx rfl (hb hby d9_10) rfl ?_
    show Steps p.tables e below (s₁.setTop (mkF m 11 #[.val (.int p1)] [(.int p1)])) _
    refine XS.bipush X0.here hx rfl (hb hby d9_11) ?_
    show Steps p.tables e below (s₁.setTop (mkF m 13 #[.val (.int p1)] [(.int (111 : Int32)), (.int p1)])) _
    refine XS.icmpYes X0.here hx rfl (pc0 := 13) (pc' := 20) rfl (hb hby d9_13) rfl (feq hc1).2 (by decide) (by decide) ?_
    show Steps p.tables e below (s₁.setTop (mkF m 20 #[.val (.int p1)] [])) _
    refine XS.iloadN X0.here hx rfl (hb hby d9_20) rfl ?_
    show Steps p.tables e below (s₁.setTop (mkF m 21 #[.val (.int p1)] [(.int p1)])) _
    refine XS.bipush X0.here hx rfl (hb hby d9_21) ?_
    show Steps p.tables e below (s₁.setTop (mkF m 23 #[.val (.int p1)] [(.int (97 : Int32)), (.int p1)])) _
    refine XS.icmpYes X0.here hx rfl (pc0 := 23) (pc' := 30) rfl (hb hby d9_23) rfl (feq hc2).2 (by decide) (by decide) ?_
    show Steps p.tables e below (s₁.setTop (mkF m 30 #[.val (.int p1)] [])) _
    refine XS.iloadN X0.here hx rfl (hb hby d9_30) rfl ?_
    show Steps p.tables e below (s₁.setTop (mkF m 31 #[.val (.int p1)] [(.int p1)])) _
    refine XS.bipush X0.here hx rfl (hb hby d9_31) ?_
    show Steps p.tables e below (s₁.setTop (mkF m 33 #[.val (.int p1)] [(.int (116 : Int32)), (.int p1)])) _
    refine XS.icmpYes X0.here hx rfl (pc0 := 33) (pc' := 40) rfl (hb hby d9_33) rfl (feq hc3).2 (by decide) (by decide) ?_
    show Steps p.tables e below (s₁.setTop (mkF m 40 #[.val (.int p1)] [])) _
    refine XS.iloadN X0.here hx rfl (hb hby d9_40) rfl ?_
    show Steps p.tables e below (s₁.setTop (mkF m 41 #[.val (.int p1)] [(.int p1)])) _
    refine XS.bipush X0.here hx rfl (hb hby d9_41) ?_
    show Steps p.tables e below (s₁.setTop (mkF m 43 #[.val (.int p1)] [(.int (115 : Int32)), (.int p1)])) _
    refine XS.icmpNo X0.here hx rfl (hb hby d9_43) rfl (teq hc4).2 ?_
    show Steps p.tables e below (s₁.setTop (mkF m 46 #[.val (.int p1)] [])) _
    refine st1 _ ?_
    show Steps p.tables e below (T1.setTop (mkF m 49 #[.val (.int p1)] [(.ref a2)])) _
    exact retOut X1 hx Bd.returns rfl (Or.inr (Or.inr (Or.inr (Or.inr ⟨rfl, rfl, rfl⟩)))) (hb hby d9_49) hr
  · show Q9_17 Z p1 a2 h0 n0 _ T1.heap _
    rw [e1]
    exact ⟨rfl, N0, rfl⟩
theorem ef1_18 (m : MethodId) (p1 : Int32) : entryFrame m #[(.int p1)] 5 = mkF m 0 #[.val (.int p1), .unset, .unset, .unset, .unset] [] := by first | (simp [entryFrame, mkF, argsToLocals, Value.category]; done) | rfl
def Q1_18 (Z : State) (p1 : Int32) (a2 : Addr) (kc3 : ClassId) (a4 : Addr) (a5 : Addr) (a6 : Addr) (a7 : Addr) (a8 : Addr) (a9 : Addr) (h0 : Heap) (n0 : Nat) (v : Option Value) (h : Heap) (L : List Loc) : Prop := v = some (.ref a9) ∧ Fr n0 L ∧ Keep h0 h []
set_option maxRecDepth 65536 in
set_option maxHeartbeats 40000000 in
theorem rm1_18 (l : Launch) (Z : State) (a0 : Array Value) (hw : ∀ d ∈ tables_1, d.before a0 Z = true) (ws : List Jvm.Cond) (p1 : Int32) (a2 : Addr) (kc3 : ClassId) (a4 : Addr) (a5 : Addr) (a6 : Addr) (a7 : Addr) (a8 : Addr) (a9 : Addr) (h0 : Heap) (n0 : Nat) (Z0 : n0 ≤ h0.size) (S_WhoisQuery_Flag__VALUES : Sta Z h0 "com/example/delehat/delehat/protocols/whois/WhoisQuery$Flag" "$VALUES" "[Lcom/example/delehat/delehat/protocols/whois/WhoisQuery$Flag;" (.ref a2)) (E_a2 : Exa Z h0 a2 "[Lcom/example/delehat/delehat/protocols/whois/WhoisQuery$Flag;") (V_a2 : Arv Z h0 a2 kc3 (.object "com/example/delehat/delehat/protocols/whois/WhoisQuery$Flag") (5 : Int32) [(.ref a4), (.ref a5), (.ref a6), (.ref a7), (.ref a8)] .null) (F_a4_letter : Fld Z h0 a4 "com/example/delehat/delehat/protocols/whois/WhoisQuery$Flag" "letter" "C" (.int (114 : Int32))) (hc4 : ¬ ((114 : Int32) = p1)) (F_a5_letter : Fld Z h0 a5 "com/example/delehat/delehat/protocols/whois/WhoisQuery$Flag" "letter" "C" (.int (111 : Int32))) (hc6 : ¬ ((111 : Int32) = p1)) (F_a6_letter : Fld Z h0 a6 "com/example/delehat/delehat/protocols/whois/WhoisQuery$Flag" "letter" "C" (.int (97 : Int32))) (hc8 : ¬ ((97 : Int32) = p1)) (F_a7_letter : Fld Z h0 a7 "com/example/delehat/delehat/protocols/whois/WhoisQuery$Flag" "letter" "C" (.int (116 : Int32))) (hc10 : ¬ ((116 : Int32) = p1)) (F_a8_letter : Fld Z h0 a8 "com/example/delehat/delehat/protocols/whois/WhoisQuery$Flag" "letter" "C" (.int (115 : Int32))) (hc12 : ¬ ((115 : Int32) = p1)) (S_Optional_EMPTY : Sta Z h0 "java/util/Optional" "EMPTY" "Ljava/util/Optional;" (.ref a9)) :
    MetFree l (⟨"com/example/delehat/delehat/protocols/whois/WhoisQuery$Flag", "of", "(C)Ljava/util/Optional;"⟩ : MethodName) (head1 (Jvm.Cond.code (⟨"com/example/delehat/delehat/protocols/whois/WhoisQuery$Flag", "of", "(C)Ljava/util/Optional;"⟩ : MethodName) prog_93_method_4_code 5 (some (.object "java/util/Optional")) :: ws) ({ frames := 2, cells := 1, slots := 5, locals := 25 } : Room)) (fun a U => a = #[(.int p1)] ∧ Z.Warmed39 U.vm ∧ U.heap = h0) (fun _ _ _ _ _ => True) (fun _ U o U' => ∃ v L, o = .returned v ∧ Q1_18 Z p1 a2 kc3 a4 a5 a6 a7 a8 a9 h0 n0 v U'.heap L ∧ FrameEnd U o U' L ({ frames := 2, cells := 1, slots := 5, locals := 25 } : Room).cells ({ frames := 2, cells := 1, slots := 5, locals := 25 } : Room).slots) := by
  refine MetFree.of_bodySF (plainFor_of_name pn_com_example_delehat_delehat_protocols_whois_WhoisQuery_Flag) hisR ?_
  intro p e s m args below meth c s₁ Bd hml0 hP hK
  obtain ⟨rfl, hZ, hh⟩ := hP
  have hx := Bd.exec
  have hby := Bd.bytes
  have hml : c.maxLocals = 5 := hml0
  have hown : s.vm.findClass "com/example/delehat/delehat/protocols/whois/WhoisQuery$Flag" = some m.cls := findClass_of_methodNamed Bd.named
  have hnm := (name_of_methodNamed Bd.named Bd.method).1
  have X0 : Stand p l e ({ frames := 2, cells := 1, slots := 5, locals := 25 } : Room) s m #[(.int p1)] below meth c s₁ [] 0 0 := Stand.of_body Bd
  have e0 : s₁.heap = h0 := by rw [← hh, Bd.state]; rfl
  have N0 := Fr.nil n0
  have pre0 : ∀ t, Steps p.tables e below (s₁.setTop (mkF m 0 #[.val (.int p1), .unset, .unset, .unset, .unset] [])) t → Steps p.tables e below (s₁.setTop (entryFrame m #[(.int p1)] 5)) t := fun t k => castTop (ef1_18 m p1) k
  obtain ⟨_, _, ⟨T1, L1, k1, n1⟩, -, X1, ⟨Lc1, hQ1, l1, y1, z1⟩, st1⟩ := Jvm.LawKit.callS X0 hx (y := (⟨"com/example/delehat/delehat/protocols/whois/WhoisQuery$Flag", "values", "()[Lcom/example/delehat/delehat/protocols/whois/WhoisQuery$Flag;"⟩ : MethodName)) hown (mvT hZ (own_w5 hw)) (mvT hZ (own_w6 hw)) (mvT hZ (own_w3 hw)) (mvT hZ (own_w7 hw)) (by decide) (backOf (W := 0) (rm2_1 l Z a0 hw [] a2 kc3 a4 a5 a6 a7 a8 h0 n0 Z0 S_WhoisQuery_Flag__VALUES E_a2 V_a2) hZ (own_w7 hw) (own_w3 hw) (by decide) (by decide)) (g := (mkF m 0 #[.val (.int p1), .unset, .unset, .unset, .unset] [])) rfl (by rw [hml]; rfl) (argsL := []) (rest := []) (lenOf pd____Lcom_example_delehat_delehat_protocols_whois_WhoisQuery_Flag_ rfl) rfl (by show 2 * 0 + _ ≤ _; exact Nat.le_of_eq rfl) (hb hby d1_0) (fun _ _ => ⟨rfl, e0, (by decide : 0 + 1 ≤ _), (by decide : 0 + 5 ≤ _)⟩)
  dsimp only [Pt.U, Pt.locs, Pt.cells, Pt.slots] at X1 l1 y1 z1 st1 hQ1
  subst l1 y1 z1
  obtain ⟨b1_0, rfl, N1q, K1, sq1_0, f1_0, f1_1⟩ := hQ1
  have N1 := Fr.app N0 N1q
  have sz_b1_0 : h0.size ≤ b1_0 := sq1_0
  have sz0_b1_0 : h0.size ≤ b1_0 := sz_b1_0
  have g_b1_0 : n0 ≤ b1_0 := Nat.le_trans Z0 sz0_b1_0
  have KC2 : Keep h0 T1.heap [] := (Keep.refl h0 []).trans K1 all0
  obtain ⟨cl3, Ar3, -, Sz3, Ng3, -, -⟩ := id f1_0
  obtain ⟨cl4, Ar4, qk4, Sz4, Ng4, Ha4, Gf4⟩ := id f1_0
  have hin4 : ¬ ((0 : Int32) < 0 ∨ cl4.slots.size ≤ ((0 : Int32)).toNatClampNeg) := inb_of Sz4 ⟨by decide, by decide⟩
  have hat4 : cl4.slots[((0 : Int32)).toNatClampNeg]? = some (.ref a4) := Has.at Ha4 hin4 rfl
  have c5 := F_a4_letter.keep K1 nin0
  obtain ⟨T6, X6, e6, st6⟩ := getF X1 hx hZ hown (host := "") (Or.inl (own_w25 hw)) Via.refl rfl c5 (g := (mkF m 21 #[.val (.int p1), .val (.ref b1_0), .val (.int (5 : Int32)), .val (.int (0 : Int32)), .val (.ref a4)] [(.ref a4)])) rfl rfl (hb hby d1_21)
  obtain ⟨cl7, Ar7, qk7, Sz7, Ng7, Ha7, Gf7⟩ := id f1_0
  have hin7 : ¬ ((1 : Int32) < 0 ∨ cl7.slots.size ≤ ((1 : Int32)).toNatClampNeg) := inb_of Sz7 ⟨by decide, by decide⟩
  have hat7 : cl7.slots[((1 : Int32)).toNatClampNeg]? = some (.ref a5) := Has.at Ha7 hin7 rfl
  have c8 := F_a5_letter.keep K1 nin0
  obtain ⟨T9, X9, e9, st9⟩ := getF X6 hx hZ hown (host := "") (Or.inl (own_w25 hw)) Via.refl e6 c8 (g := (mkF m 21 #[.val (.int p1), .val (.ref b1_0), .val (.int (5 : Int32)), .val (.int (1 : Int32)), .val (.ref a5)] [(.ref a5)])) rfl rfl (hb hby d1_21)
  obtain ⟨cl10, Ar10, qk10, Sz10, Ng10, Ha10, Gf10⟩ := id f1_0
  have hin10 : ¬ ((2 : Int32) < 0 ∨ cl10.slots.size ≤ ((2 : Int32)).toNatClampNeg) := inb_of Sz10 ⟨by decide, by decide⟩
  have hat10 : cl10.slots[((2 : Int32)).toNatClampNeg]? = some (.ref a6) := Has.at Ha10 hin10 rfl
  have c11 := F_a6_letter.keep K1 nin0
  obtain ⟨T12, X12, e12, st12⟩ := getF X9 hx hZ hown (host := "") (Or.inl (own_w25 hw)) Via.refl e9 c11 (g := (mkF m 21 #[.val (.int p1), .val (.ref b1_0), .val (.int (5 : Int32)), .val (.int (2 : Int32)), .val (.ref a6)] [(.ref a6)])) rfl rfl (hb hby d1_21)
  obtain ⟨cl13, Ar13, qk13, Sz13, Ng13, Ha13, Gf13⟩ := id f1_0
  have hin13 : ¬ ((3 : Int32) < 0 ∨ cl13.slots.size ≤ ((3 : Int32)).toNatClampNeg) := inb_of Sz13 ⟨by decide, by decide⟩
  have hat13 : cl13.slots[((3 : Int32)).toNatClampNeg]? = some (.ref a7) := Has.at Ha13 hin13 rfl
  have c14 := F_a7_letter.keep K1 nin0
  obtain ⟨T15, X15, e15, st15⟩ := getF X12 hx hZ hown (host := "") (Or.inl (own_w25 hw)) Via.refl e12 c14 (g := (mkF m 21 #[.val (.int p1), .val (.ref b1_0), .val (.int (5 : Int32)), .val (.int (3 : Int32)), .val (.ref a7)] [(.ref a7)])) rfl rfl (hb hby d1_21)
  obtain ⟨cl16, Ar16, qk16, Sz16, Ng16, Ha16, Gf16⟩ := id f1_0
  have hin16 : ¬ ((4 : Int32) < 0 ∨ cl16.slots.size ≤ ((4 : Int32)).toNatClampNeg) := inb_of Sz16 ⟨by decide, by decide⟩
  have hat16 : cl16.slots[((4 : Int32)).toNatClampNeg]? = some (.ref a8) := Has.at Ha16 hin16 rfl
  have c17 := F_a8_letter.keep K1 nin0
  obtain ⟨T18, X18, e18, st18⟩ := getF X15 hx hZ hown (host := "") (Or.inl (own_w25 hw)) Via.refl e15 c17 (g := (mkF m 21 #[.val (.int p1), .val (.ref b1_0), .val (.int (5 : Int32)), .val (.int (4 : Int32)), .val (.ref a8)] [(.ref a8)])) rfl rfl (hb hby d1_21)
  have c19 := own_sta_keep S_Optional_EMPTY K1 own_ns0
  obtain ⟨_, _, ⟨T20, L20, k20, n20⟩, -, X20, ⟨Lc20, hQ20, l20, y20, z20⟩, st20⟩ := Jvm.LawKit.callS X18 hx (y := (⟨"java/util/Optional", "empty", "()Ljava/util/Optional;"⟩ : MethodName)) hown (mvT hZ (own_w64 hw)) (mvT hZ (own_w65 hw)) (mvT hZ (own_w29 hw)) (mvT hZ (own_w66 hw)) (by decide) (backOf (W := 0) (rm10_5 l Z a0 hw [] a9 T1.heap n0 (Nat.le_trans Z0 KC2.1) c19) hZ (own_w66 hw) (own_w29 hw) (by decide) (by decide)) (g := (mkF m 40 #[.val (.int p1), .val (.ref b1_0), .val (.int (5 : Int32)), .val (.int (5 : Int32)), .val (.ref a8)] [])) rfl (by rw [hml]; rfl) (argsL := []) (rest := []) (lenOf pd___Ljava_util_Optional_ rfl) rfl (by show 2 * 0 + _ ≤ _; exact Nat.le_of_eq rfl) (hb hby d1_40) (fun _ _ => ⟨rfl, e18, (by decide : 1 + 0 ≤ _), (by decide : 5 + 0 ≤ _)⟩)
  dsimp only [Pt.U, Pt.locs, Pt.cells, Pt.slots] at X20 l20 y20 z20 st20 hQ20
  subst l20 y20 z20
  obtain ⟨rfl, N20q, e20⟩ := hQ20
  have N20 := Fr.app N1 N20q
  obtain ⟨fs, hr, hrun, hended, hW, hsame⟩ := X20.leave (v := some (.ref a9)) (fun h => by rw [Bd.returns] at h; cases h)
  refine ⟨_, _, pre0 _ ?_, hrun, hended, _, _, rfl, ?_, ⟨_, rfl⟩, hW, hsame.mono (by decide) (by decide)⟩
  · show Steps p.tables e below (s₁.setTop (mkF m 0 #[.val (.int p1), .unset, .unset, .unset, .unset] [])) _
    refine st1 _ ?_
    show Steps p.tables e below (T1.setTop (mkF m 3 #[.val (.int p1), .unset, .unset, .unset, .unset] [(.ref b1_0)])) _
    refine XS.astoreN X1.here hx rfl (hb hby d1_3) rfl rfl (l' := #[.val (.int p1), .val (.ref b1_0), .unset, .unset, .unset]) rfl ?_
    show Steps p.tables e below (T1.setTop (mkF m 4 #[.val (.int p1), .val (.ref b1_0), .unset, .unset, .unset] [])) _
    refine XS.aloadN X1.here hx rfl (hb hby d1_4) rfl rfl ?_
    show Steps p.tables e below (T1.setTop (mkF m 5 #[.val (.int p1), .val (.ref b1_0), .unset, .unset, .unset] [(.ref b1_0)])) _
    refine X1.arraylength hx Ar3.1 (State.isArrayOf_alike hZ.alike Ar3.2.1) (g := (mkF m 5 #[.val (.int p1), .val (.ref b1_0), .unset, .unset, .unset] [(.ref b1_0)])) rfl rfl (hb hby d1_5) _ ?_
    rw [len_of Sz3 Ng3]
    show Steps p.tables e below (T1.setTop (mkF m 6 #[.val (.int p1), .val (.ref b1_0), .unset, .unset, .unset] [(.int (5 : Int32))])) _
    refine XS.istoreN X1.here hx rfl (hb hby d1_6) rfl (l' := #[.val (.int p1), .val (.ref b1_0), .val (.int (5 : Int32)), .unset, .unset]) rfl ?_
    show Steps p.tables e below (T1.setTop (mkF m 7 #[.val (.int p1), .val (.ref b1_0), .val (.int (5 : Int32)), .unset, .unset] [])) _
    refine XS.iconst X1.here hx rfl (hb hby d1_7) ?_
    show Steps p.tables e below (T1.setTop (mkF m 8 #[.val (.int p1), .val (.ref b1_0), .val (.int (5 : Int32)), .unset, .unset] [(.int (0 : Int32))])) _
    refine XS.istoreN X1.here hx rfl (hb hby d1_8) rfl (l' := #[.val (.int p1), .val (.ref b1_0), .val (.int (5 : Int32)), .val (.int (0 : Int32)), .unset]) rfl ?_
    show Steps p.tables e below (T1.setTop (mkF m 9 #[.val (.int p1), .val (.ref b1_0), .val (.int (5 : Int32)), .val (.int (0 : Int32)), .unset] [])) _
    refine XS.iloadN X1.here hx rfl (hb hby d1_9) rfl ?_
    show Steps p.tables e below (T1.setTop (mkF m 10 #[.val (.int p1), .val (.ref b1_0), .val (.int (5 : Int32)), .val (.int (0 : Int32)), .unset] [(.int (0 : Int32))])) _
    refine XS.iloadN X1.here hx rfl (hb hby d1_10) rfl ?_
    show Steps p.tables e below (T1.setTop (mkF m 11 #[.val (.int p1), .val (.ref b1_0), .val (.int (5 : Int32)), .val (.int (0 : Int32)), .unset] [(.int (5 : Int32)), (.int (0 : Int32))])) _
    refine XS.icmpNo X1.here hx rfl (hb hby d1_11) rfl (tlt (by decide : (0 : Int32) < (5 : Int32))).2.1 ?_
    show Steps p.tables e below (T1.setTop (mkF m 14 #[.val (.int p1), .val (.ref b1_0), .val (.int (5 : Int32)), .val (.int (0 : Int32)), .unset] [])) _
    refine XS.aloadN X1.here hx rfl (hb hby d1_14) rfl rfl ?_
    show Steps p.tables e below (T1.setTop (mkF m 15 #[.val (.int p1), .val (.ref b1_0), .val (.int (5 : Int32)), .val (.int (0 : Int32)), .unset] [(.ref b1_0)])) _
    refine XS.iloadN X1.here hx rfl (hb hby d1_15) rfl ?_
    show Steps p.tables e below (T1.setTop (mkF m 16 #[.val (.int p1), .val (.ref b1_0), .val (.int (5 : Int32)), .val (.int (0 : Int32)), .unset] [(.int (0 : Int32)), (.ref b1_0)])) _
    refine X1.aaload hx (j := (0 : Int32)) (v := (.ref a4)) Ar4.1 (State.isArrayOf_alike hZ.alike Ar4.2.1) rfl Ar4.2.2 hin4 hat4 (g := (mkF m 16 #[.val (.int p1), .val (.ref b1_0), .val (.int (5 : Int32)), .val (.int (0 : Int32)), .unset] [(.int (0 : Int32)), (.ref b1_0)])) rfl rfl (hb hby d1_16) _ ?_
    show Steps p.tables e below (T1.setTop (mkF m 17 #[.val (.int p1), .val (.ref b1_0), .val (.int (5 : Int32)), .val (.int (0 : Int32)), .unset] [(.ref a4)])) _
    refine XS.astore X1.here hx rfl (hb hby d1_17) rfl rfl (l' := #[.val (.int p1), .val (.ref b1_0), .val (.int (5 : Int32)), .val (.int (0 : Int32)), .val (.ref a4)]) rfl ?_
    show Steps p.tables e below (T1.setTop (mkF m 19 #[.val (.int p1), .val (.ref b1_0), .val (.int (5 : Int32)), .val (.int (0 : Int32)), .val (.ref a4)] [])) _
    refine XS.aload X1.here hx rfl (hb hby d1_19) rfl rfl ?_
    show Steps p.tables e below (T1.setTop (mkF m 21 #[.val (.int p1), .val (.ref b1_0), .val (.int (5 : Int32)), .val (.int (0 : Int32)), .val (.ref a4)] [(.ref a4)])) _
    refine st6 _ ?_
    show Steps p.tables e below (T6.setTop (mkF m 24 #[.val (.int p1), .val (.ref b1_0), .val (.int (5 : Int32)), .val (.int (0 : Int32)), .val (.ref a4)] [(.int (114 : Int32))])) _
    refine XS.iloadN X6.here hx rfl (hb hby d1_24) rfl ?_
    show Steps p.tables e below (T6.setTop (mkF m 25 #[.val (.int p1), .val (.ref b1_0), .val (.int (5 : Int32)), .val (.int (0 : Int32)), .val (.ref a4)] [(.int p1), (.int (114 : Int32))])) _
    refine XS.icmpYes X6.here hx rfl (pc0 := 25) (pc' := 34) rfl (hb hby d1_25) rfl (feq hc4).2 (by decide) (by decide) ?_
    show Steps p.tables e below (T6.setTop (mkF m 34 #[.val (.int p1), .val (.ref b1_0), .val (.int (5 : Int32)), .val (.int (0 : Int32)), .val (.ref a4)] [])) _
    refine XS.iinc X6.here hx rfl (hb hby d1_34) rfl (l' := #[.val (.int p1), .val (.ref b1_0), .val (.int (5 : Int32)), .val (.int (1 : Int32)), .val (.ref a4)]) rfl ?_
    show Steps p.tables e below (T6.setTop (mkF m 37 #[.val (.int p1), .val (.ref b1_0), .val (.int (5 : Int32)), .val (.int (1 : Int32)), .val (.ref a4)] [])) _
    refine XS.goto X6.here hx rfl (pc0 := 37) (pc' := 9) rfl (hb hby d1_37) (by decide) (by decide) ?_
    show Steps p.tables e below (T6.setTop (mkF m 9 #[.val (.int p1), .val (.ref b1_0), .val (.int (5 : Int32)), .val (.int (1 : Int32)), .val (.ref a4)] [])) _
    refine XS.iloadN X6.here hx rfl (hb hby d1_9) rfl ?_
    show Steps p.tables e below (T6.setTop (mkF m 10 #[.val (.int p1), .val (.ref b1_0), .val (.int (5 : Int32)), .val (.int (1 : Int32)), .val (.ref a4)] [(.int (1 : Int32))])) _
    refine XS.iloadN X6.here hx rfl (hb hby d1_10) rfl ?_
    show Steps p.tables e below (T6.setTop (mkF m 11 #[.val (.int p1), .val (.ref b1_0), .val (.int (5 : Int32)), .val (.int (1 : Int32)), .val (.ref a4)] [(.int (5 : Int32)), (.int (1 : Int32))])) _
    refine XS.icmpNo X6.here hx rfl (hb hby d1_11) rfl (tlt (by decide : (1 : Int32) < (5 : Int32))).2.1 ?_
    show Steps p.tables e below (T6.setTop (mkF m 14 #[.val (.int p1), .val (.ref b1_0), .val (.int (5 : Int32)), .val (.int (1 : Int32)), .val (.ref a4)] [])) _
    refine XS.aloadN X6.here hx rfl (hb hby d1_14) rfl rfl ?_
    show Steps p.tables e below (T6.setTop (mkF m 15 #[.val (.int p1), .val (.ref b1_0), .val (.int (5 : Int32)), .val (.int (1 : Int32)), .val (.ref a4)] [(.ref b1_0)])) _
    refine XS.iloadN X6.here hx rfl (hb hby d1_15) rfl ?_
    show Steps p.tables e below (T6.setTop (mkF m 16 #[.val (.int p1), .val (.ref b1_0), .val (.int (5 : Int32)), .val (.int (1 : Int32)), .val (.ref a4)] [(.int (1 : Int32)), (.ref b1_0)])) _
    refine X6.aaload hx (j := (1 : Int32)) (v := (.ref a5)) (by rw [e6]; exact Ar7.1) (State.isArrayOf_alike hZ.alike Ar7.2.1) rfl Ar7.2.2 hin7 hat7 (g := (mkF m 16 #[.val (.int p1), .val (.ref b1_0), .val (.int (5 : Int32)), .val (.int (1 : Int32)), .val (.ref a4)] [(.int (1 : Int32)), (.ref b1_0)])) rfl rfl (hb hby d1_16) _ ?_
    show Steps p.tables e below (T6.setTop (mkF m 17 #[.val (.int p1), .val (.ref b1_0), .val (.int (5 : Int32)), .val (.int (1 : Int32)), .val (.ref a4)] [(.ref a5)])) _
    refine XS.astore X6.here hx rfl (hb hby d1_17) rfl rfl (l' := #[.val (.int p1), .val (.ref b1_0), .val (.int (5 : Int32)), .val (.int (1 : Int32)), .val (.ref a5)]) rfl ?_
    show Steps p.tables e below (T6.setTop (mkF m 19 #[.val (.int p1), .val (.ref b1_0), .val (.int (5 : Int32)), .val (.int (1 : Int32)), .val (.ref a5)] [])) _
    refine XS.aload X6.here hx rfl (hb hby d1_19) rfl rfl ?_
    show Steps p.tables e below (T6.setTop (mkF m 21 #[.val (.int p1), .val (.ref b1_0), .val (.int (5 : Int32)), .val (.int (1 : Int32)), .val (.ref a5)] [(.ref a5)])) _
    refine st9 _ ?_
    show Steps p.tables e below (T9.setTop (mkF m 24 #[.val (.int p1), .val (.ref b1_0), .val (.int (5 : Int32)), .val (.int (1 : Int32)), .val (.ref a5)] [(.int (111 : Int32))])) _
    refine XS.iloadN X9.here hx rfl (hb hby d1_24) rfl ?_
    show Steps p.tables e below (T9.setTop (mkF m 25 #[.val (.int p1), .val (.ref b1_0), .val (.int (5 : Int32)), .val (.int (1 : Int32)), .val (.ref a5)] [(.int p1), (.int (111 : Int32))])) _
    refine XS.icmpYes X9.here hx rfl (pc0 := 25) (pc' := 34) rfl (hb hby d1_25) rfl (feq hc6).2 (by decide) (by decide) ?_
    show Steps p.tables e below (T9.setTop (mkF m 34 #[.val (.int p1), .val (.ref b1_0), .val (.int (5 : Int32)), .val (.int (1 : Int32)), .val (.ref a5)] [])) _
    refine XS.iinc X9.here hx rfl (hb hby d1_34) rfl (l' := #[.val (.int p1), .val (.ref b1_0), .val (.int (5 : Int32)), .val (.int (2 : Int32)), .val (.ref a5)]) rfl ?_
    show Steps p.tables e below (T9.setTop (mkF m 37 #[.val (.int p1), .val (.ref b1_0), .val (.int (5 : Int32)), .val (.int (2 : Int32)), .val (.ref a5)] [])) _
    refine XS.goto X9.here hx rfl (pc0 := 37) (pc' := 9) rfl (hb hby d1_37) (by decide) (by decide) ?_
    show Steps p.tables e below (T9.setTop (mkF m 9 #[.val (.int p1), .val (.ref b1_0), .val (.int (5 : Int32)), .val (.int (2 : Int32)), .val (.ref a5)] [])) _
    refine XS.iloadN X9.here hx rfl (hb hby d1_9) rfl ?_
    show Steps p.tables e below (T9.setTop (mkF m 10 #[.val (.int p1), .val (.ref b1_0), .val (.int (5 : Int32)), .val (.int (2 : Int32)), .val (.ref a5)] [(.int (2 : Int32))])) _
    refine XS.iloadN X9.here hx rfl (hb hby d1_10) rfl ?_
    show Steps p.tables e below (T9.setTop (mkF m 11 #[.val (.int p1), .val (.ref b1_0), .val (.int (5 : Int32)), .val (.int (2 : Int32)), .val (.ref a5)] [(.int (5 : Int32)), (.int (2 : Int32))])) _
    refine XS.icmpNo X9.here hx rfl (hb hby d1_11) rfl (tlt (by decide : (2 : Int32) < (5 : Int32))).2.1 ?_
    show Steps p.tables e below (T9.setTop (mkF m 14 #[.val (.int p1), .val (.ref b1_0), .val (.int (5 : Int32)), .val (.int (2 : Int32)), .val (.ref a5)] [])) _
    refine XS.aloadN X9.here hx rfl (hb hby d1_14) rfl rfl ?_
    show Steps p.tables e below (T9.setTop (mkF m 15 #[.val (.int p1), .val (.ref b1_0), .val (.int (5 : Int32)), .val (.int (2 : Int32)), .val (.ref a5)] [(.ref b1_0)])) _
    refine XS.iloadN X9.here hx rfl (hb hby d1_15) rfl ?_
    show Steps p.tables e below (T9.setTop (mkF m 16 #[.val (.int p1), .val (.ref b1_0), .val (.int (5 : Int32)), .val (.int (2 : Int32)), .val (.ref a5)] [(.int (2 : Int32)), (.ref b1_0)])) _
    refine X9.aaload hx (j := (2 : Int32)) (v := (.ref a6)) (by rw [e9]; exact Ar10.1) (State.isArrayOf_alike hZ.alike Ar10.2.1) rfl Ar10.2.2 hin10 hat10 (g := (mkF m 16 #[.val (.int p1), .val (.ref b1_0), .val (.int (5 : Int32)), .val (.int (2 : Int32)), .val (.ref a5)] [(.int (2 : Int32)), (.ref b1_0)])) rfl rfl (hb hby d1_16) _ ?_
    show Steps p.tables e below (T9.setTop (mkF m 17 #[.val (.int p1), .val (.ref b1_0), .val (.int (5 : Int32)), .val (.int (2 : Int32)), .val (.ref a5)] [(.ref a6)])) _
    refine XS.astore X9.here hx rfl (hb hby d1_17) rfl rfl (l' := #[.val (.int p1), .val (.ref b1_0), .val (.int (5 : Int32)), .val (.int (2 : Int32)), .val (.ref a6)]) rfl ?_
    show Steps p.tables e below (T9.setTop (mkF m 19 #[.val (.int p1), .val (.ref b1_0), .val (.int (5 : Int32)), .val (.int (2 : Int32)), .val (.ref a6)] [])) _
    refine XS.aload X9.here hx rfl (hb hby d1_19) rfl rfl ?_
    show Steps p.tables e below (T9.setTop (mkF m 21 #[.val (.int p1), .val (.ref b1_0), .val (.int (5 : Int32)), .val (.int (2 : Int32)), .val (.ref a6)] [(.ref a6)])) _
    refine st12 _ ?_
    show Steps p.tables e below (T12.setTop (mkF m 24 #[.val (.int p1), .val (.ref b1_0), .val (.int (5 : Int32)), .val (.int (2 : Int32)), .val (.ref a6)] [(.int (97 : Int32))])) _
    refine XS.iloadN X12.here hx rfl (hb hby d1_24) rfl ?_
    show Steps p.tables e below (T12.setTop (mkF m 25 #[.val (.int p1), .val (.ref b1_0), .val (.int (5 : Int32)), .val (.int (2 : Int32)), .val (.ref a6)] [(.int p1), (.int (97 : Int32))])) _
    refine XS.icmpYes X12.here hx rfl (pc0 := 25) (pc' := 34) rfl (hb hby d1_25) rfl (feq hc8).2 (by decide) (by decide) ?_
    show Steps p.tables e below (T12.setTop (mkF m 34 #[.val (.int p1), .val (.ref b1_0), .val (.int (5 : Int32)), .val (.int (2 : Int32)), .val (.ref a6)] [])) _
    refine XS.iinc X12.here hx rfl (hb hby d1_34) rfl (l' := #[.val (.int p1), .val (.ref b1_0), .val (.int (5 : Int32)), .val (.int (3 : Int32)), .val (.ref a6)]) rfl ?_
    show Steps p.tables e below (T12.setTop (mkF m 37 #[.val (.int p1), .val (.ref b1_0), .val (.int (5 : Int32)), .val (.int (3 : Int32)), .val (.ref a6)] [])) _
    refine XS.goto X12.here hx rfl (pc0 := 37) (pc' := 9) rfl (hb hby d1_37) (by decide) (by decide) ?_
    show Steps p.tables e below (T12.setTop (mkF m 9 #[.val (.int p1), .val (.ref b1_0), .val (.int (5 : Int32)), .val (.int (3 : Int32)), .val (.ref a6)] [])) _
    refine XS.iloadN X12.here hx rfl (hb hby d1_9) rfl ?_
    show Steps p.tables e below (T12.setTop (mkF m 10 #[.val (.int p1), .val (.ref b1_0), .val (.int (5 : Int32)), .val (.int (3 : Int32)), .val (.ref a6)] [(.int (3 : Int32))])) _
    refine XS.iloadN X12.here hx rfl (hb hby d1_10) rfl ?_
    show Steps p.tables e below (T12.setTop (mkF m 11 #[.val (.int p1), .val (.ref b1_0), .val (.int (5 : Int32)), .val (.int (3 : Int32)), .val (.ref a6)] [(.int (5 : Int32)), (.int (3 : Int32))])) _
    refine XS.icmpNo X12.here hx rfl (hb hby d1_11) rfl (tlt (by decide : (3 : Int32) < (5 : Int32))).2.1 ?_
    show Steps p.tables e below (T12.setTop (mkF m 14 #[.val (.int p1), .val (.ref b1_0), .val (.int (5 : Int32)), .val (.int (3 : Int32)), .val (.ref a6)] [])) _
    refine XS.aloadN X12.here hx rfl (hb hby d1_14) rfl rfl ?_
    show Steps p.tables e below (T12.setTop (mkF m 15 #[.val (.int p1), .val (.ref b1_0), .val (.int (5 : Int32)), .val (.int (3 : Int32)), .val (.ref a6)] [(.ref b1_0)])) _
    refine XS.iloadN X12.here hx rfl (hb hby d1_15) rfl ?_
    show Steps p.tables e below (T12.setTop (mkF m 16 #[.val (.int p1), .val (.ref b1_0), .val (.int (5 : Int32)), .val (.int (3 : Int32)), .val (.ref a6)] [(.int (3 : Int32)), (.ref b1_0)])) _
    refine X12.aaload hx (j := (3 : Int32)) (v := (.ref a7)) (by rw [e12]; exact Ar13.1) (State.isArrayOf_alike hZ.alike Ar13.2.1) rfl Ar13.2.2 hin13 hat13 (g := (mkF m 16 #[.val (.int p1), .val (.ref b1_0), .val (.int (5 : Int32)), .val (.int (3 : Int32)), .val (.ref a6)] [(.int (3 : Int32)), (.ref b1_0)])) rfl rfl (hb hby d1_16) _ ?_
    show Steps p.tables e below (T12.setTop (mkF m 17 #[.val (.int p1), .val (.ref b1_0), .val (.int (5 : Int32)), .val (.int (3 : Int32)), .val (.ref a6)] [(.ref a7)])) _
    refine XS.astore X12.here hx rfl (hb hby d1_17) rfl rfl (l' := #[.val (.int p1), .val (.ref b1_0), .val (.int (5 : Int32)), .val (.int (3 : Int32)), .val (.ref a7)]) rfl ?_
    show Steps p.tables e below (T12.setTop (mkF m 19 #[.val (.int p1), .val (.ref b1_0), .val (.int (5 : Int32)), .val (.int (3 : Int32)), .val (.ref a7)] [])) _
    refine XS.aload X12.here hx rfl (hb hby d1_19) rfl rfl ?_
    show Steps p.tables e below (T12.setTop (mkF m 21 #[.val (.int p1), .val (.ref b1_0), .val (.int (5 : Int32)), .val (.int (3 : Int32)), .val (.ref a7)] [(.ref a7)])) _
    refine st15 _ ?_
    show Steps p.tables e below (T15.setTop (mkF m 24 #[.val (.int p1), .val (.ref b1_0), .val (.int (5 : Int32)), .val (.int (3 : Int32)), .val (.ref a7)] [(.int (116 : Int32))])) _
    refine XS.iloadN X15.here hx rfl (hb hby d1_24) rfl ?_
    show Steps p.tables e below (T15.setTop (mkF m 25 #[.val (.int p1), .val (.ref b1_0), .val (.int (5 : Int32)), .val (.int (3 : Int32)), .val (.ref a7)] [(.int p1), (.int (116 : Int32))])) _
    refine XS.icmpYes X15.here hx rfl (pc0 := 25) (pc' := 34) rfl (hb hby d1_25) rfl (feq hc10).2 (by decide) (by decide) ?_
    show Steps p.tables e below (T15.setTop (mkF m 34 #[.val (.int p1), .val (.ref b1_0), .val (.int (5 : Int32)), .val (.int (3 : Int32)), .val (.ref a7)] [])) _
    refine XS.iinc X15.here hx rfl (hb hby d1_34) rfl (l' := #[.val (.int p1), .val (.ref b1_0), .val (.int (5 : Int32)), .val (.int (4 : Int32)), .val (.ref a7)]) rfl ?_
    show Steps p.tables e below (T15.setTop (mkF m 37 #[.val (.int p1), .val (.ref b1_0), .val (.int (5 : Int32)), .val (.int (4 : Int32)), .val (.ref a7)] [])) _
    refine XS.goto X15.here hx rfl (pc0 := 37) (pc' := 9) rfl (hb hby d1_37) (by decide) (by decide) ?_
    show Steps p.tables e below (T15.setTop (mkF m 9 #[.val (.int p1), .val (.ref b1_0), .val (.int (5 : Int32)), .val (.int (4 : Int32)), .val (.ref a7)] [])) _
    refine XS.iloadN X15.here hx rfl (hb hby d1_9) rfl ?_
    show Steps p.tables e below (T15.setTop (mkF m 10 #[.val (.int p1), .val (.ref b1_0), .val (.int (5 : Int32)), .val (.int (4 : Int32)), .val (.ref a7)] [(.int (4 : Int32))])) _
    refine XS.iloadN X15.here hx rfl (hb hby d1_10) rfl ?_
    show Steps p.tables e below (T15.setTop (mkF m 11 #[.val (.int p1), .val (.ref b1_0), .val (.int (5 : Int32)), .val (.int (4 : Int32)), .val (.ref a7)] [(.int (5 : Int32)), (.int (4 : Int32))])) _
    refine XS.icmpNo X15.here hx rfl (hb hby d1_11) rfl (tlt (by decide : (4 : Int32) < (5 : Int32))).2.1 ?_
    show Steps p.tables e below (T15.setTop (mkF m 14 #[.val (.int p1), .val (.ref b1_0), .val (.int (5 : Int32)), .val (.int (4 : Int32)), .val (.ref a7)] [])) _
    refine XS.aloadN X15.here hx rfl (hb hby d1_14) rfl rfl ?_
    show Steps p.tables e below (T15.setTop (mkF m 15 #[.val (.int p1), .val (.ref b1_0), .val (.int (5 : Int32)), .val (.int (4 : Int32)), .val (.ref a7)] [(.ref b1_0)])) _
    refine XS.iloadN X15.here hx rfl (hb hby d1_15) rfl ?_
    show Steps p.tables e below (T15.setTop (mkF m 16 #[.val (.int p1), .val (.ref b1_0), .val (.int (5 : Int32)), .val (.int (4 : Int32)), .val (.ref a7)] [(.int (4 : Int32)), (.ref b1_0)])) _
    refine X15.aaload hx (j := (4 : Int32)) (v := (.ref a8)) (by rw [e15]; exact Ar16.1) (State.isArrayOf_alike hZ.alike Ar16.2.1) rfl Ar16.2.2 hin16 hat16 (g := (mkF m 16 #[.val (.int p1), .val (.ref b1_0), .val (.int (5 : Int32)), .val (.int (4 : Int32)), .val (.ref a7)] [(.int (4 : Int32)), (.ref b1_0)])) rfl rfl (hb hby d1_16) _ ?_
    show Steps p.tables e below (T15.setTop (mkF m 17 #[.val (.int p1), .val (.ref b1_0), .val (.int (5 : Int32)), .val (.int (4 : Int32)), .val (.ref a7)] [(.ref a8)])) _
    refine XS.astore X15.here hx rfl (hb hby d1_17) rfl rfl (l' := #[.val (.int p1), .val (.ref b1_0), .val (.int (5 : Int32)), .val (.int (4 : Int32)), .val (.ref a8)]) rfl ?_
    show Steps p.tables e below (T15.setTop (mkF m 19 #[.val (.int p1), .val (.ref b1_0), .val (.int (5 : Int32)), .val (.int (4 : Int32)), .val (.ref a8)] [])) _
    refine XS.aload X15.here hx rfl (hb hby d1_19) rfl rfl ?_
    show Steps p.tables e below (T15.setTop (mkF m 21 #[.val (.int p1), .val (.ref b1_0), .val (.int (5 : Int32)), .val (.int (4 : Int32)), .val (.ref a8)] [(.ref a8)])) _
    refine st18 _ ?_
    show Steps p.tables e below (T18.setTop (mkF m 24 #[.val (.int p1), .val (.ref b1_0), .val (.int (5 : Int32)), .val (.int (4 : Int32)), .val (.ref a8)] [(.int (115 : Int32))])) _
    refine XS.iloadN X18.here hx rfl (hb hby d1_24) rfl ?_
    show Steps p.tables e below (T18.setTop (mkF m 25 #[.val (.int p1), .val (.ref b1_0), .val (.int (5 : Int32)), .val (.int (4 : Int32)), .val (.ref a8)] [(.int p1), (.int (115 : Int32))])) _
    refine XS.icmpYes X18.here hx rfl (pc0 := 25) (pc' := 34) rfl (hb hby d1_25) rfl (feq hc12).2 (by decide) (by decide) ?_
    show Steps p.tables e below (T18.setTop (mkF m 34 #[.val (.int p1), .val (.ref b1_0), .val (.int (5 : Int32)), .val (.int (4 : Int32)), .val (.ref a8)] [])) _
    refine XS.iinc X18.here hx rfl (hb hby d1_34) rfl (l' := #[.val (.int p1), .val (.ref b1_0), .val (.int (5 : Int32)), .val (.int (5 : Int32)), .val (.ref a8)]) rfl ?_
    show Steps p.tables e below (T18.setTop (mkF m 37 #[.val (.int p1), .val (.ref b1_0), .val (.int (5 : Int32)), .val (.int (5 : Int32)), .val (.ref a8)] [])) _
    refine XS.goto X18.here hx rfl (pc0 := 37) (pc' := 9) rfl (hb hby d1_37) (by decide) (by decide) ?_
    show Steps p.tables e below (T18.setTop (mkF m 9 #[.val (.int p1), .val (.ref b1_0), .val (.int (5 : Int32)), .val (.int (5 : Int32)), .val (.ref a8)] [])) _
    refine XS.iloadN X18.here hx rfl (hb hby d1_9) rfl ?_
    show Steps p.tables e below (T18.setTop (mkF m 10 #[.val (.int p1), .val (.ref b1_0), .val (.int (5 : Int32)), .val (.int (5 : Int32)), .val (.ref a8)] [(.int (5 : Int32))])) _
    refine XS.iloadN X18.here hx rfl (hb hby d1_10) rfl ?_
    show Steps p.tables e below (T18.setTop (mkF m 11 #[.val (.int p1), .val (.ref b1_0), .val (.int (5 : Int32)), .val (.int (5 : Int32)), .val (.ref a8)] [(.int (5 : Int32)), (.int (5 : Int32))])) _
    refine XS.icmpYes X18.here hx rfl (pc0 := 11) (pc' := 40) rfl (hb hby d1_11) rfl (flt (by decide : ¬ ((5 : Int32) < (5 : Int32)))).2.1 (by decide) (by decide) ?_
    show Steps p.tables e below (T18.setTop (mkF m 40 #[.val (.int p1), .val (.ref b1_0), .val (.int (5 : Int32)), .val (.int (5 : Int32)), .val (.ref a8)] [])) _
    refine st20 _ ?_
    show Steps p.tables e below (T20.setTop (mkF m 43 #[.val (.int p1), .val (.ref b1_0), .val (.int (5 : Int32)), .val (.int (5 : Int32)), .val (.ref a8)] [(.ref a9)])) _
    exact retOut X20 hx Bd.returns rfl (Or.inr (Or.inr (Or.inr (Or.inr ⟨rfl, rfl, rfl⟩)))) (hb hby d1_43) hr
  · show Q1_18 Z p1 a2 kc3 a4 a5 a6 a7 a8 a9 h0 n0 _ T20.heap _
    rw [e20]
    exact ⟨rfl, N20, KC2⟩
theorem ef7_19 (m : MethodId) (a1 : Addr) : entryFrame m #[(.ref a1)] 1 = mkF m 0 #[.val (.ref a1)] [] := by first | (simp [entryFrame, mkF, argsToLocals, Value.category]; done) | rfl
def Q7_19 (Z : State) (a1 : Addr) (h0 : Heap) (n0 : Nat) (v : Option Value) (h : Heap) (L : List Loc) : Prop := v = some (.int (0 : Int32)) ∧ Fr n0 L ∧ h = h0
set_option maxRecDepth 65536 in
set_option maxHeartbeats 40000000 in
theorem rm7_19 (l : Launch) (Z : State) (a0 : Array Value) (hw : ∀ d ∈ tables_1, d.before a0 Z = true) (ws : List Jvm.Cond) (a1 : Addr) (h0 : Heap) (n0 : Nat) (Z0 : n0 ≤ h0.size) (F_a1_value : Fld Z h0 a1 "java/util/Optional" "value" "Ljava/lang/Object;" .null) :
    MetFree l (⟨"java/util/Optional", "isPresent", "()Z"⟩ : MethodName) (head1 (Jvm.Cond.code (⟨"java/util/Optional", "isPresent", "()Z"⟩ : MethodName) jdk_32_method_6_code 1 (some .boolean) :: ws) ({ frames := 0, cells := 0, slots := 0, locals := 0 } : Room)) (fun a U => a = #[(.ref a1)] ∧ Z.Warmed39 U.vm ∧ U.heap = h0) (fun _ _ _ _ _ => True) (fun _ U o U' => ∃ v L, o = .returned v ∧ Q7_19 Z a1 h0 n0 v U'.heap L ∧ FrameEnd U o U' L ({ frames := 0, cells := 0, slots := 0, locals := 0 } : Room).cells ({ frames := 0, cells := 0, slots := 0, locals := 0 } : Room).slots) := by
  refine MetFree.of_bodySF (plainFor_of_name pn_java_util_Optional) hisR ?_
  intro p e s m args below meth c s₁ Bd hml0 hP hK
  obtain ⟨rfl, hZ, hh⟩ := hP
  have hx := Bd.exec
  have hby := Bd.bytes
  have hml : c.maxLocals = 1 := hml0
  have hown : s.vm.findClass "java/util/Optional" = some m.cls := findClass_of_methodNamed Bd.named
  have hnm := (name_of_methodNamed Bd.named Bd.method).1
  have X0 : Stand p l e ({ frames := 0, cells := 0, slots := 0, locals := 0 } : Room) s m #[(.ref a1)] below meth c s₁ [] 0 0 := Stand.of_body Bd
  have e0 : s₁.heap = h0 := by rw [← hh, Bd.state]; rfl
  have N0 := Fr.nil n0
  have pre0 : ∀ t, Steps p.tables e below (s₁.setTop (mkF m 0 #[.val (.ref a1)] [])) t → Steps p.tables e below (s₁.setTop (entryFrame m #[(.ref a1)] 1)) t := fun t k => castTop (ef7_19 m a1) k
  obtain ⟨T1, X1, e1, st1⟩ := getF X0 hx hZ hown (host := "") (Or.inl (own_w44 hw)) Via.refl e0 F_a1_value (g := (mkF m 1 #[.val (.ref a1)] [(.ref a1)])) rfl rfl (hb hby d7_1)
  obtain ⟨fs, hr, hrun, hended, hW, hsame⟩ := X1.leave (v := some (.int (0 : Int32))) (fun h => by rw [Bd.returns] at h; cases h)
  refine ⟨_, _, pre0 _ ?_, hrun, hended, _, _, rfl, ?_, ⟨_, rfl⟩, hW, hsame.mono (by decide) (by decide)⟩
  · show Steps p.tables e below (s₁.setTop (mkF m 0 #[.val (.ref a1)] [])) _
    refine XS.aloadN X0.here hx rfl (hb hby d7_0) rfl rfl ?_
    show Steps p.tables e below (s₁.setTop (mkF m 1 #[.val (.ref a1)] [(.ref a1)])) _
    refine st1 _ ?_
    show Steps p.tables e below (T1.setTop (mkF m 4 #[.val (.ref a1)] [.null])) _
    refine XS.ifnullYes X1.here hx rfl (pc0 := 4) (pc' := 11) rfl (hb hby d7_4) rfl (by decide) (by decide) ?_
    show Steps p.tables e below (T1.setTop (mkF m 11 #[.val (.ref a1)] [])) _
    refine XS.iconst X1.here hx rfl (hb hby d7_11) ?_
    show Steps p.tables e below (T1.setTop (mkF m 12 #[.val (.ref a1)] [(.int (0 : Int32))])) _
    exact retN X1 hx (t := .boolean) Bd.returns (by simp) (hb hby d7_12) hr
  · show Q7_19 Z a1 h0 n0 _ T1.heap _
    rw [e1]
    exact ⟨rfl, N0, rfl⟩
theorem ef9_20 (m : MethodId) (p1 : Int32) : entryFrame m #[(.int p1)] 1 = mkF m 0 #[.val (.int p1)] [] := by first | (simp [entryFrame, mkF, argsToLocals, Value.category]; done) | rfl
def Q9_20 (Z : State) (p1 : Int32) (h0 : Heap) (n0 : Nat) (v : Option Value) (h : Heap) (L : List Loc) : Prop := v = some .null ∧ Fr n0 L ∧ h = h0
set_option maxRecDepth 65536 in
set_option maxHeartbeats 40000000 in
theorem rm9_20 (l : Launch) (Z : State) (a0 : Array Value) (hw : ∀ d ∈ tables_1, d.before a0 Z = true) (ws : List Jvm.Cond) (p1 : Int32) (h0 : Heap) (n0 : Nat) (Z0 : n0 ≤ h0.size) (hc0 : ¬ (p1 = (114 : Int32))) (hc1 : ¬ (p1 = (111 : Int32))) (hc2 : ¬ (p1 = (97 : Int32))) (hc3 : ¬ (p1 = (116 : Int32))) (hc4 : ¬ (p1 = (115 : Int32))) :
    MetFree l (⟨"com/example/delehat/delehat/protocols/whois/WhoisQueryOfPinLaw", "expected", "(C)Lcom/example/delehat/delehat/protocols/whois/WhoisQuery$Flag;"⟩ : MethodName) (head1 (Jvm.Cond.code (⟨"com/example/delehat/delehat/protocols/whois/WhoisQueryOfPinLaw", "expected", "(C)Lcom/example/delehat/delehat/protocols/whois/WhoisQuery$Flag;"⟩ : MethodName) method_2_code 1 (some (.object "com/example/delehat/delehat/protocols/whois/WhoisQuery$Flag")) :: ws) ({ frames := 0, cells := 0, slots := 0, locals := 0 } : Room)) (fun a U => a = #[(.int p1)] ∧ Z.Warmed39 U.vm ∧ U.heap = h0) (fun _ _ _ _ _ => True) (fun _ U o U' => ∃ v L, o = .returned v ∧ Q9_20 Z p1 h0 n0 v U'.heap L ∧ FrameEnd U o U' L ({ frames := 0, cells := 0, slots := 0, locals := 0 } : Room).cells ({ frames := 0, cells := 0, slots := 0, locals := 0 } : Room).slots) := by
  refine MetFree.of_bodySF (plainFor_of_name pn_com_example_delehat_delehat_protocols_whois_WhoisQueryOfPinLaw) hisR ?_
  intro p e s m args below meth c s₁ Bd hml0 hP hK
  obtain ⟨rfl, hZ, hh⟩ := hP
  have hx := Bd.exec
  have hby := Bd.bytes
  have hml : c.maxLocals = 1 := hml0
  have hown : s.vm.findClass "com/example/delehat/delehat/protocols/whois/WhoisQueryOfPinLaw" = some m.cls := findClass_of_methodNamed Bd.named
  have hnm := (name_of_methodNamed Bd.named Bd.method).1
  have X0 : Stand p l e ({ frames := 0, cells := 0, slots := 0, locals := 0 } : Room) s m #[(.int p1)] below meth c s₁ [] 0 0 := Stand.of_body Bd
  have e0 : s₁.heap = h0 := by rw [← hh, Bd.state]; rfl
  have N0 := Fr.nil n0
  have pre0 : ∀ t, Steps p.tables e below (s₁.setTop (mkF m 0 #[.val (.int p1)] [])) t → Steps p.tables e below (s₁.setTop (entryFrame m #[(.int p1)] 1)) t := fun t k => castTop (ef9_20 m p1) k
  obtain ⟨fs, hr, hrun, hended, hW, hsame⟩ := X0.leave (v := some .null) (fun h => by rw [Bd.returns] at h; cases h)
  refine ⟨_, _, pre0 _ ?_, hrun, hended, _, _, rfl, ?_, ⟨_, rfl⟩, hW, hsame.mono (by decide) (by decide)⟩
  · show Steps p.tables e below (s₁.setTop (mkF m 0 #[.val (.int p1)] [])) _
    refine XS.iloadN X0.here hx rfl (hb hby d9_0) rfl ?_
    show Steps p.tables e below (s₁.setTop (mkF m 1 #[.val (.int p1)] [(.int p1)])) _
    refine XS.bipush X0.here hx rfl (hb hby d9_1) ?_
    show Steps p.tables e below (s₁.setTop (mkF m 3 #[.val (.int p1)] [(.int (114 : Int32)), (.int p1)])) _
    refine XS.icmpYes X0.here hx rfl (pc0 := 3) (pc' := 10) rfl (hb hby d9_3) rfl (feq hc0).2 (by decide) (by decide) ?_
    show Steps p.tables e below (s₁.setTop (mkF m 10 #[.val (.int p1)] [])) _
    refine XS.iloadN X0.here hx rfl (hb hby d9_10) rfl ?_
    show Steps p.tables e below (s₁.setTop (mkF m 11 #[.val (.int p1)] [(.int p1)])) _
    refine XS.bipush X0.here hx rfl (hb hby d9_11) ?_
    show Steps p.tables e below (s₁.setTop (mkF m 13 #[.val (.int p1)] [(.int (111 : Int32)), (.int p1)])) _
    refine XS.icmpYes X0.here hx rfl (pc0 := 13) (pc' := 20) rfl (hb hby d9_13) rfl (feq hc1).2 (by decide) (by decide) ?_
    show Steps p.tables e below (s₁.setTop (mkF m 20 #[.val (.int p1)] [])) _
    refine XS.iloadN X0.here hx rfl (hb hby d9_20) rfl ?_
    show Steps p.tables e below (s₁.setTop (mkF m 21 #[.val (.int p1)] [(.int p1)])) _
    refine XS.bipush X0.here hx rfl (hb hby d9_21) ?_
    show Steps p.tables e below (s₁.setTop (mkF m 23 #[.val (.int p1)] [(.int (97 : Int32)), (.int p1)])) _
    refine XS.icmpYes X0.here hx rfl (pc0 := 23) (pc' := 30) rfl (hb hby d9_23) rfl (feq hc2).2 (by decide) (by decide) ?_
    show Steps p.tables e below (s₁.setTop (mkF m 30 #[.val (.int p1)] [])) _
    refine XS.iloadN X0.here hx rfl (hb hby d9_30) rfl ?_
    show Steps p.tables e below (s₁.setTop (mkF m 31 #[.val (.int p1)] [(.int p1)])) _
    refine XS.bipush X0.here hx rfl (hb hby d9_31) ?_
    show Steps p.tables e below (s₁.setTop (mkF m 33 #[.val (.int p1)] [(.int (116 : Int32)), (.int p1)])) _
    refine XS.icmpYes X0.here hx rfl (pc0 := 33) (pc' := 40) rfl (hb hby d9_33) rfl (feq hc3).2 (by decide) (by decide) ?_
    show Steps p.tables e below (s₁.setTop (mkF m 40 #[.val (.int p1)] [])) _
    refine XS.iloadN X0.here hx rfl (hb hby d9_40) rfl ?_
    show Steps p.tables e below (s₁.setTop (mkF m 41 #[.val (.int p1)] [(.int p1)])) _
    refine XS.bipush X0.here hx rfl (hb hby d9_41) ?_
    show Steps p.tables e below (s₁.setTop (mkF m 43 #[.val (.int p1)] [(.int (115 : Int32)), (.int p1)])) _
    refine XS.icmpYes X0.here hx rfl (pc0 := 43) (pc' := 50) rfl (hb hby d9_43) rfl (feq hc4).2 (by decide) (by decide) ?_
    show Steps p.tables e below (s₁.setTop (mkF m 50 #[.val (.int p1)] [])) _
    refine XS.aconstNull X0.here hx rfl (hb hby d9_50) ?_
    show Steps p.tables e below (s₁.setTop (mkF m 51 #[.val (.int p1)] [.null])) _
    exact retOut X0 hx Bd.returns rfl (Or.inr (Or.inr (Or.inr (Or.inr ⟨rfl, rfl, rfl⟩)))) (hb hby d9_51) hr
  · show Q9_20 Z p1 h0 n0 _ s₁.heap _
    rw [e0]
    exact ⟨rfl, N0, rfl⟩
theorem ef0 (m : MethodId) (i0 : Int32) (i1 : Int32) : entryFrame m #[(.int i0), (.int i1)] maxLocals = mkF m 0 #[.val (.int i0), .val (.int i1), .unset, .unset, .unset] [] := by first | (simp [entryFrame, mkF, argsToLocals, Value.category, maxLocals]; done) | rfl
set_option maxRecDepth 65536 in
set_option maxHeartbeats 400000000 in
theorem rm0 (l : Launch) (Z : State) (a0 : Array Value) (hw : ∀ d ∈ tables_1, d.before a0 Z = true) (ws : List Jvm.Cond) (i0 : Int32) (i1 : Int32) (o__VALUES : Addr) (o_REGISTRAR : Addr) (o_REGISTRANT : Addr) (o_ADMIN : Addr) (o_TECH : Addr) (o_SHORT : Addr) (o_EMPTY : Addr) (kc_o__VALUES : ClassId) (h0 : Heap) (n0 : Nat) (Z0 : n0 ≤ h0.size) (S_o__VALUES : Sta Z h0 "com/example/delehat/delehat/protocols/whois/WhoisQuery$Flag" "$VALUES" "[Lcom/example/delehat/delehat/protocols/whois/WhoisQuery$Flag;" (.ref o__VALUES)) (E_o__VALUES : Exa Z h0 o__VALUES "[Lcom/example/delehat/delehat/protocols/whois/WhoisQuery$Flag;") (S_o_REGISTRAR : Sta Z h0 "com/example/delehat/delehat/protocols/whois/WhoisQuery$Flag" "REGISTRAR" "Lcom/example/delehat/delehat/protocols/whois/WhoisQuery$Flag;" (.ref o_REGISTRAR)) (E_o_REGISTRAR : Exa Z h0 o_REGISTRAR "com/example/delehat/delehat/protocols/whois/WhoisQuery$Flag") (S_o_REGISTRANT : Sta Z h0 "com/example/delehat/delehat/protocols/whois/WhoisQuery$Flag" "REGISTRANT" "Lcom/example/delehat/delehat/protocols/whois/WhoisQuery$Flag;" (.ref o_REGISTRANT)) (E_o_REGISTRANT : Exa Z h0 o_REGISTRANT "com/example/delehat/delehat/protocols/whois/WhoisQuery$Flag") (S_o_ADMIN : Sta Z h0 "com/example/delehat/delehat/protocols/whois/WhoisQuery$Flag" "ADMIN" "Lcom/example/delehat/delehat/protocols/whois/WhoisQuery$Flag;" (.ref o_ADMIN)) (E_o_ADMIN : Exa Z h0 o_ADMIN "com/example/delehat/delehat/protocols/whois/WhoisQuery$Flag") (S_o_TECH : Sta Z h0 "com/example/delehat/delehat/protocols/whois/WhoisQuery$Flag" "TECH" "Lcom/example/delehat/delehat/protocols/whois/WhoisQuery$Flag;" (.ref o_TECH)) (E_o_TECH : Exa Z h0 o_TECH "com/example/delehat/delehat/protocols/whois/WhoisQuery$Flag") (S_o_SHORT : Sta Z h0 "com/example/delehat/delehat/protocols/whois/WhoisQuery$Flag" "SHORT" "Lcom/example/delehat/delehat/protocols/whois/WhoisQuery$Flag;" (.ref o_SHORT)) (E_o_SHORT : Exa Z h0 o_SHORT "com/example/delehat/delehat/protocols/whois/WhoisQuery$Flag") (S_o_EMPTY : Sta Z h0 "java/util/Optional" "EMPTY" "Ljava/util/Optional;" (.ref o_EMPTY)) (E_o_EMPTY : Exa Z h0 o_EMPTY "java/util/Optional") (F_o_REGISTRAR_letter : Fld Z h0 o_REGISTRAR "com/example/delehat/delehat/protocols/whois/WhoisQuery$Flag" "letter" "C" (.int (114 : Int32))) (F_o_REGISTRANT_letter : Fld Z h0 o_REGISTRANT "com/example/delehat/delehat/protocols/whois/WhoisQuery$Flag" "letter" "C" (.int (111 : Int32))) (F_o_ADMIN_letter : Fld Z h0 o_ADMIN "com/example/delehat/delehat/protocols/whois/WhoisQuery$Flag" "letter" "C" (.int (97 : Int32))) (F_o_TECH_letter : Fld Z h0 o_TECH "com/example/delehat/delehat/protocols/whois/WhoisQuery$Flag" "letter" "C" (.int (116 : Int32))) (F_o_SHORT_letter : Fld Z h0 o_SHORT "com/example/delehat/delehat/protocols/whois/WhoisQuery$Flag" "letter" "C" (.int (115 : Int32))) (F_o_EMPTY_value : Fld Z h0 o_EMPTY "java/util/Optional" "value" "Ljava/lang/Object;" .null) (V_o__VALUES : Arv Z h0 o__VALUES kc_o__VALUES (.object "com/example/delehat/delehat/protocols/whois/WhoisQuery$Flag") (5 : Int32) [(.ref o_REGISTRAR), (.ref o_REGISTRANT), (.ref o_ADMIN), (.ref o_TECH), (.ref o_SHORT)] .null) :
    MetFree l x (head1 (Jvm.Cond.code x code maxLocals ret :: ws) room_1) (fun a U => a = #[(.int i0), (.int i1)] ∧ Z.Warmed39 U.vm ∧ U.heap = h0) (fun _ _ _ _ _ => True) (fun _ U o U' => ∃ v L, o = .returned v ∧ (v = some (.int (1 : Int32)) ∧ Fr n0 L) ∧ FrameEnd U o U' L room_1.cells room_1.slots) := by
  refine MetFree.of_bodySF (plainFor_of_name pn_com_example_delehat_delehat_protocols_whois_WhoisQueryOfPinLaw) hisR ?_
  intro p e s m args below meth c s₁ Bd hml0 hP hK
  obtain ⟨rfl, hZ, hh⟩ := hP
  have hx := Bd.exec
  have hby := Bd.bytes
  have hml : c.maxLocals = 5 := hml0
  have hown : s.vm.findClass "com/example/delehat/delehat/protocols/whois/WhoisQueryOfPinLaw" = some m.cls := findClass_of_methodNamed Bd.named
  have hnm := (name_of_methodNamed Bd.named Bd.method).1
  have X0 : Stand p l e room_1 s m #[(.int i0), (.int i1)] below meth c s₁ [] 0 0 := Stand.of_body Bd
  have e0 : s₁.heap = h0 := by rw [← hh, Bd.state]; rfl
  have N0 := Fr.nil n0
  have pre0 : ∀ t, Steps p.tables e below (s₁.setTop (mkF m 0 #[.val (.int i0), .val (.int i1), .unset, .unset, .unset] [])) t → Steps p.tables e below (s₁.setTop (entryFrame m #[(.int i0), (.int i1)] maxLocals)) t := fun t k => castTop (ef0 m i0 i1) k
  have pre1 : ∀ t, Steps p.tables e below (s₁.setTop (mkF m 3 #[.val (.int i0), .val (.int i1), .unset, .unset, .unset] [(.int (i1 &&& (1 : Int32)))])) t → Steps p.tables e below (s₁.setTop (entryFrame m #[(.int i0), (.int i1)] maxLocals)) t := fun t kk => pre0 t (by
    show Steps p.tables e below (s₁.setTop (mkF m 0 #[.val (.int i0), .val (.int i1), .unset, .unset, .unset] [])) _
    refine XS.iloadN X0.here hx rfl (hb hby at_0) rfl ?_
    show Steps p.tables e below (s₁.setTop (mkF m 1 #[.val (.int i0), .val (.int i1), .unset, .unset, .unset] [(.int i1)])) _
    refine XS.iconst X0.here hx rfl (hb hby at_1) ?_
    show Steps p.tables e below (s₁.setTop (mkF m 2 #[.val (.int i0), .val (.int i1), .unset, .unset, .unset] [(.int (1 : Int32)), (.int i1)])) _
    refine XS.iand X0.here hx rfl (hb hby at_2) rfl ?_
    show Steps p.tables e below (s₁.setTop (mkF m 3 #[.val (.int i0), .val (.int i1), .unset, .unset, .unset] [(.int (i1 &&& (1 : Int32)))])) _
    exact kk)
  rcases own_bit i1 with he0 | he0
  · have pre2 : ∀ t, Steps p.tables e below (s₁.setTop (mkF m 25 #[.val (.int i0), .val (.int i1), .val (.int (i0.toUInt32.toUInt16.toUInt32.toInt32)), .unset, .unset] [(.int (i0.toUInt32.toUInt16.toUInt32.toInt32))])) t → Steps p.tables e below (s₁.setTop (entryFrame m #[(.int i0), (.int i1)] maxLocals)) t := fun t kk => pre1 t (by
      show Steps p.tables e below (s₁.setTop (mkF m 3 #[.val (.int i0), .val (.int i1), .unset, .unset, .unset] [(.int (i1 &&& (1 : Int32)))])) _
      rw [he0]
      show Steps p.tables e below (s₁.setTop (mkF m 3 #[.val (.int i0), .val (.int i1), .unset, .unset, .unset] [(.int (0 : Int32))])) _
      refine XS.ifYes X0.here hx rfl (pc0 := 3) (pc' := 21) rfl (hb hby at_3) rfl ((if0 _ _).trans (teq (by decide : (0 : Int32) = (0 : Int32))).1) (by decide) (by decide) ?_
      show Steps p.tables e below (s₁.setTop (mkF m 21 #[.val (.int i0), .val (.int i1), .unset, .unset, .unset] [])) _
      refine XS.iloadN X0.here hx rfl (hb hby at_21) rfl ?_
      show Steps p.tables e below (s₁.setTop (mkF m 22 #[.val (.int i0), .val (.int i1), .unset, .unset, .unset] [(.int i0)])) _
      refine XS.i2c X0.here hx rfl (hb hby at_22) rfl ?_
      show Steps p.tables e below (s₁.setTop (mkF m 23 #[.val (.int i0), .val (.int i1), .unset, .unset, .unset] [(.int (i0.toUInt32.toUInt16.toUInt32.toInt32))])) _
      refine XS.istoreN X0.here hx rfl (hb hby at_23) rfl (l' := #[.val (.int i0), .val (.int i1), .val (.int (i0.toUInt32.toUInt16.toUInt32.toInt32)), .unset, .unset]) rfl ?_
      show Steps p.tables e below (s₁.setTop (mkF m 24 #[.val (.int i0), .val (.int i1), .val (.int (i0.toUInt32.toUInt16.toUInt32.toInt32)), .unset, .unset] [])) _
      refine XS.iloadN X0.here hx rfl (hb hby at_24) rfl ?_
      show Steps p.tables e below (s₁.setTop (mkF m 25 #[.val (.int i0), .val (.int i1), .val (.int (i0.toUInt32.toUInt16.toUInt32.toInt32)), .unset, .unset] [(.int (i0.toUInt32.toUInt16.toUInt32.toInt32))])) _
      exact kk)
    by_cases hs1 : (114 : Int32) = (i0.toUInt32.toUInt16.toUInt32.toInt32)
    · obtain ⟨_, _, ⟨T1, L1, k1, n1⟩, -, X1, ⟨Lc1, hQ1, l1, y1, z1⟩, st1⟩ := Jvm.LawKit.callS X0 hx (y := (⟨"com/example/delehat/delehat/protocols/whois/WhoisQuery$Flag", "of", "(C)Ljava/util/Optional;"⟩ : MethodName)) hown (mvT hZ (own_w1 hw)) (mvT hZ (own_w2 hw)) (mvT hZ (own_w3 hw)) (mvT hZ (own_w4 hw)) (by decide) (backOf (W := 0) (rm1_6 l Z a0 hw [] (i0.toUInt32.toUInt16.toUInt32.toInt32) o__VALUES kc_o__VALUES o_REGISTRAR o_REGISTRANT o_ADMIN o_TECH o_SHORT h0 n0 Z0 S_o__VALUES E_o__VALUES V_o__VALUES F_o_REGISTRAR_letter hs1) hZ (own_w4 hw) (own_w3 hw) (by decide) (by decide)) (g := (mkF m 25 #[.val (.int i0), .val (.int i1), .val (.int (i0.toUInt32.toUInt16.toUInt32.toInt32)), .unset, .unset] [(.int (i0.toUInt32.toUInt16.toUInt32.toInt32))])) rfl (by rw [hml]; rfl) (argsL := [(.int (i0.toUInt32.toUInt16.toUInt32.toInt32))]) (rest := []) (lenOf pd__C_Ljava_util_Optional_ rfl) rfl (by show 2 * 0 + _ ≤ _; exact Nat.le_of_eq rfl) (hb hby at_25) (fun _ _ => ⟨rfl, e0, (by decide : 0 + 2 ≤ _), (by decide : 0 + 6 ≤ _)⟩)
      dsimp only [Pt.U, Pt.locs, Pt.cells, Pt.slots] at X1 l1 y1 z1 st1 hQ1
      subst l1 y1 z1
      obtain ⟨b1_0, rfl, N1q, K1, sq1_0, f1_0, f1_1⟩ := hQ1
      have N1 := Fr.app N0 N1q
      have sz_b1_0 : h0.size ≤ b1_0 := sq1_0
      have sz0_b1_0 : h0.size ≤ b1_0 := sz_b1_0
      have g_b1_0 : n0 ≤ b1_0 := Nat.le_trans Z0 sz0_b1_0
      have KC2 : Keep h0 T1.heap [] := (Keep.refl h0 []).trans K1 all0
      obtain ⟨cq3, kq3, q3a, q3b, q3c⟩ := isOf hZ rfl f1_0
      obtain ⟨_, _, ⟨T3, L3, k3, n3⟩, -, X3, ⟨Lc3, hQ3, l3, y3, z3⟩, st3⟩ := X1.virtualBack hx (y := (⟨"java/util/Optional", "isPresent", "()Z"⟩ : MethodName)) (z := (⟨"java/util/Optional", "isPresent", "()Z"⟩ : MethodName)) hown (mvT hZ (own_w46 hw)) (mvT hZ (own_w47 hw)) (notFace_of_selects (args := #[]) (mvT hZ (own_w49 hw))) (mvT hZ (own_w49 hw)) (mvT hZ (own_w48 hw)) (by decide) (backOf (W := 0) (rm7_7 l Z a0 hw [] b1_0 o_REGISTRAR T1.heap n0 (Nat.le_trans Z0 KC2.1) f1_1) hZ (own_w50 hw) (own_w29 hw) (by decide) (by decide)) q3a q3c (g := (mkF m 30 #[.val (.int i0), .val (.int i1), .val (.int (i0.toUInt32.toUInt16.toUInt32.toInt32)), .val (.ref b1_0), .unset] [(.ref b1_0)])) rfl (by rw [hml]; rfl) (Steps.refl _) (argsL := []) (rest := []) (lenOf pd___Z rfl) rfl (by show 2 * 0 + _ ≤ _; exact Nat.le_of_eq rfl) (hb hby at_30) (fun _ _ => ⟨rfl, rfl, (by decide : 2 + 0 ≤ _), (by decide : 6 + 0 ≤ _)⟩)
      dsimp only [Pt.U, Pt.locs, Pt.cells, Pt.slots] at X3 l3 y3 z3 st3 hQ3
      subst l3 y3 z3
      obtain ⟨rfl, N3q, e3⟩ := hQ3
      have N3 := Fr.app N1 N3q
      obtain ⟨cq4, kq4, q4a, q4b, q4c⟩ := isOf hZ e3 f1_0
      obtain ⟨_, _, ⟨T4, L4, k4, n4⟩, -, X4, ⟨Lc4, hQ4, l4, y4, z4⟩, st4⟩ := X3.virtualBack hx (y := (⟨"java/util/Optional", "get", "()Ljava/lang/Object;"⟩ : MethodName)) (z := (⟨"java/util/Optional", "get", "()Ljava/lang/Object;"⟩ : MethodName)) hown (mvT hZ (own_w51 hw)) (mvT hZ (own_w52 hw)) (notFace_of_selects (args := #[]) (mvT hZ (own_w54 hw))) (mvT hZ (own_w54 hw)) (mvT hZ (own_w53 hw)) (by decide) (backOf (W := 0) (rm8_8 l Z a0 hw [] b1_0 o_REGISTRAR T1.heap n0 (Nat.le_trans Z0 KC2.1) f1_1) hZ (own_w55 hw) (own_w29 hw) (by decide) (by decide)) q4a q4c (g := (mkF m 37 #[.val (.int i0), .val (.int i1), .val (.int (i0.toUInt32.toUInt16.toUInt32.toInt32)), .val (.ref b1_0), .unset] [(.ref b1_0)])) rfl (by rw [hml]; rfl) (Steps.refl _) (argsL := []) (rest := []) (lenOf pd___Ljava_lang_Object_ rfl) rfl (by show 2 * 0 + _ ≤ _; exact Nat.le_of_eq rfl) (hb hby at_37) (fun _ _ => ⟨rfl, e3, (by decide : 2 + 0 ≤ _), (by decide : 6 + 0 ≤ _)⟩)
      dsimp only [Pt.U, Pt.locs, Pt.cells, Pt.slots] at X4 l4 y4 z4 st4 hQ4
      subst l4 y4 z4
      obtain ⟨rfl, N4q, e4⟩ := hQ4
      have N4 := Fr.app N3 N4q
      have c5 := E_o_REGISTRAR.keep K1
      obtain ⟨T6, X6, e6, st6⟩ := castY X4 hx hZ hown (own_w56 hw) e4 (Ins.self c5) (g := (mkF m 40 #[.val (.int i0), .val (.int i1), .val (.int (i0.toUInt32.toUInt16.toUInt32.toInt32)), .val (.ref b1_0), .unset] [(.ref o_REGISTRAR)])) rfl rfl (hb hby at_40)
      have c7 := own_sta_keep S_o_REGISTRAR K1 own_ns0
      obtain ⟨_, _, ⟨T8, L8, k8, n8⟩, -, X8, ⟨Lc8, hQ8, l8, y8, z8⟩, st8⟩ := Jvm.LawKit.callS X6 hx (y := (⟨"com/example/delehat/delehat/protocols/whois/WhoisQueryOfPinLaw", "expected", "(C)Lcom/example/delehat/delehat/protocols/whois/WhoisQuery$Flag;"⟩ : MethodName)) hown (mvT hZ (own_w58 hw)) (mvT hZ (own_w59 hw)) (mvT hZ (own_w60 hw)) (mvT hZ (own_w61 hw)) (by decide) (backOf (W := 1) (rm9_9 l Z a0 hw [] (i0.toUInt32.toUInt16.toUInt32.toInt32) o_REGISTRAR T1.heap n0 (Nat.le_trans Z0 KC2.1) (Eq.symm hs1) c7) hZ (own_w61 hw) (own_w60 hw) (by decide) (by decide)) (g := (mkF m 52 #[.val (.int i0), .val (.int i1), .val (.int (i0.toUInt32.toUInt16.toUInt32.toInt32)), .val (.ref b1_0), .val (.ref o_REGISTRAR)] [(.int (i0.toUInt32.toUInt16.toUInt32.toInt32)), (.ref o_REGISTRAR)])) rfl (by rw [hml]; rfl) (argsL := [(.int (i0.toUInt32.toUInt16.toUInt32.toInt32))]) (rest := [(.ref o_REGISTRAR)]) (lenOf pd__C_Lcom_example_delehat_delehat_protocols_whois_WhoisQuery_Flag_ rfl) rfl (by show 2 * 0 + _ ≤ _; exact Nat.le_of_eq rfl) (hb hby at_52) (fun _ _ => ⟨rfl, e6, (by decide : 2 + 0 ≤ _), (by decide : 6 + 0 ≤ _)⟩)
      dsimp only [Pt.U, Pt.locs, Pt.cells, Pt.slots] at X8 l8 y8 z8 st8 hQ8
      subst l8 y8 z8
      obtain ⟨rfl, N8q, e8⟩ := hQ8
      have N8 := Fr.app N4 N8q
      obtain ⟨fs, hr, hrun, hended, hW, hsame⟩ := X8.leave (v := some (.int (1 : Int32))) (fun h => by rw [Bd.returns] at h; cases h)
      refine ⟨_, _, pre2 _ ?_, hrun, hended, _, _, rfl, ⟨rfl, N8⟩, ⟨_, rfl⟩, hW, hsame.mono (by decide) (by decide)⟩
      show Steps p.tables e below (s₁.setTop (mkF m 25 #[.val (.int i0), .val (.int i1), .val (.int (i0.toUInt32.toUInt16.toUInt32.toInt32)), .unset, .unset] [(.int (i0.toUInt32.toUInt16.toUInt32.toInt32))])) _
      refine st1 _ ?_
      show Steps p.tables e below (T1.setTop (mkF m 28 #[.val (.int i0), .val (.int i1), .val (.int (i0.toUInt32.toUInt16.toUInt32.toInt32)), .unset, .unset] [(.ref b1_0)])) _
      refine XS.astoreN X1.here hx rfl (hb hby at_28) rfl rfl (l' := #[.val (.int i0), .val (.int i1), .val (.int (i0.toUInt32.toUInt16.toUInt32.toInt32)), .val (.ref b1_0), .unset]) rfl ?_
      show Steps p.tables e below (T1.setTop (mkF m 29 #[.val (.int i0), .val (.int i1), .val (.int (i0.toUInt32.toUInt16.toUInt32.toInt32)), .val (.ref b1_0), .unset] [])) _
      refine XS.aloadN X1.here hx rfl (hb hby at_29) rfl rfl ?_
      show Steps p.tables e below (T1.setTop (mkF m 30 #[.val (.int i0), .val (.int i1), .val (.int (i0.toUInt32.toUInt16.toUInt32.toInt32)), .val (.ref b1_0), .unset] [(.ref b1_0)])) _
      refine st3.trans ?_
      show Steps p.tables e below (T3.setTop (mkF m 33 #[.val (.int i0), .val (.int i1), .val (.int (i0.toUInt32.toUInt16.toUInt32.toInt32)), .val (.ref b1_0), .unset] [(.int (1 : Int32))])) _
      refine XS.ifNo X3.here hx rfl (hb hby at_33) rfl ((if0 _ _).trans (feq (by decide : ¬ ((1 : Int32) = (0 : Int32)))).1) ?_
      show Steps p.tables e below (T3.setTop (mkF m 36 #[.val (.int i0), .val (.int i1), .val (.int (i0.toUInt32.toUInt16.toUInt32.toInt32)), .val (.ref b1_0), .unset] [])) _
      refine XS.aloadN X3.here hx rfl (hb hby at_36) rfl rfl ?_
      show Steps p.tables e below (T3.setTop (mkF m 37 #[.val (.int i0), .val (.int i1), .val (.int (i0.toUInt32.toUInt16.toUInt32.toInt32)), .val (.ref b1_0), .unset] [(.ref b1_0)])) _
      refine st4.trans ?_
      show Steps p.tables e below (T4.setTop (mkF m 40 #[.val (.int i0), .val (.int i1), .val (.int (i0.toUInt32.toUInt16.toUInt32.toInt32)), .val (.ref b1_0), .unset] [(.ref o_REGISTRAR)])) _
      refine st6 _ ?_
      show Steps p.tables e below (T6.setTop (mkF m 43 #[.val (.int i0), .val (.int i1), .val (.int (i0.toUInt32.toUInt16.toUInt32.toInt32)), .val (.ref b1_0), .unset] [(.ref o_REGISTRAR)])) _
      refine XS.goto X6.here hx rfl (pc0 := 43) (pc' := 47) rfl (hb hby at_43) (by decide) (by decide) ?_
      show Steps p.tables e below (T6.setTop (mkF m 47 #[.val (.int i0), .val (.int i1), .val (.int (i0.toUInt32.toUInt16.toUInt32.toInt32)), .val (.ref b1_0), .unset] [(.ref o_REGISTRAR)])) _
      refine XS.astore X6.here hx rfl (hb hby at_47) rfl rfl (l' := #[.val (.int i0), .val (.int i1), .val (.int (i0.toUInt32.toUInt16.toUInt32.toInt32)), .val (.ref b1_0), .val (.ref o_REGISTRAR)]) rfl ?_
      show Steps p.tables e below (T6.setTop (mkF m 49 #[.val (.int i0), .val (.int i1), .val (.int (i0.toUInt32.toUInt16.toUInt32.toInt32)), .val (.ref b1_0), .val (.ref o_REGISTRAR)] [])) _
      refine XS.aload X6.here hx rfl (hb hby at_49) rfl rfl ?_
      show Steps p.tables e below (T6.setTop (mkF m 51 #[.val (.int i0), .val (.int i1), .val (.int (i0.toUInt32.toUInt16.toUInt32.toInt32)), .val (.ref b1_0), .val (.ref o_REGISTRAR)] [(.ref o_REGISTRAR)])) _
      refine XS.iloadN X6.here hx rfl (hb hby at_51) rfl ?_
      show Steps p.tables e below (T6.setTop (mkF m 52 #[.val (.int i0), .val (.int i1), .val (.int (i0.toUInt32.toUInt16.toUInt32.toInt32)), .val (.ref b1_0), .val (.ref o_REGISTRAR)] [(.int (i0.toUInt32.toUInt16.toUInt32.toInt32)), (.ref o_REGISTRAR)])) _
      refine st8 _ ?_
      show Steps p.tables e below (T8.setTop (mkF m 55 #[.val (.int i0), .val (.int i1), .val (.int (i0.toUInt32.toUInt16.toUInt32.toInt32)), .val (.ref b1_0), .val (.ref o_REGISTRAR)] [(.ref o_REGISTRAR), (.ref o_REGISTRAR)])) _
      refine Jvm.RoadKit.acmp (g := (mkF m 55 #[.val (.int i0), .val (.int i1), .val (.int (i0.toUInt32.toUInt16.toUInt32.toInt32)), .val (.ref b1_0), .val (.ref o_REGISTRAR)] [(.ref o_REGISTRAR), (.ref o_REGISTRAR)])) X8 hx rfl rfl rfl (pc0 := 55) (pc' := 58) (same := true) rfl (hb hby at_55) rfl (decide_eq_true rfl) (by decide) (by decide) ?_
      show Steps p.tables e below (T8.setTop (mkF m 58 #[.val (.int i0), .val (.int i1), .val (.int (i0.toUInt32.toUInt16.toUInt32.toInt32)), .val (.ref b1_0), .val (.ref o_REGISTRAR)] [])) _
      refine XS.iconst X8.here hx rfl (hb hby at_58) ?_
      show Steps p.tables e below (T8.setTop (mkF m 59 #[.val (.int i0), .val (.int i1), .val (.int (i0.toUInt32.toUInt16.toUInt32.toInt32)), .val (.ref b1_0), .val (.ref o_REGISTRAR)] [(.int (1 : Int32))])) _
      refine XS.goto X8.here hx rfl (pc0 := 59) (pc' := 63) rfl (hb hby at_59) (by decide) (by decide) ?_
      show Steps p.tables e below (T8.setTop (mkF m 63 #[.val (.int i0), .val (.int i1), .val (.int (i0.toUInt32.toUInt16.toUInt32.toInt32)), .val (.ref b1_0), .val (.ref o_REGISTRAR)] [(.int (1 : Int32))])) _
      exact retN X8 hx (t := .boolean) Bd.returns (by simp) (hb hby at_63) hr
    · by_cases hs2 : (111 : Int32) = (i0.toUInt32.toUInt16.toUInt32.toInt32)
      · obtain ⟨_, _, ⟨T1, L1, k1, n1⟩, -, X1, ⟨Lc1, hQ1, l1, y1, z1⟩, st1⟩ := Jvm.LawKit.callS X0 hx (y := (⟨"com/example/delehat/delehat/protocols/whois/WhoisQuery$Flag", "of", "(C)Ljava/util/Optional;"⟩ : MethodName)) hown (mvT hZ (own_w1 hw)) (mvT hZ (own_w2 hw)) (mvT hZ (own_w3 hw)) (mvT hZ (own_w4 hw)) (by decide) (backOf (W := 0) (rm1_10 l Z a0 hw [] (i0.toUInt32.toUInt16.toUInt32.toInt32) o__VALUES kc_o__VALUES o_REGISTRAR o_REGISTRANT o_ADMIN o_TECH o_SHORT h0 n0 Z0 S_o__VALUES E_o__VALUES V_o__VALUES F_o_REGISTRAR_letter hs1 F_o_REGISTRANT_letter hs2) hZ (own_w4 hw) (own_w3 hw) (by decide) (by decide)) (g := (mkF m 25 #[.val (.int i0), .val (.int i1), .val (.int (i0.toUInt32.toUInt16.toUInt32.toInt32)), .unset, .unset] [(.int (i0.toUInt32.toUInt16.toUInt32.toInt32))])) rfl (by rw [hml]; rfl) (argsL := [(.int (i0.toUInt32.toUInt16.toUInt32.toInt32))]) (rest := []) (lenOf pd__C_Ljava_util_Optional_ rfl) rfl (by show 2 * 0 + _ ≤ _; exact Nat.le_of_eq rfl) (hb hby at_25) (fun _ _ => ⟨rfl, e0, (by decide : 0 + 2 ≤ _), (by decide : 0 + 6 ≤ _)⟩)
        dsimp only [Pt.U, Pt.locs, Pt.cells, Pt.slots] at X1 l1 y1 z1 st1 hQ1
        subst l1 y1 z1
        obtain ⟨b1_0, rfl, N1q, K1, sq1_0, f1_0, f1_1⟩ := hQ1
        have N1 := Fr.app N0 N1q
        have sz_b1_0 : h0.size ≤ b1_0 := sq1_0
        have sz0_b1_0 : h0.size ≤ b1_0 := sz_b1_0
        have g_b1_0 : n0 ≤ b1_0 := Nat.le_trans Z0 sz0_b1_0
        have KC2 : Keep h0 T1.heap [] := (Keep.refl h0 []).trans K1 all0
        obtain ⟨cq3, kq3, q3a, q3b, q3c⟩ := isOf hZ rfl f1_0
        obtain ⟨_, _, ⟨T3, L3, k3, n3⟩, -, X3, ⟨Lc3, hQ3, l3, y3, z3⟩, st3⟩ := X1.virtualBack hx (y := (⟨"java/util/Optional", "isPresent", "()Z"⟩ : MethodName)) (z := (⟨"java/util/Optional", "isPresent", "()Z"⟩ : MethodName)) hown (mvT hZ (own_w46 hw)) (mvT hZ (own_w47 hw)) (notFace_of_selects (args := #[]) (mvT hZ (own_w49 hw))) (mvT hZ (own_w49 hw)) (mvT hZ (own_w48 hw)) (by decide) (backOf (W := 0) (rm7_7 l Z a0 hw [] b1_0 o_REGISTRANT T1.heap n0 (Nat.le_trans Z0 KC2.1) f1_1) hZ (own_w50 hw) (own_w29 hw) (by decide) (by decide)) q3a q3c (g := (mkF m 30 #[.val (.int i0), .val (.int i1), .val (.int (i0.toUInt32.toUInt16.toUInt32.toInt32)), .val (.ref b1_0), .unset] [(.ref b1_0)])) rfl (by rw [hml]; rfl) (Steps.refl _) (argsL := []) (rest := []) (lenOf pd___Z rfl) rfl (by show 2 * 0 + _ ≤ _; exact Nat.le_of_eq rfl) (hb hby at_30) (fun _ _ => ⟨rfl, rfl, (by decide : 2 + 0 ≤ _), (by decide : 6 + 0 ≤ _)⟩)
        dsimp only [Pt.U, Pt.locs, Pt.cells, Pt.slots] at X3 l3 y3 z3 st3 hQ3
        subst l3 y3 z3
        obtain ⟨rfl, N3q, e3⟩ := hQ3
        have N3 := Fr.app N1 N3q
        obtain ⟨cq4, kq4, q4a, q4b, q4c⟩ := isOf hZ e3 f1_0
        obtain ⟨_, _, ⟨T4, L4, k4, n4⟩, -, X4, ⟨Lc4, hQ4, l4, y4, z4⟩, st4⟩ := X3.virtualBack hx (y := (⟨"java/util/Optional", "get", "()Ljava/lang/Object;"⟩ : MethodName)) (z := (⟨"java/util/Optional", "get", "()Ljava/lang/Object;"⟩ : MethodName)) hown (mvT hZ (own_w51 hw)) (mvT hZ (own_w52 hw)) (notFace_of_selects (args := #[]) (mvT hZ (own_w54 hw))) (mvT hZ (own_w54 hw)) (mvT hZ (own_w53 hw)) (by decide) (backOf (W := 0) (rm8_8 l Z a0 hw [] b1_0 o_REGISTRANT T1.heap n0 (Nat.le_trans Z0 KC2.1) f1_1) hZ (own_w55 hw) (own_w29 hw) (by decide) (by decide)) q4a q4c (g := (mkF m 37 #[.val (.int i0), .val (.int i1), .val (.int (i0.toUInt32.toUInt16.toUInt32.toInt32)), .val (.ref b1_0), .unset] [(.ref b1_0)])) rfl (by rw [hml]; rfl) (Steps.refl _) (argsL := []) (rest := []) (lenOf pd___Ljava_lang_Object_ rfl) rfl (by show 2 * 0 + _ ≤ _; exact Nat.le_of_eq rfl) (hb hby at_37) (fun _ _ => ⟨rfl, e3, (by decide : 2 + 0 ≤ _), (by decide : 6 + 0 ≤ _)⟩)
        dsimp only [Pt.U, Pt.locs, Pt.cells, Pt.slots] at X4 l4 y4 z4 st4 hQ4
        subst l4 y4 z4
        obtain ⟨rfl, N4q, e4⟩ := hQ4
        have N4 := Fr.app N3 N4q
        have c5 := E_o_REGISTRANT.keep K1
        obtain ⟨T6, X6, e6, st6⟩ := castY X4 hx hZ hown (own_w56 hw) e4 (Ins.self c5) (g := (mkF m 40 #[.val (.int i0), .val (.int i1), .val (.int (i0.toUInt32.toUInt16.toUInt32.toInt32)), .val (.ref b1_0), .unset] [(.ref o_REGISTRANT)])) rfl rfl (hb hby at_40)
        have c7 := own_sta_keep S_o_REGISTRANT K1 own_ns0
        obtain ⟨_, _, ⟨T8, L8, k8, n8⟩, -, X8, ⟨Lc8, hQ8, l8, y8, z8⟩, st8⟩ := Jvm.LawKit.callS X6 hx (y := (⟨"com/example/delehat/delehat/protocols/whois/WhoisQueryOfPinLaw", "expected", "(C)Lcom/example/delehat/delehat/protocols/whois/WhoisQuery$Flag;"⟩ : MethodName)) hown (mvT hZ (own_w58 hw)) (mvT hZ (own_w59 hw)) (mvT hZ (own_w60 hw)) (mvT hZ (own_w61 hw)) (by decide) (backOf (W := 1) (rm9_11 l Z a0 hw [] (i0.toUInt32.toUInt16.toUInt32.toInt32) o_REGISTRANT T1.heap n0 (Nat.le_trans Z0 KC2.1) (Ne.symm hs1) (Eq.symm hs2) c7) hZ (own_w61 hw) (own_w60 hw) (by decide) (by decide)) (g := (mkF m 52 #[.val (.int i0), .val (.int i1), .val (.int (i0.toUInt32.toUInt16.toUInt32.toInt32)), .val (.ref b1_0), .val (.ref o_REGISTRANT)] [(.int (i0.toUInt32.toUInt16.toUInt32.toInt32)), (.ref o_REGISTRANT)])) rfl (by rw [hml]; rfl) (argsL := [(.int (i0.toUInt32.toUInt16.toUInt32.toInt32))]) (rest := [(.ref o_REGISTRANT)]) (lenOf pd__C_Lcom_example_delehat_delehat_protocols_whois_WhoisQuery_Flag_ rfl) rfl (by show 2 * 0 + _ ≤ _; exact Nat.le_of_eq rfl) (hb hby at_52) (fun _ _ => ⟨rfl, e6, (by decide : 2 + 0 ≤ _), (by decide : 6 + 0 ≤ _)⟩)
        dsimp only [Pt.U, Pt.locs, Pt.cells, Pt.slots] at X8 l8 y8 z8 st8 hQ8
        subst l8 y8 z8
        obtain ⟨rfl, N8q, e8⟩ := hQ8
        have N8 := Fr.app N4 N8q
        obtain ⟨fs, hr, hrun, hended, hW, hsame⟩ := X8.leave (v := some (.int (1 : Int32))) (fun h => by rw [Bd.returns] at h; cases h)
        refine ⟨_, _, pre2 _ ?_, hrun, hended, _, _, rfl, ⟨rfl, N8⟩, ⟨_, rfl⟩, hW, hsame.mono (by decide) (by decide)⟩
        show Steps p.tables e below (s₁.setTop (mkF m 25 #[.val (.int i0), .val (.int i1), .val (.int (i0.toUInt32.toUInt16.toUInt32.toInt32)), .unset, .unset] [(.int (i0.toUInt32.toUInt16.toUInt32.toInt32))])) _
        refine st1 _ ?_
        show Steps p.tables e below (T1.setTop (mkF m 28 #[.val (.int i0), .val (.int i1), .val (.int (i0.toUInt32.toUInt16.toUInt32.toInt32)), .unset, .unset] [(.ref b1_0)])) _
        refine XS.astoreN X1.here hx rfl (hb hby at_28) rfl rfl (l' := #[.val (.int i0), .val (.int i1), .val (.int (i0.toUInt32.toUInt16.toUInt32.toInt32)), .val (.ref b1_0), .unset]) rfl ?_
        show Steps p.tables e below (T1.setTop (mkF m 29 #[.val (.int i0), .val (.int i1), .val (.int (i0.toUInt32.toUInt16.toUInt32.toInt32)), .val (.ref b1_0), .unset] [])) _
        refine XS.aloadN X1.here hx rfl (hb hby at_29) rfl rfl ?_
        show Steps p.tables e below (T1.setTop (mkF m 30 #[.val (.int i0), .val (.int i1), .val (.int (i0.toUInt32.toUInt16.toUInt32.toInt32)), .val (.ref b1_0), .unset] [(.ref b1_0)])) _
        refine st3.trans ?_
        show Steps p.tables e below (T3.setTop (mkF m 33 #[.val (.int i0), .val (.int i1), .val (.int (i0.toUInt32.toUInt16.toUInt32.toInt32)), .val (.ref b1_0), .unset] [(.int (1 : Int32))])) _
        refine XS.ifNo X3.here hx rfl (hb hby at_33) rfl ((if0 _ _).trans (feq (by decide : ¬ ((1 : Int32) = (0 : Int32)))).1) ?_
        show Steps p.tables e below (T3.setTop (mkF m 36 #[.val (.int i0), .val (.int i1), .val (.int (i0.toUInt32.toUInt16.toUInt32.toInt32)), .val (.ref b1_0), .unset] [])) _
        refine XS.aloadN X3.here hx rfl (hb hby at_36) rfl rfl ?_
        show Steps p.tables e below (T3.setTop (mkF m 37 #[.val (.int i0), .val (.int i1), .val (.int (i0.toUInt32.toUInt16.toUInt32.toInt32)), .val (.ref b1_0), .unset] [(.ref b1_0)])) _
        refine st4.trans ?_
        show Steps p.tables e below (T4.setTop (mkF m 40 #[.val (.int i0), .val (.int i1), .val (.int (i0.toUInt32.toUInt16.toUInt32.toInt32)), .val (.ref b1_0), .unset] [(.ref o_REGISTRANT)])) _
        refine st6 _ ?_
        show Steps p.tables e below (T6.setTop (mkF m 43 #[.val (.int i0), .val (.int i1), .val (.int (i0.toUInt32.toUInt16.toUInt32.toInt32)), .val (.ref b1_0), .unset] [(.ref o_REGISTRANT)])) _
        refine XS.goto X6.here hx rfl (pc0 := 43) (pc' := 47) rfl (hb hby at_43) (by decide) (by decide) ?_
        show Steps p.tables e below (T6.setTop (mkF m 47 #[.val (.int i0), .val (.int i1), .val (.int (i0.toUInt32.toUInt16.toUInt32.toInt32)), .val (.ref b1_0), .unset] [(.ref o_REGISTRANT)])) _
        refine XS.astore X6.here hx rfl (hb hby at_47) rfl rfl (l' := #[.val (.int i0), .val (.int i1), .val (.int (i0.toUInt32.toUInt16.toUInt32.toInt32)), .val (.ref b1_0), .val (.ref o_REGISTRANT)]) rfl ?_
        show Steps p.tables e below (T6.setTop (mkF m 49 #[.val (.int i0), .val (.int i1), .val (.int (i0.toUInt32.toUInt16.toUInt32.toInt32)), .val (.ref b1_0), .val (.ref o_REGISTRANT)] [])) _
        refine XS.aload X6.here hx rfl (hb hby at_49) rfl rfl ?_
        show Steps p.tables e below (T6.setTop (mkF m 51 #[.val (.int i0), .val (.int i1), .val (.int (i0.toUInt32.toUInt16.toUInt32.toInt32)), .val (.ref b1_0), .val (.ref o_REGISTRANT)] [(.ref o_REGISTRANT)])) _
        refine XS.iloadN X6.here hx rfl (hb hby at_51) rfl ?_
        show Steps p.tables e below (T6.setTop (mkF m 52 #[.val (.int i0), .val (.int i1), .val (.int (i0.toUInt32.toUInt16.toUInt32.toInt32)), .val (.ref b1_0), .val (.ref o_REGISTRANT)] [(.int (i0.toUInt32.toUInt16.toUInt32.toInt32)), (.ref o_REGISTRANT)])) _
        refine st8 _ ?_
        show Steps p.tables e below (T8.setTop (mkF m 55 #[.val (.int i0), .val (.int i1), .val (.int (i0.toUInt32.toUInt16.toUInt32.toInt32)), .val (.ref b1_0), .val (.ref o_REGISTRANT)] [(.ref o_REGISTRANT), (.ref o_REGISTRANT)])) _
        refine Jvm.RoadKit.acmp (g := (mkF m 55 #[.val (.int i0), .val (.int i1), .val (.int (i0.toUInt32.toUInt16.toUInt32.toInt32)), .val (.ref b1_0), .val (.ref o_REGISTRANT)] [(.ref o_REGISTRANT), (.ref o_REGISTRANT)])) X8 hx rfl rfl rfl (pc0 := 55) (pc' := 58) (same := true) rfl (hb hby at_55) rfl (decide_eq_true rfl) (by decide) (by decide) ?_
        show Steps p.tables e below (T8.setTop (mkF m 58 #[.val (.int i0), .val (.int i1), .val (.int (i0.toUInt32.toUInt16.toUInt32.toInt32)), .val (.ref b1_0), .val (.ref o_REGISTRANT)] [])) _
        refine XS.iconst X8.here hx rfl (hb hby at_58) ?_
        show Steps p.tables e below (T8.setTop (mkF m 59 #[.val (.int i0), .val (.int i1), .val (.int (i0.toUInt32.toUInt16.toUInt32.toInt32)), .val (.ref b1_0), .val (.ref o_REGISTRANT)] [(.int (1 : Int32))])) _
        refine XS.goto X8.here hx rfl (pc0 := 59) (pc' := 63) rfl (hb hby at_59) (by decide) (by decide) ?_
        show Steps p.tables e below (T8.setTop (mkF m 63 #[.val (.int i0), .val (.int i1), .val (.int (i0.toUInt32.toUInt16.toUInt32.toInt32)), .val (.ref b1_0), .val (.ref o_REGISTRANT)] [(.int (1 : Int32))])) _
        exact retN X8 hx (t := .boolean) Bd.returns (by simp) (hb hby at_63) hr
      · by_cases hs3 : (97 : Int32) = (i0.toUInt32.toUInt16.toUInt32.toInt32)
        · obtain ⟨_, _, ⟨T1, L1, k1, n1⟩, -, X1, ⟨Lc1, hQ1, l1, y1, z1⟩, st1⟩ := Jvm.LawKit.callS X0 hx (y := (⟨"com/example/delehat/delehat/protocols/whois/WhoisQuery$Flag", "of", "(C)Ljava/util/Optional;"⟩ : MethodName)) hown (mvT hZ (own_w1 hw)) (mvT hZ (own_w2 hw)) (mvT hZ (own_w3 hw)) (mvT hZ (own_w4 hw)) (by decide) (backOf (W := 0) (rm1_12 l Z a0 hw [] (i0.toUInt32.toUInt16.toUInt32.toInt32) o__VALUES kc_o__VALUES o_REGISTRAR o_REGISTRANT o_ADMIN o_TECH o_SHORT h0 n0 Z0 S_o__VALUES E_o__VALUES V_o__VALUES F_o_REGISTRAR_letter hs1 F_o_REGISTRANT_letter hs2 F_o_ADMIN_letter hs3) hZ (own_w4 hw) (own_w3 hw) (by decide) (by decide)) (g := (mkF m 25 #[.val (.int i0), .val (.int i1), .val (.int (i0.toUInt32.toUInt16.toUInt32.toInt32)), .unset, .unset] [(.int (i0.toUInt32.toUInt16.toUInt32.toInt32))])) rfl (by rw [hml]; rfl) (argsL := [(.int (i0.toUInt32.toUInt16.toUInt32.toInt32))]) (rest := []) (lenOf pd__C_Ljava_util_Optional_ rfl) rfl (by show 2 * 0 + _ ≤ _; exact Nat.le_of_eq rfl) (hb hby at_25) (fun _ _ => ⟨rfl, e0, (by decide : 0 + 2 ≤ _), (by decide : 0 + 6 ≤ _)⟩)
          dsimp only [Pt.U, Pt.locs, Pt.cells, Pt.slots] at X1 l1 y1 z1 st1 hQ1
          subst l1 y1 z1
          obtain ⟨b1_0, rfl, N1q, K1, sq1_0, f1_0, f1_1⟩ := hQ1
          have N1 := Fr.app N0 N1q
          have sz_b1_0 : h0.size ≤ b1_0 := sq1_0
          have sz0_b1_0 : h0.size ≤ b1_0 := sz_b1_0
          have g_b1_0 : n0 ≤ b1_0 := Nat.le_trans Z0 sz0_b1_0
          have KC2 : Keep h0 T1.heap [] := (Keep.refl h0 []).trans K1 all0
          obtain ⟨cq3, kq3, q3a, q3b, q3c⟩ := isOf hZ rfl f1_0
          obtain ⟨_, _, ⟨T3, L3, k3, n3⟩, -, X3, ⟨Lc3, hQ3, l3, y3, z3⟩, st3⟩ := X1.virtualBack hx (y := (⟨"java/util/Optional", "isPresent", "()Z"⟩ : MethodName)) (z := (⟨"java/util/Optional", "isPresent", "()Z"⟩ : MethodName)) hown (mvT hZ (own_w46 hw)) (mvT hZ (own_w47 hw)) (notFace_of_selects (args := #[]) (mvT hZ (own_w49 hw))) (mvT hZ (own_w49 hw)) (mvT hZ (own_w48 hw)) (by decide) (backOf (W := 0) (rm7_7 l Z a0 hw [] b1_0 o_ADMIN T1.heap n0 (Nat.le_trans Z0 KC2.1) f1_1) hZ (own_w50 hw) (own_w29 hw) (by decide) (by decide)) q3a q3c (g := (mkF m 30 #[.val (.int i0), .val (.int i1), .val (.int (i0.toUInt32.toUInt16.toUInt32.toInt32)), .val (.ref b1_0), .unset] [(.ref b1_0)])) rfl (by rw [hml]; rfl) (Steps.refl _) (argsL := []) (rest := []) (lenOf pd___Z rfl) rfl (by show 2 * 0 + _ ≤ _; exact Nat.le_of_eq rfl) (hb hby at_30) (fun _ _ => ⟨rfl, rfl, (by decide : 2 + 0 ≤ _), (by decide : 6 + 0 ≤ _)⟩)
          dsimp only [Pt.U, Pt.locs, Pt.cells, Pt.slots] at X3 l3 y3 z3 st3 hQ3
          subst l3 y3 z3
          obtain ⟨rfl, N3q, e3⟩ := hQ3
          have N3 := Fr.app N1 N3q
          obtain ⟨cq4, kq4, q4a, q4b, q4c⟩ := isOf hZ e3 f1_0
          obtain ⟨_, _, ⟨T4, L4, k4, n4⟩, -, X4, ⟨Lc4, hQ4, l4, y4, z4⟩, st4⟩ := X3.virtualBack hx (y := (⟨"java/util/Optional", "get", "()Ljava/lang/Object;"⟩ : MethodName)) (z := (⟨"java/util/Optional", "get", "()Ljava/lang/Object;"⟩ : MethodName)) hown (mvT hZ (own_w51 hw)) (mvT hZ (own_w52 hw)) (notFace_of_selects (args := #[]) (mvT hZ (own_w54 hw))) (mvT hZ (own_w54 hw)) (mvT hZ (own_w53 hw)) (by decide) (backOf (W := 0) (rm8_8 l Z a0 hw [] b1_0 o_ADMIN T1.heap n0 (Nat.le_trans Z0 KC2.1) f1_1) hZ (own_w55 hw) (own_w29 hw) (by decide) (by decide)) q4a q4c (g := (mkF m 37 #[.val (.int i0), .val (.int i1), .val (.int (i0.toUInt32.toUInt16.toUInt32.toInt32)), .val (.ref b1_0), .unset] [(.ref b1_0)])) rfl (by rw [hml]; rfl) (Steps.refl _) (argsL := []) (rest := []) (lenOf pd___Ljava_lang_Object_ rfl) rfl (by show 2 * 0 + _ ≤ _; exact Nat.le_of_eq rfl) (hb hby at_37) (fun _ _ => ⟨rfl, e3, (by decide : 2 + 0 ≤ _), (by decide : 6 + 0 ≤ _)⟩)
          dsimp only [Pt.U, Pt.locs, Pt.cells, Pt.slots] at X4 l4 y4 z4 st4 hQ4
          subst l4 y4 z4
          obtain ⟨rfl, N4q, e4⟩ := hQ4
          have N4 := Fr.app N3 N4q
          have c5 := E_o_ADMIN.keep K1
          obtain ⟨T6, X6, e6, st6⟩ := castY X4 hx hZ hown (own_w56 hw) e4 (Ins.self c5) (g := (mkF m 40 #[.val (.int i0), .val (.int i1), .val (.int (i0.toUInt32.toUInt16.toUInt32.toInt32)), .val (.ref b1_0), .unset] [(.ref o_ADMIN)])) rfl rfl (hb hby at_40)
          have c7 := own_sta_keep S_o_ADMIN K1 own_ns0
          obtain ⟨_, _, ⟨T8, L8, k8, n8⟩, -, X8, ⟨Lc8, hQ8, l8, y8, z8⟩, st8⟩ := Jvm.LawKit.callS X6 hx (y := (⟨"com/example/delehat/delehat/protocols/whois/WhoisQueryOfPinLaw", "expected", "(C)Lcom/example/delehat/delehat/protocols/whois/WhoisQuery$Flag;"⟩ : MethodName)) hown (mvT hZ (own_w58 hw)) (mvT hZ (own_w59 hw)) (mvT hZ (own_w60 hw)) (mvT hZ (own_w61 hw)) (by decide) (backOf (W := 1) (rm9_13 l Z a0 hw [] (i0.toUInt32.toUInt16.toUInt32.toInt32) o_ADMIN T1.heap n0 (Nat.le_trans Z0 KC2.1) (Ne.symm hs1) (Ne.symm hs2) (Eq.symm hs3) c7) hZ (own_w61 hw) (own_w60 hw) (by decide) (by decide)) (g := (mkF m 52 #[.val (.int i0), .val (.int i1), .val (.int (i0.toUInt32.toUInt16.toUInt32.toInt32)), .val (.ref b1_0), .val (.ref o_ADMIN)] [(.int (i0.toUInt32.toUInt16.toUInt32.toInt32)), (.ref o_ADMIN)])) rfl (by rw [hml]; rfl) (argsL := [(.int (i0.toUInt32.toUInt16.toUInt32.toInt32))]) (rest := [(.ref o_ADMIN)]) (lenOf pd__C_Lcom_example_delehat_delehat_protocols_whois_WhoisQuery_Flag_ rfl) rfl (by show 2 * 0 + _ ≤ _; exact Nat.le_of_eq rfl) (hb hby at_52) (fun _ _ => ⟨rfl, e6, (by decide : 2 + 0 ≤ _), (by decide : 6 + 0 ≤ _)⟩)
          dsimp only [Pt.U, Pt.locs, Pt.cells, Pt.slots] at X8 l8 y8 z8 st8 hQ8
          subst l8 y8 z8
          obtain ⟨rfl, N8q, e8⟩ := hQ8
          have N8 := Fr.app N4 N8q
          obtain ⟨fs, hr, hrun, hended, hW, hsame⟩ := X8.leave (v := some (.int (1 : Int32))) (fun h => by rw [Bd.returns] at h; cases h)
          refine ⟨_, _, pre2 _ ?_, hrun, hended, _, _, rfl, ⟨rfl, N8⟩, ⟨_, rfl⟩, hW, hsame.mono (by decide) (by decide)⟩
          show Steps p.tables e below (s₁.setTop (mkF m 25 #[.val (.int i0), .val (.int i1), .val (.int (i0.toUInt32.toUInt16.toUInt32.toInt32)), .unset, .unset] [(.int (i0.toUInt32.toUInt16.toUInt32.toInt32))])) _
          refine st1 _ ?_
          show Steps p.tables e below (T1.setTop (mkF m 28 #[.val (.int i0), .val (.int i1), .val (.int (i0.toUInt32.toUInt16.toUInt32.toInt32)), .unset, .unset] [(.ref b1_0)])) _
          refine XS.astoreN X1.here hx rfl (hb hby at_28) rfl rfl (l' := #[.val (.int i0), .val (.int i1), .val (.int (i0.toUInt32.toUInt16.toUInt32.toInt32)), .val (.ref b1_0), .unset]) rfl ?_
          show Steps p.tables e below (T1.setTop (mkF m 29 #[.val (.int i0), .val (.int i1), .val (.int (i0.toUInt32.toUInt16.toUInt32.toInt32)), .val (.ref b1_0), .unset] [])) _
          refine XS.aloadN X1.here hx rfl (hb hby at_29) rfl rfl ?_
          show Steps p.tables e below (T1.setTop (mkF m 30 #[.val (.int i0), .val (.int i1), .val (.int (i0.toUInt32.toUInt16.toUInt32.toInt32)), .val (.ref b1_0), .unset] [(.ref b1_0)])) _
          refine st3.trans ?_
          show Steps p.tables e below (T3.setTop (mkF m 33 #[.val (.int i0), .val (.int i1), .val (.int (i0.toUInt32.toUInt16.toUInt32.toInt32)), .val (.ref b1_0), .unset] [(.int (1 : Int32))])) _
          refine XS.ifNo X3.here hx rfl (hb hby at_33) rfl ((if0 _ _).trans (feq (by decide : ¬ ((1 : Int32) = (0 : Int32)))).1) ?_
          show Steps p.tables e below (T3.setTop (mkF m 36 #[.val (.int i0), .val (.int i1), .val (.int (i0.toUInt32.toUInt16.toUInt32.toInt32)), .val (.ref b1_0), .unset] [])) _
          refine XS.aloadN X3.here hx rfl (hb hby at_36) rfl rfl ?_
          show Steps p.tables e below (T3.setTop (mkF m 37 #[.val (.int i0), .val (.int i1), .val (.int (i0.toUInt32.toUInt16.toUInt32.toInt32)), .val (.ref b1_0), .unset] [(.ref b1_0)])) _
          refine st4.trans ?_
          show Steps p.tables e below (T4.setTop (mkF m 40 #[.val (.int i0), .val (.int i1), .val (.int (i0.toUInt32.toUInt16.toUInt32.toInt32)), .val (.ref b1_0), .unset] [(.ref o_ADMIN)])) _
          refine st6 _ ?_
          show Steps p.tables e below (T6.setTop (mkF m 43 #[.val (.int i0), .val (.int i1), .val (.int (i0.toUInt32.toUInt16.toUInt32.toInt32)), .val (.ref b1_0), .unset] [(.ref o_ADMIN)])) _
          refine XS.goto X6.here hx rfl (pc0 := 43) (pc' := 47) rfl (hb hby at_43) (by decide) (by decide) ?_
          show Steps p.tables e below (T6.setTop (mkF m 47 #[.val (.int i0), .val (.int i1), .val (.int (i0.toUInt32.toUInt16.toUInt32.toInt32)), .val (.ref b1_0), .unset] [(.ref o_ADMIN)])) _
          refine XS.astore X6.here hx rfl (hb hby at_47) rfl rfl (l' := #[.val (.int i0), .val (.int i1), .val (.int (i0.toUInt32.toUInt16.toUInt32.toInt32)), .val (.ref b1_0), .val (.ref o_ADMIN)]) rfl ?_
          show Steps p.tables e below (T6.setTop (mkF m 49 #[.val (.int i0), .val (.int i1), .val (.int (i0.toUInt32.toUInt16.toUInt32.toInt32)), .val (.ref b1_0), .val (.ref o_ADMIN)] [])) _
          refine XS.aload X6.here hx rfl (hb hby at_49) rfl rfl ?_
          show Steps p.tables e below (T6.setTop (mkF m 51 #[.val (.int i0), .val (.int i1), .val (.int (i0.toUInt32.toUInt16.toUInt32.toInt32)), .val (.ref b1_0), .val (.ref o_ADMIN)] [(.ref o_ADMIN)])) _
          refine XS.iloadN X6.here hx rfl (hb hby at_51) rfl ?_
          show Steps p.tables e below (T6.setTop (mkF m 52 #[.val (.int i0), .val (.int i1), .val (.int (i0.toUInt32.toUInt16.toUInt32.toInt32)), .val (.ref b1_0), .val (.ref o_ADMIN)] [(.int (i0.toUInt32.toUInt16.toUInt32.toInt32)), (.ref o_ADMIN)])) _
          refine st8 _ ?_
          show Steps p.tables e below (T8.setTop (mkF m 55 #[.val (.int i0), .val (.int i1), .val (.int (i0.toUInt32.toUInt16.toUInt32.toInt32)), .val (.ref b1_0), .val (.ref o_ADMIN)] [(.ref o_ADMIN), (.ref o_ADMIN)])) _
          refine Jvm.RoadKit.acmp (g := (mkF m 55 #[.val (.int i0), .val (.int i1), .val (.int (i0.toUInt32.toUInt16.toUInt32.toInt32)), .val (.ref b1_0), .val (.ref o_ADMIN)] [(.ref o_ADMIN), (.ref o_ADMIN)])) X8 hx rfl rfl rfl (pc0 := 55) (pc' := 58) (same := true) rfl (hb hby at_55) rfl (decide_eq_true rfl) (by decide) (by decide) ?_
          show Steps p.tables e below (T8.setTop (mkF m 58 #[.val (.int i0), .val (.int i1), .val (.int (i0.toUInt32.toUInt16.toUInt32.toInt32)), .val (.ref b1_0), .val (.ref o_ADMIN)] [])) _
          refine XS.iconst X8.here hx rfl (hb hby at_58) ?_
          show Steps p.tables e below (T8.setTop (mkF m 59 #[.val (.int i0), .val (.int i1), .val (.int (i0.toUInt32.toUInt16.toUInt32.toInt32)), .val (.ref b1_0), .val (.ref o_ADMIN)] [(.int (1 : Int32))])) _
          refine XS.goto X8.here hx rfl (pc0 := 59) (pc' := 63) rfl (hb hby at_59) (by decide) (by decide) ?_
          show Steps p.tables e below (T8.setTop (mkF m 63 #[.val (.int i0), .val (.int i1), .val (.int (i0.toUInt32.toUInt16.toUInt32.toInt32)), .val (.ref b1_0), .val (.ref o_ADMIN)] [(.int (1 : Int32))])) _
          exact retN X8 hx (t := .boolean) Bd.returns (by simp) (hb hby at_63) hr
        · by_cases hs4 : (116 : Int32) = (i0.toUInt32.toUInt16.toUInt32.toInt32)
          · obtain ⟨_, _, ⟨T1, L1, k1, n1⟩, -, X1, ⟨Lc1, hQ1, l1, y1, z1⟩, st1⟩ := Jvm.LawKit.callS X0 hx (y := (⟨"com/example/delehat/delehat/protocols/whois/WhoisQuery$Flag", "of", "(C)Ljava/util/Optional;"⟩ : MethodName)) hown (mvT hZ (own_w1 hw)) (mvT hZ (own_w2 hw)) (mvT hZ (own_w3 hw)) (mvT hZ (own_w4 hw)) (by decide) (backOf (W := 0) (rm1_14 l Z a0 hw [] (i0.toUInt32.toUInt16.toUInt32.toInt32) o__VALUES kc_o__VALUES o_REGISTRAR o_REGISTRANT o_ADMIN o_TECH o_SHORT h0 n0 Z0 S_o__VALUES E_o__VALUES V_o__VALUES F_o_REGISTRAR_letter hs1 F_o_REGISTRANT_letter hs2 F_o_ADMIN_letter hs3 F_o_TECH_letter hs4) hZ (own_w4 hw) (own_w3 hw) (by decide) (by decide)) (g := (mkF m 25 #[.val (.int i0), .val (.int i1), .val (.int (i0.toUInt32.toUInt16.toUInt32.toInt32)), .unset, .unset] [(.int (i0.toUInt32.toUInt16.toUInt32.toInt32))])) rfl (by rw [hml]; rfl) (argsL := [(.int (i0.toUInt32.toUInt16.toUInt32.toInt32))]) (rest := []) (lenOf pd__C_Ljava_util_Optional_ rfl) rfl (by show 2 * 0 + _ ≤ _; exact Nat.le_of_eq rfl) (hb hby at_25) (fun _ _ => ⟨rfl, e0, (by decide : 0 + 2 ≤ _), (by decide : 0 + 6 ≤ _)⟩)
            dsimp only [Pt.U, Pt.locs, Pt.cells, Pt.slots] at X1 l1 y1 z1 st1 hQ1
            subst l1 y1 z1
            obtain ⟨b1_0, rfl, N1q, K1, sq1_0, f1_0, f1_1⟩ := hQ1
            have N1 := Fr.app N0 N1q
            have sz_b1_0 : h0.size ≤ b1_0 := sq1_0
            have sz0_b1_0 : h0.size ≤ b1_0 := sz_b1_0
            have g_b1_0 : n0 ≤ b1_0 := Nat.le_trans Z0 sz0_b1_0
            have KC2 : Keep h0 T1.heap [] := (Keep.refl h0 []).trans K1 all0
            obtain ⟨cq3, kq3, q3a, q3b, q3c⟩ := isOf hZ rfl f1_0
            obtain ⟨_, _, ⟨T3, L3, k3, n3⟩, -, X3, ⟨Lc3, hQ3, l3, y3, z3⟩, st3⟩ := X1.virtualBack hx (y := (⟨"java/util/Optional", "isPresent", "()Z"⟩ : MethodName)) (z := (⟨"java/util/Optional", "isPresent", "()Z"⟩ : MethodName)) hown (mvT hZ (own_w46 hw)) (mvT hZ (own_w47 hw)) (notFace_of_selects (args := #[]) (mvT hZ (own_w49 hw))) (mvT hZ (own_w49 hw)) (mvT hZ (own_w48 hw)) (by decide) (backOf (W := 0) (rm7_7 l Z a0 hw [] b1_0 o_TECH T1.heap n0 (Nat.le_trans Z0 KC2.1) f1_1) hZ (own_w50 hw) (own_w29 hw) (by decide) (by decide)) q3a q3c (g := (mkF m 30 #[.val (.int i0), .val (.int i1), .val (.int (i0.toUInt32.toUInt16.toUInt32.toInt32)), .val (.ref b1_0), .unset] [(.ref b1_0)])) rfl (by rw [hml]; rfl) (Steps.refl _) (argsL := []) (rest := []) (lenOf pd___Z rfl) rfl (by show 2 * 0 + _ ≤ _; exact Nat.le_of_eq rfl) (hb hby at_30) (fun _ _ => ⟨rfl, rfl, (by decide : 2 + 0 ≤ _), (by decide : 6 + 0 ≤ _)⟩)
            dsimp only [Pt.U, Pt.locs, Pt.cells, Pt.slots] at X3 l3 y3 z3 st3 hQ3
            subst l3 y3 z3
            obtain ⟨rfl, N3q, e3⟩ := hQ3
            have N3 := Fr.app N1 N3q
            obtain ⟨cq4, kq4, q4a, q4b, q4c⟩ := isOf hZ e3 f1_0
            obtain ⟨_, _, ⟨T4, L4, k4, n4⟩, -, X4, ⟨Lc4, hQ4, l4, y4, z4⟩, st4⟩ := X3.virtualBack hx (y := (⟨"java/util/Optional", "get", "()Ljava/lang/Object;"⟩ : MethodName)) (z := (⟨"java/util/Optional", "get", "()Ljava/lang/Object;"⟩ : MethodName)) hown (mvT hZ (own_w51 hw)) (mvT hZ (own_w52 hw)) (notFace_of_selects (args := #[]) (mvT hZ (own_w54 hw))) (mvT hZ (own_w54 hw)) (mvT hZ (own_w53 hw)) (by decide) (backOf (W := 0) (rm8_8 l Z a0 hw [] b1_0 o_TECH T1.heap n0 (Nat.le_trans Z0 KC2.1) f1_1) hZ (own_w55 hw) (own_w29 hw) (by decide) (by decide)) q4a q4c (g := (mkF m 37 #[.val (.int i0), .val (.int i1), .val (.int (i0.toUInt32.toUInt16.toUInt32.toInt32)), .val (.ref b1_0), .unset] [(.ref b1_0)])) rfl (by rw [hml]; rfl) (Steps.refl _) (argsL := []) (rest := []) (lenOf pd___Ljava_lang_Object_ rfl) rfl (by show 2 * 0 + _ ≤ _; exact Nat.le_of_eq rfl) (hb hby at_37) (fun _ _ => ⟨rfl, e3, (by decide : 2 + 0 ≤ _), (by decide : 6 + 0 ≤ _)⟩)
            dsimp only [Pt.U, Pt.locs, Pt.cells, Pt.slots] at X4 l4 y4 z4 st4 hQ4
            subst l4 y4 z4
            obtain ⟨rfl, N4q, e4⟩ := hQ4
            have N4 := Fr.app N3 N4q
            have c5 := E_o_TECH.keep K1
            obtain ⟨T6, X6, e6, st6⟩ := castY X4 hx hZ hown (own_w56 hw) e4 (Ins.self c5) (g := (mkF m 40 #[.val (.int i0), .val (.int i1), .val (.int (i0.toUInt32.toUInt16.toUInt32.toInt32)), .val (.ref b1_0), .unset] [(.ref o_TECH)])) rfl rfl (hb hby at_40)
            have c7 := own_sta_keep S_o_TECH K1 own_ns0
            obtain ⟨_, _, ⟨T8, L8, k8, n8⟩, -, X8, ⟨Lc8, hQ8, l8, y8, z8⟩, st8⟩ := Jvm.LawKit.callS X6 hx (y := (⟨"com/example/delehat/delehat/protocols/whois/WhoisQueryOfPinLaw", "expected", "(C)Lcom/example/delehat/delehat/protocols/whois/WhoisQuery$Flag;"⟩ : MethodName)) hown (mvT hZ (own_w58 hw)) (mvT hZ (own_w59 hw)) (mvT hZ (own_w60 hw)) (mvT hZ (own_w61 hw)) (by decide) (backOf (W := 1) (rm9_15 l Z a0 hw [] (i0.toUInt32.toUInt16.toUInt32.toInt32) o_TECH T1.heap n0 (Nat.le_trans Z0 KC2.1) (Ne.symm hs1) (Ne.symm hs2) (Ne.symm hs3) (Eq.symm hs4) c7) hZ (own_w61 hw) (own_w60 hw) (by decide) (by decide)) (g := (mkF m 52 #[.val (.int i0), .val (.int i1), .val (.int (i0.toUInt32.toUInt16.toUInt32.toInt32)), .val (.ref b1_0), .val (.ref o_TECH)] [(.int (i0.toUInt32.toUInt16.toUInt32.toInt32)), (.ref o_TECH)])) rfl (by rw [hml]; rfl) (argsL := [(.int (i0.toUInt32.toUInt16.toUInt32.toInt32))]) (rest := [(.ref o_TECH)]) (lenOf pd__C_Lcom_example_delehat_delehat_protocols_whois_WhoisQuery_Flag_ rfl) rfl (by show 2 * 0 + _ ≤ _; exact Nat.le_of_eq rfl) (hb hby at_52) (fun _ _ => ⟨rfl, e6, (by decide : 2 + 0 ≤ _), (by decide : 6 + 0 ≤ _)⟩)
            dsimp only [Pt.U, Pt.locs, Pt.cells, Pt.slots] at X8 l8 y8 z8 st8 hQ8
            subst l8 y8 z8
            obtain ⟨rfl, N8q, e8⟩ := hQ8
            have N8 := Fr.app N4 N8q
            obtain ⟨fs, hr, hrun, hended, hW, hsame⟩ := X8.leave (v := some (.int (1 : Int32))) (fun h => by rw [Bd.returns] at h; cases h)
            refine ⟨_, _, pre2 _ ?_, hrun, hended, _, _, rfl, ⟨rfl, N8⟩, ⟨_, rfl⟩, hW, hsame.mono (by decide) (by decide)⟩
            show Steps p.tables e below (s₁.setTop (mkF m 25 #[.val (.int i0), .val (.int i1), .val (.int (i0.toUInt32.toUInt16.toUInt32.toInt32)), .unset, .unset] [(.int (i0.toUInt32.toUInt16.toUInt32.toInt32))])) _
            refine st1 _ ?_
            show Steps p.tables e below (T1.setTop (mkF m 28 #[.val (.int i0), .val (.int i1), .val (.int (i0.toUInt32.toUInt16.toUInt32.toInt32)), .unset, .unset] [(.ref b1_0)])) _
            refine XS.astoreN X1.here hx rfl (hb hby at_28) rfl rfl (l' := #[.val (.int i0), .val (.int i1), .val (.int (i0.toUInt32.toUInt16.toUInt32.toInt32)), .val (.ref b1_0), .unset]) rfl ?_
            show Steps p.tables e below (T1.setTop (mkF m 29 #[.val (.int i0), .val (.int i1), .val (.int (i0.toUInt32.toUInt16.toUInt32.toInt32)), .val (.ref b1_0), .unset] [])) _
            refine XS.aloadN X1.here hx rfl (hb hby at_29) rfl rfl ?_
            show Steps p.tables e below (T1.setTop (mkF m 30 #[.val (.int i0), .val (.int i1), .val (.int (i0.toUInt32.toUInt16.toUInt32.toInt32)), .val (.ref b1_0), .unset] [(.ref b1_0)])) _
            refine st3.trans ?_
            show Steps p.tables e below (T3.setTop (mkF m 33 #[.val (.int i0), .val (.int i1), .val (.int (i0.toUInt32.toUInt16.toUInt32.toInt32)), .val (.ref b1_0), .unset] [(.int (1 : Int32))])) _
            refine XS.ifNo X3.here hx rfl (hb hby at_33) rfl ((if0 _ _).trans (feq (by decide : ¬ ((1 : Int32) = (0 : Int32)))).1) ?_
            show Steps p.tables e below (T3.setTop (mkF m 36 #[.val (.int i0), .val (.int i1), .val (.int (i0.toUInt32.toUInt16.toUInt32.toInt32)), .val (.ref b1_0), .unset] [])) _
            refine XS.aloadN X3.here hx rfl (hb hby at_36) rfl rfl ?_
            show Steps p.tables e below (T3.setTop (mkF m 37 #[.val (.int i0), .val (.int i1), .val (.int (i0.toUInt32.toUInt16.toUInt32.toInt32)), .val (.ref b1_0), .unset] [(.ref b1_0)])) _
            refine st4.trans ?_
            show Steps p.tables e below (T4.setTop (mkF m 40 #[.val (.int i0), .val (.int i1), .val (.int (i0.toUInt32.toUInt16.toUInt32.toInt32)), .val (.ref b1_0), .unset] [(.ref o_TECH)])) _
            refine st6 _ ?_
            show Steps p.tables e below (T6.setTop (mkF m 43 #[.val (.int i0), .val (.int i1), .val (.int (i0.toUInt32.toUInt16.toUInt32.toInt32)), .val (.ref b1_0), .unset] [(.ref o_TECH)])) _
            refine XS.goto X6.here hx rfl (pc0 := 43) (pc' := 47) rfl (hb hby at_43) (by decide) (by decide) ?_
            show Steps p.tables e below (T6.setTop (mkF m 47 #[.val (.int i0), .val (.int i1), .val (.int (i0.toUInt32.toUInt16.toUInt32.toInt32)), .val (.ref b1_0), .unset] [(.ref o_TECH)])) _
            refine XS.astore X6.here hx rfl (hb hby at_47) rfl rfl (l' := #[.val (.int i0), .val (.int i1), .val (.int (i0.toUInt32.toUInt16.toUInt32.toInt32)), .val (.ref b1_0), .val (.ref o_TECH)]) rfl ?_
            show Steps p.tables e below (T6.setTop (mkF m 49 #[.val (.int i0), .val (.int i1), .val (.int (i0.toUInt32.toUInt16.toUInt32.toInt32)), .val (.ref b1_0), .val (.ref o_TECH)] [])) _
            refine XS.aload X6.here hx rfl (hb hby at_49) rfl rfl ?_
            show Steps p.tables e below (T6.setTop (mkF m 51 #[.val (.int i0), .val (.int i1), .val (.int (i0.toUInt32.toUInt16.toUInt32.toInt32)), .val (.ref b1_0), .val (.ref o_TECH)] [(.ref o_TECH)])) _
            refine XS.iloadN X6.here hx rfl (hb hby at_51) rfl ?_
            show Steps p.tables e below (T6.setTop (mkF m 52 #[.val (.int i0), .val (.int i1), .val (.int (i0.toUInt32.toUInt16.toUInt32.toInt32)), .val (.ref b1_0), .val (.ref o_TECH)] [(.int (i0.toUInt32.toUInt16.toUInt32.toInt32)), (.ref o_TECH)])) _
            refine st8 _ ?_
            show Steps p.tables e below (T8.setTop (mkF m 55 #[.val (.int i0), .val (.int i1), .val (.int (i0.toUInt32.toUInt16.toUInt32.toInt32)), .val (.ref b1_0), .val (.ref o_TECH)] [(.ref o_TECH), (.ref o_TECH)])) _
            refine Jvm.RoadKit.acmp (g := (mkF m 55 #[.val (.int i0), .val (.int i1), .val (.int (i0.toUInt32.toUInt16.toUInt32.toInt32)), .val (.ref b1_0), .val (.ref o_TECH)] [(.ref o_TECH), (.ref o_TECH)])) X8 hx rfl rfl rfl (pc0 := 55) (pc' := 58) (same := true) rfl (hb hby at_55) rfl (decide_eq_true rfl) (by decide) (by decide) ?_
            show Steps p.tables e below (T8.setTop (mkF m 58 #[.val (.int i0), .val (.int i1), .val (.int (i0.toUInt32.toUInt16.toUInt32.toInt32)), .val (.ref b1_0), .val (.ref o_TECH)] [])) _
            refine XS.iconst X8.here hx rfl (hb hby at_58) ?_
            show Steps p.tables e below (T8.setTop (mkF m 59 #[.val (.int i0), .val (.int i1), .val (.int (i0.toUInt32.toUInt16.toUInt32.toInt32)), .val (.ref b1_0), .val (.ref o_TECH)] [(.int (1 : Int32))])) _
            refine XS.goto X8.here hx rfl (pc0 := 59) (pc' := 63) rfl (hb hby at_59) (by decide) (by decide) ?_
            show Steps p.tables e below (T8.setTop (mkF m 63 #[.val (.int i0), .val (.int i1), .val (.int (i0.toUInt32.toUInt16.toUInt32.toInt32)), .val (.ref b1_0), .val (.ref o_TECH)] [(.int (1 : Int32))])) _
            exact retN X8 hx (t := .boolean) Bd.returns (by simp) (hb hby at_63) hr
          · by_cases hs5 : (115 : Int32) = (i0.toUInt32.toUInt16.toUInt32.toInt32)
            · obtain ⟨_, _, ⟨T1, L1, k1, n1⟩, -, X1, ⟨Lc1, hQ1, l1, y1, z1⟩, st1⟩ := Jvm.LawKit.callS X0 hx (y := (⟨"com/example/delehat/delehat/protocols/whois/WhoisQuery$Flag", "of", "(C)Ljava/util/Optional;"⟩ : MethodName)) hown (mvT hZ (own_w1 hw)) (mvT hZ (own_w2 hw)) (mvT hZ (own_w3 hw)) (mvT hZ (own_w4 hw)) (by decide) (backOf (W := 0) (rm1_16 l Z a0 hw [] (i0.toUInt32.toUInt16.toUInt32.toInt32) o__VALUES kc_o__VALUES o_REGISTRAR o_REGISTRANT o_ADMIN o_TECH o_SHORT h0 n0 Z0 S_o__VALUES E_o__VALUES V_o__VALUES F_o_REGISTRAR_letter hs1 F_o_REGISTRANT_letter hs2 F_o_ADMIN_letter hs3 F_o_TECH_letter hs4 F_o_SHORT_letter hs5) hZ (own_w4 hw) (own_w3 hw) (by decide) (by decide)) (g := (mkF m 25 #[.val (.int i0), .val (.int i1), .val (.int (i0.toUInt32.toUInt16.toUInt32.toInt32)), .unset, .unset] [(.int (i0.toUInt32.toUInt16.toUInt32.toInt32))])) rfl (by rw [hml]; rfl) (argsL := [(.int (i0.toUInt32.toUInt16.toUInt32.toInt32))]) (rest := []) (lenOf pd__C_Ljava_util_Optional_ rfl) rfl (by show 2 * 0 + _ ≤ _; exact Nat.le_of_eq rfl) (hb hby at_25) (fun _ _ => ⟨rfl, e0, (by decide : 0 + 2 ≤ _), (by decide : 0 + 6 ≤ _)⟩)
              dsimp only [Pt.U, Pt.locs, Pt.cells, Pt.slots] at X1 l1 y1 z1 st1 hQ1
              subst l1 y1 z1
              obtain ⟨b1_0, rfl, N1q, K1, sq1_0, f1_0, f1_1⟩ := hQ1
              have N1 := Fr.app N0 N1q
              have sz_b1_0 : h0.size ≤ b1_0 := sq1_0
              have sz0_b1_0 : h0.size ≤ b1_0 := sz_b1_0
              have g_b1_0 : n0 ≤ b1_0 := Nat.le_trans Z0 sz0_b1_0
              have KC2 : Keep h0 T1.heap [] := (Keep.refl h0 []).trans K1 all0
              obtain ⟨cq3, kq3, q3a, q3b, q3c⟩ := isOf hZ rfl f1_0
              obtain ⟨_, _, ⟨T3, L3, k3, n3⟩, -, X3, ⟨Lc3, hQ3, l3, y3, z3⟩, st3⟩ := X1.virtualBack hx (y := (⟨"java/util/Optional", "isPresent", "()Z"⟩ : MethodName)) (z := (⟨"java/util/Optional", "isPresent", "()Z"⟩ : MethodName)) hown (mvT hZ (own_w46 hw)) (mvT hZ (own_w47 hw)) (notFace_of_selects (args := #[]) (mvT hZ (own_w49 hw))) (mvT hZ (own_w49 hw)) (mvT hZ (own_w48 hw)) (by decide) (backOf (W := 0) (rm7_7 l Z a0 hw [] b1_0 o_SHORT T1.heap n0 (Nat.le_trans Z0 KC2.1) f1_1) hZ (own_w50 hw) (own_w29 hw) (by decide) (by decide)) q3a q3c (g := (mkF m 30 #[.val (.int i0), .val (.int i1), .val (.int (i0.toUInt32.toUInt16.toUInt32.toInt32)), .val (.ref b1_0), .unset] [(.ref b1_0)])) rfl (by rw [hml]; rfl) (Steps.refl _) (argsL := []) (rest := []) (lenOf pd___Z rfl) rfl (by show 2 * 0 + _ ≤ _; exact Nat.le_of_eq rfl) (hb hby at_30) (fun _ _ => ⟨rfl, rfl, (by decide : 2 + 0 ≤ _), (by decide : 6 + 0 ≤ _)⟩)
              dsimp only [Pt.U, Pt.locs, Pt.cells, Pt.slots] at X3 l3 y3 z3 st3 hQ3
              subst l3 y3 z3
              obtain ⟨rfl, N3q, e3⟩ := hQ3
              have N3 := Fr.app N1 N3q
              obtain ⟨cq4, kq4, q4a, q4b, q4c⟩ := isOf hZ e3 f1_0
              obtain ⟨_, _, ⟨T4, L4, k4, n4⟩, -, X4, ⟨Lc4, hQ4, l4, y4, z4⟩, st4⟩ := X3.virtualBack hx (y := (⟨"java/util/Optional", "get", "()Ljava/lang/Object;"⟩ : MethodName)) (z := (⟨"java/util/Optional", "get", "()Ljava/lang/Object;"⟩ : MethodName)) hown (mvT hZ (own_w51 hw)) (mvT hZ (own_w52 hw)) (notFace_of_selects (args := #[]) (mvT hZ (own_w54 hw))) (mvT hZ (own_w54 hw)) (mvT hZ (own_w53 hw)) (by decide) (backOf (W := 0) (rm8_8 l Z a0 hw [] b1_0 o_SHORT T1.heap n0 (Nat.le_trans Z0 KC2.1) f1_1) hZ (own_w55 hw) (own_w29 hw) (by decide) (by decide)) q4a q4c (g := (mkF m 37 #[.val (.int i0), .val (.int i1), .val (.int (i0.toUInt32.toUInt16.toUInt32.toInt32)), .val (.ref b1_0), .unset] [(.ref b1_0)])) rfl (by rw [hml]; rfl) (Steps.refl _) (argsL := []) (rest := []) (lenOf pd___Ljava_lang_Object_ rfl) rfl (by show 2 * 0 + _ ≤ _; exact Nat.le_of_eq rfl) (hb hby at_37) (fun _ _ => ⟨rfl, e3, (by decide : 2 + 0 ≤ _), (by decide : 6 + 0 ≤ _)⟩)
              dsimp only [Pt.U, Pt.locs, Pt.cells, Pt.slots] at X4 l4 y4 z4 st4 hQ4
              subst l4 y4 z4
              obtain ⟨rfl, N4q, e4⟩ := hQ4
              have N4 := Fr.app N3 N4q
              have c5 := E_o_SHORT.keep K1
              obtain ⟨T6, X6, e6, st6⟩ := castY X4 hx hZ hown (own_w56 hw) e4 (Ins.self c5) (g := (mkF m 40 #[.val (.int i0), .val (.int i1), .val (.int (i0.toUInt32.toUInt16.toUInt32.toInt32)), .val (.ref b1_0), .unset] [(.ref o_SHORT)])) rfl rfl (hb hby at_40)
              have c7 := own_sta_keep S_o_SHORT K1 own_ns0
              obtain ⟨_, _, ⟨T8, L8, k8, n8⟩, -, X8, ⟨Lc8, hQ8, l8, y8, z8⟩, st8⟩ := Jvm.LawKit.callS X6 hx (y := (⟨"com/example/delehat/delehat/protocols/whois/WhoisQueryOfPinLaw", "expected", "(C)Lcom/example/delehat/delehat/protocols/whois/WhoisQuery$Flag;"⟩ : MethodName)) hown (mvT hZ (own_w58 hw)) (mvT hZ (own_w59 hw)) (mvT hZ (own_w60 hw)) (mvT hZ (own_w61 hw)) (by decide) (backOf (W := 1) (rm9_17 l Z a0 hw [] (i0.toUInt32.toUInt16.toUInt32.toInt32) o_SHORT T1.heap n0 (Nat.le_trans Z0 KC2.1) (Ne.symm hs1) (Ne.symm hs2) (Ne.symm hs3) (Ne.symm hs4) (Eq.symm hs5) c7) hZ (own_w61 hw) (own_w60 hw) (by decide) (by decide)) (g := (mkF m 52 #[.val (.int i0), .val (.int i1), .val (.int (i0.toUInt32.toUInt16.toUInt32.toInt32)), .val (.ref b1_0), .val (.ref o_SHORT)] [(.int (i0.toUInt32.toUInt16.toUInt32.toInt32)), (.ref o_SHORT)])) rfl (by rw [hml]; rfl) (argsL := [(.int (i0.toUInt32.toUInt16.toUInt32.toInt32))]) (rest := [(.ref o_SHORT)]) (lenOf pd__C_Lcom_example_delehat_delehat_protocols_whois_WhoisQuery_Flag_ rfl) rfl (by show 2 * 0 + _ ≤ _; exact Nat.le_of_eq rfl) (hb hby at_52) (fun _ _ => ⟨rfl, e6, (by decide : 2 + 0 ≤ _), (by decide : 6 + 0 ≤ _)⟩)
              dsimp only [Pt.U, Pt.locs, Pt.cells, Pt.slots] at X8 l8 y8 z8 st8 hQ8
              subst l8 y8 z8
              obtain ⟨rfl, N8q, e8⟩ := hQ8
              have N8 := Fr.app N4 N8q
              obtain ⟨fs, hr, hrun, hended, hW, hsame⟩ := X8.leave (v := some (.int (1 : Int32))) (fun h => by rw [Bd.returns] at h; cases h)
              refine ⟨_, _, pre2 _ ?_, hrun, hended, _, _, rfl, ⟨rfl, N8⟩, ⟨_, rfl⟩, hW, hsame.mono (by decide) (by decide)⟩
              show Steps p.tables e below (s₁.setTop (mkF m 25 #[.val (.int i0), .val (.int i1), .val (.int (i0.toUInt32.toUInt16.toUInt32.toInt32)), .unset, .unset] [(.int (i0.toUInt32.toUInt16.toUInt32.toInt32))])) _
              refine st1 _ ?_
              show Steps p.tables e below (T1.setTop (mkF m 28 #[.val (.int i0), .val (.int i1), .val (.int (i0.toUInt32.toUInt16.toUInt32.toInt32)), .unset, .unset] [(.ref b1_0)])) _
              refine XS.astoreN X1.here hx rfl (hb hby at_28) rfl rfl (l' := #[.val (.int i0), .val (.int i1), .val (.int (i0.toUInt32.toUInt16.toUInt32.toInt32)), .val (.ref b1_0), .unset]) rfl ?_
              show Steps p.tables e below (T1.setTop (mkF m 29 #[.val (.int i0), .val (.int i1), .val (.int (i0.toUInt32.toUInt16.toUInt32.toInt32)), .val (.ref b1_0), .unset] [])) _
              refine XS.aloadN X1.here hx rfl (hb hby at_29) rfl rfl ?_
              show Steps p.tables e below (T1.setTop (mkF m 30 #[.val (.int i0), .val (.int i1), .val (.int (i0.toUInt32.toUInt16.toUInt32.toInt32)), .val (.ref b1_0), .unset] [(.ref b1_0)])) _
              refine st3.trans ?_
              show Steps p.tables e below (T3.setTop (mkF m 33 #[.val (.int i0), .val (.int i1), .val (.int (i0.toUInt32.toUInt16.toUInt32.toInt32)), .val (.ref b1_0), .unset] [(.int (1 : Int32))])) _
              refine XS.ifNo X3.here hx rfl (hb hby at_33) rfl ((if0 _ _).trans (feq (by decide : ¬ ((1 : Int32) = (0 : Int32)))).1) ?_
              show Steps p.tables e below (T3.setTop (mkF m 36 #[.val (.int i0), .val (.int i1), .val (.int (i0.toUInt32.toUInt16.toUInt32.toInt32)), .val (.ref b1_0), .unset] [])) _
              refine XS.aloadN X3.here hx rfl (hb hby at_36) rfl rfl ?_
              show Steps p.tables e below (T3.setTop (mkF m 37 #[.val (.int i0), .val (.int i1), .val (.int (i0.toUInt32.toUInt16.toUInt32.toInt32)), .val (.ref b1_0), .unset] [(.ref b1_0)])) _
              refine st4.trans ?_
              show Steps p.tables e below (T4.setTop (mkF m 40 #[.val (.int i0), .val (.int i1), .val (.int (i0.toUInt32.toUInt16.toUInt32.toInt32)), .val (.ref b1_0), .unset] [(.ref o_SHORT)])) _
              refine st6 _ ?_
              show Steps p.tables e below (T6.setTop (mkF m 43 #[.val (.int i0), .val (.int i1), .val (.int (i0.toUInt32.toUInt16.toUInt32.toInt32)), .val (.ref b1_0), .unset] [(.ref o_SHORT)])) _
              refine XS.goto X6.here hx rfl (pc0 := 43) (pc' := 47) rfl (hb hby at_43) (by decide) (by decide) ?_
              show Steps p.tables e below (T6.setTop (mkF m 47 #[.val (.int i0), .val (.int i1), .val (.int (i0.toUInt32.toUInt16.toUInt32.toInt32)), .val (.ref b1_0), .unset] [(.ref o_SHORT)])) _
              refine XS.astore X6.here hx rfl (hb hby at_47) rfl rfl (l' := #[.val (.int i0), .val (.int i1), .val (.int (i0.toUInt32.toUInt16.toUInt32.toInt32)), .val (.ref b1_0), .val (.ref o_SHORT)]) rfl ?_
              show Steps p.tables e below (T6.setTop (mkF m 49 #[.val (.int i0), .val (.int i1), .val (.int (i0.toUInt32.toUInt16.toUInt32.toInt32)), .val (.ref b1_0), .val (.ref o_SHORT)] [])) _
              refine XS.aload X6.here hx rfl (hb hby at_49) rfl rfl ?_
              show Steps p.tables e below (T6.setTop (mkF m 51 #[.val (.int i0), .val (.int i1), .val (.int (i0.toUInt32.toUInt16.toUInt32.toInt32)), .val (.ref b1_0), .val (.ref o_SHORT)] [(.ref o_SHORT)])) _
              refine XS.iloadN X6.here hx rfl (hb hby at_51) rfl ?_
              show Steps p.tables e below (T6.setTop (mkF m 52 #[.val (.int i0), .val (.int i1), .val (.int (i0.toUInt32.toUInt16.toUInt32.toInt32)), .val (.ref b1_0), .val (.ref o_SHORT)] [(.int (i0.toUInt32.toUInt16.toUInt32.toInt32)), (.ref o_SHORT)])) _
              refine st8 _ ?_
              show Steps p.tables e below (T8.setTop (mkF m 55 #[.val (.int i0), .val (.int i1), .val (.int (i0.toUInt32.toUInt16.toUInt32.toInt32)), .val (.ref b1_0), .val (.ref o_SHORT)] [(.ref o_SHORT), (.ref o_SHORT)])) _
              refine Jvm.RoadKit.acmp (g := (mkF m 55 #[.val (.int i0), .val (.int i1), .val (.int (i0.toUInt32.toUInt16.toUInt32.toInt32)), .val (.ref b1_0), .val (.ref o_SHORT)] [(.ref o_SHORT), (.ref o_SHORT)])) X8 hx rfl rfl rfl (pc0 := 55) (pc' := 58) (same := true) rfl (hb hby at_55) rfl (decide_eq_true rfl) (by decide) (by decide) ?_
              show Steps p.tables e below (T8.setTop (mkF m 58 #[.val (.int i0), .val (.int i1), .val (.int (i0.toUInt32.toUInt16.toUInt32.toInt32)), .val (.ref b1_0), .val (.ref o_SHORT)] [])) _
              refine XS.iconst X8.here hx rfl (hb hby at_58) ?_
              show Steps p.tables e below (T8.setTop (mkF m 59 #[.val (.int i0), .val (.int i1), .val (.int (i0.toUInt32.toUInt16.toUInt32.toInt32)), .val (.ref b1_0), .val (.ref o_SHORT)] [(.int (1 : Int32))])) _
              refine XS.goto X8.here hx rfl (pc0 := 59) (pc' := 63) rfl (hb hby at_59) (by decide) (by decide) ?_
              show Steps p.tables e below (T8.setTop (mkF m 63 #[.val (.int i0), .val (.int i1), .val (.int (i0.toUInt32.toUInt16.toUInt32.toInt32)), .val (.ref b1_0), .val (.ref o_SHORT)] [(.int (1 : Int32))])) _
              exact retN X8 hx (t := .boolean) Bd.returns (by simp) (hb hby at_63) hr
            · obtain ⟨_, _, ⟨T1, L1, k1, n1⟩, -, X1, ⟨Lc1, hQ1, l1, y1, z1⟩, st1⟩ := Jvm.LawKit.callS X0 hx (y := (⟨"com/example/delehat/delehat/protocols/whois/WhoisQuery$Flag", "of", "(C)Ljava/util/Optional;"⟩ : MethodName)) hown (mvT hZ (own_w1 hw)) (mvT hZ (own_w2 hw)) (mvT hZ (own_w3 hw)) (mvT hZ (own_w4 hw)) (by decide) (backOf (W := 0) (rm1_18 l Z a0 hw [] (i0.toUInt32.toUInt16.toUInt32.toInt32) o__VALUES kc_o__VALUES o_REGISTRAR o_REGISTRANT o_ADMIN o_TECH o_SHORT o_EMPTY h0 n0 Z0 S_o__VALUES E_o__VALUES V_o__VALUES F_o_REGISTRAR_letter hs1 F_o_REGISTRANT_letter hs2 F_o_ADMIN_letter hs3 F_o_TECH_letter hs4 F_o_SHORT_letter hs5 S_o_EMPTY) hZ (own_w4 hw) (own_w3 hw) (by decide) (by decide)) (g := (mkF m 25 #[.val (.int i0), .val (.int i1), .val (.int (i0.toUInt32.toUInt16.toUInt32.toInt32)), .unset, .unset] [(.int (i0.toUInt32.toUInt16.toUInt32.toInt32))])) rfl (by rw [hml]; rfl) (argsL := [(.int (i0.toUInt32.toUInt16.toUInt32.toInt32))]) (rest := []) (lenOf pd__C_Ljava_util_Optional_ rfl) rfl (by show 2 * 0 + _ ≤ _; exact Nat.le_of_eq rfl) (hb hby at_25) (fun _ _ => ⟨rfl, e0, (by decide : 0 + 1 ≤ _), (by decide : 0 + 5 ≤ _)⟩)
              dsimp only [Pt.U, Pt.locs, Pt.cells, Pt.slots] at X1 l1 y1 z1 st1 hQ1
              subst l1 y1 z1
              obtain ⟨rfl, N1q, K1⟩ := hQ1
              have N1 := Fr.app N0 N1q
              have KC2 : Keep h0 T1.heap [] := (Keep.refl h0 []).trans K1 all0
              have c3 := E_o_EMPTY.keep K1
              have c4 := F_o_EMPTY_value.keep K1 nin0
              obtain ⟨cq5, kq5, q5a, q5b, q5c⟩ := isOf hZ rfl c3
              obtain ⟨_, _, ⟨T5, L5, k5, n5⟩, -, X5, ⟨Lc5, hQ5, l5, y5, z5⟩, st5⟩ := X1.virtualBack hx (y := (⟨"java/util/Optional", "isPresent", "()Z"⟩ : MethodName)) (z := (⟨"java/util/Optional", "isPresent", "()Z"⟩ : MethodName)) hown (mvT hZ (own_w46 hw)) (mvT hZ (own_w47 hw)) (notFace_of_selects (args := #[]) (mvT hZ (own_w49 hw))) (mvT hZ (own_w49 hw)) (mvT hZ (own_w48 hw)) (by decide) (backOf (W := 0) (rm7_19 l Z a0 hw [] o_EMPTY T1.heap n0 (Nat.le_trans Z0 KC2.1) c4) hZ (own_w50 hw) (own_w29 hw) (by decide) (by decide)) q5a q5c (g := (mkF m 30 #[.val (.int i0), .val (.int i1), .val (.int (i0.toUInt32.toUInt16.toUInt32.toInt32)), .val (.ref o_EMPTY), .unset] [(.ref o_EMPTY)])) rfl (by rw [hml]; rfl) (Steps.refl _) (argsL := []) (rest := []) (lenOf pd___Z rfl) rfl (by show 2 * 0 + _ ≤ _; exact Nat.le_of_eq rfl) (hb hby at_30) (fun _ _ => ⟨rfl, rfl, (by decide : 1 + 0 ≤ _), (by decide : 5 + 0 ≤ _)⟩)
              dsimp only [Pt.U, Pt.locs, Pt.cells, Pt.slots] at X5 l5 y5 z5 st5 hQ5
              subst l5 y5 z5
              obtain ⟨rfl, N5q, e5⟩ := hQ5
              have N5 := Fr.app N1 N5q
              obtain ⟨_, _, ⟨T6, L6, k6, n6⟩, -, X6, ⟨Lc6, hQ6, l6, y6, z6⟩, st6⟩ := Jvm.LawKit.callS X5 hx (y := (⟨"com/example/delehat/delehat/protocols/whois/WhoisQueryOfPinLaw", "expected", "(C)Lcom/example/delehat/delehat/protocols/whois/WhoisQuery$Flag;"⟩ : MethodName)) hown (mvT hZ (own_w58 hw)) (mvT hZ (own_w59 hw)) (mvT hZ (own_w60 hw)) (mvT hZ (own_w61 hw)) (by decide) (backOf (W := 1) (rm9_20 l Z a0 hw [] (i0.toUInt32.toUInt16.toUInt32.toInt32) T1.heap n0 (Nat.le_trans Z0 KC2.1) (Ne.symm hs1) (Ne.symm hs2) (Ne.symm hs3) (Ne.symm hs4) (Ne.symm hs5)) hZ (own_w61 hw) (own_w60 hw) (by decide) (by decide)) (g := (mkF m 52 #[.val (.int i0), .val (.int i1), .val (.int (i0.toUInt32.toUInt16.toUInt32.toInt32)), .val (.ref o_EMPTY), .val .null] [(.int (i0.toUInt32.toUInt16.toUInt32.toInt32)), .null])) rfl (by rw [hml]; rfl) (argsL := [(.int (i0.toUInt32.toUInt16.toUInt32.toInt32))]) (rest := [.null]) (lenOf pd__C_Lcom_example_delehat_delehat_protocols_whois_WhoisQuery_Flag_ rfl) rfl (by show 2 * 0 + _ ≤ _; exact Nat.le_of_eq rfl) (hb hby at_52) (fun _ _ => ⟨rfl, e5, (by decide : 1 + 0 ≤ _), (by decide : 5 + 0 ≤ _)⟩)
              dsimp only [Pt.U, Pt.locs, Pt.cells, Pt.slots] at X6 l6 y6 z6 st6 hQ6
              subst l6 y6 z6
              obtain ⟨rfl, N6q, e6⟩ := hQ6
              have N6 := Fr.app N5 N6q
              obtain ⟨fs, hr, hrun, hended, hW, hsame⟩ := X6.leave (v := some (.int (1 : Int32))) (fun h => by rw [Bd.returns] at h; cases h)
              refine ⟨_, _, pre2 _ ?_, hrun, hended, _, _, rfl, ⟨rfl, N6⟩, ⟨_, rfl⟩, hW, hsame.mono (by decide) (by decide)⟩
              show Steps p.tables e below (s₁.setTop (mkF m 25 #[.val (.int i0), .val (.int i1), .val (.int (i0.toUInt32.toUInt16.toUInt32.toInt32)), .unset, .unset] [(.int (i0.toUInt32.toUInt16.toUInt32.toInt32))])) _
              refine st1 _ ?_
              show Steps p.tables e below (T1.setTop (mkF m 28 #[.val (.int i0), .val (.int i1), .val (.int (i0.toUInt32.toUInt16.toUInt32.toInt32)), .unset, .unset] [(.ref o_EMPTY)])) _
              refine XS.astoreN X1.here hx rfl (hb hby at_28) rfl rfl (l' := #[.val (.int i0), .val (.int i1), .val (.int (i0.toUInt32.toUInt16.toUInt32.toInt32)), .val (.ref o_EMPTY), .unset]) rfl ?_
              show Steps p.tables e below (T1.setTop (mkF m 29 #[.val (.int i0), .val (.int i1), .val (.int (i0.toUInt32.toUInt16.toUInt32.toInt32)), .val (.ref o_EMPTY), .unset] [])) _
              refine XS.aloadN X1.here hx rfl (hb hby at_29) rfl rfl ?_
              show Steps p.tables e below (T1.setTop (mkF m 30 #[.val (.int i0), .val (.int i1), .val (.int (i0.toUInt32.toUInt16.toUInt32.toInt32)), .val (.ref o_EMPTY), .unset] [(.ref o_EMPTY)])) _
              refine st5.trans ?_
              show Steps p.tables e below (T5.setTop (mkF m 33 #[.val (.int i0), .val (.int i1), .val (.int (i0.toUInt32.toUInt16.toUInt32.toInt32)), .val (.ref o_EMPTY), .unset] [(.int (0 : Int32))])) _
              refine XS.ifYes X5.here hx rfl (pc0 := 33) (pc' := 46) rfl (hb hby at_33) rfl ((if0 _ _).trans (teq (by decide : (0 : Int32) = (0 : Int32))).1) (by decide) (by decide) ?_
              show Steps p.tables e below (T5.setTop (mkF m 46 #[.val (.int i0), .val (.int i1), .val (.int (i0.toUInt32.toUInt16.toUInt32.toInt32)), .val (.ref o_EMPTY), .unset] [])) _
              refine XS.aconstNull X5.here hx rfl (hb hby at_46) ?_
              show Steps p.tables e below (T5.setTop (mkF m 47 #[.val (.int i0), .val (.int i1), .val (.int (i0.toUInt32.toUInt16.toUInt32.toInt32)), .val (.ref o_EMPTY), .unset] [.null])) _
              refine XS.astore X5.here hx rfl (hb hby at_47) rfl rfl (l' := #[.val (.int i0), .val (.int i1), .val (.int (i0.toUInt32.toUInt16.toUInt32.toInt32)), .val (.ref o_EMPTY), .val .null]) rfl ?_
              show Steps p.tables e below (T5.setTop (mkF m 49 #[.val (.int i0), .val (.int i1), .val (.int (i0.toUInt32.toUInt16.toUInt32.toInt32)), .val (.ref o_EMPTY), .val .null] [])) _
              refine XS.aload X5.here hx rfl (hb hby at_49) rfl rfl ?_
              show Steps p.tables e below (T5.setTop (mkF m 51 #[.val (.int i0), .val (.int i1), .val (.int (i0.toUInt32.toUInt16.toUInt32.toInt32)), .val (.ref o_EMPTY), .val .null] [.null])) _
              refine XS.iloadN X5.here hx rfl (hb hby at_51) rfl ?_
              show Steps p.tables e below (T5.setTop (mkF m 52 #[.val (.int i0), .val (.int i1), .val (.int (i0.toUInt32.toUInt16.toUInt32.toInt32)), .val (.ref o_EMPTY), .val .null] [(.int (i0.toUInt32.toUInt16.toUInt32.toInt32)), .null])) _
              refine st6 _ ?_
              show Steps p.tables e below (T6.setTop (mkF m 55 #[.val (.int i0), .val (.int i1), .val (.int (i0.toUInt32.toUInt16.toUInt32.toInt32)), .val (.ref o_EMPTY), .val .null] [.null, .null])) _
              refine Jvm.RoadKit.acmp (g := (mkF m 55 #[.val (.int i0), .val (.int i1), .val (.int (i0.toUInt32.toUInt16.toUInt32.toInt32)), .val (.ref o_EMPTY), .val .null] [.null, .null])) X6 hx rfl rfl rfl (pc0 := 55) (pc' := 58) (same := true) rfl (hb hby at_55) rfl (decide_eq_true rfl) (by decide) (by decide) ?_
              show Steps p.tables e below (T6.setTop (mkF m 58 #[.val (.int i0), .val (.int i1), .val (.int (i0.toUInt32.toUInt16.toUInt32.toInt32)), .val (.ref o_EMPTY), .val .null] [])) _
              refine XS.iconst X6.here hx rfl (hb hby at_58) ?_
              show Steps p.tables e below (T6.setTop (mkF m 59 #[.val (.int i0), .val (.int i1), .val (.int (i0.toUInt32.toUInt16.toUInt32.toInt32)), .val (.ref o_EMPTY), .val .null] [(.int (1 : Int32))])) _
              refine XS.goto X6.here hx rfl (pc0 := 59) (pc' := 63) rfl (hb hby at_59) (by decide) (by decide) ?_
              show Steps p.tables e below (T6.setTop (mkF m 63 #[.val (.int i0), .val (.int i1), .val (.int (i0.toUInt32.toUInt16.toUInt32.toInt32)), .val (.ref o_EMPTY), .val .null] [(.int (1 : Int32))])) _
              exact retN X6 hx (t := .boolean) Bd.returns (by simp) (hb hby at_63) hr
  · have pre3 : ∀ t, Steps p.tables e below (s₁.setTop (mkF m 25 #[.val (.int i0), .val (.int i1), .val (.int (((97 : Int32) + ((i0 &&& (2147483647 : Int32)) % (26 : Int32))).toUInt32.toUInt16.toUInt32.toInt32)), .unset, .unset] [(.int (((97 : Int32) + ((i0 &&& (2147483647 : Int32)) % (26 : Int32))).toUInt32.toUInt16.toUInt32.toInt32))])) t → Steps p.tables e below (s₁.setTop (entryFrame m #[(.int i0), (.int i1)] maxLocals)) t := fun t kk => pre1 t (by
      show Steps p.tables e below (s₁.setTop (mkF m 3 #[.val (.int i0), .val (.int i1), .unset, .unset, .unset] [(.int (i1 &&& (1 : Int32)))])) _
      rw [he0]
      show Steps p.tables e below (s₁.setTop (mkF m 3 #[.val (.int i0), .val (.int i1), .unset, .unset, .unset] [(.int (1 : Int32))])) _
      refine XS.ifNo X0.here hx rfl (hb hby at_3) rfl ((if0 _ _).trans (feq (by decide : ¬ ((1 : Int32) = (0 : Int32)))).1) ?_
      show Steps p.tables e below (s₁.setTop (mkF m 6 #[.val (.int i0), .val (.int i1), .unset, .unset, .unset] [])) _
      refine XS.bipush X0.here hx rfl (hb hby at_6) ?_
      show Steps p.tables e below (s₁.setTop (mkF m 8 #[.val (.int i0), .val (.int i1), .unset, .unset, .unset] [(.int (97 : Int32))])) _
      refine XS.iloadN X0.here hx rfl (hb hby at_8) rfl ?_
      show Steps p.tables e below (s₁.setTop (mkF m 9 #[.val (.int i0), .val (.int i1), .unset, .unset, .unset] [(.int i0), (.int (97 : Int32))])) _
      refine X0.ldcInt hx hown (mvT hZ (own_w0 hw)) (g := (mkF m 9 #[.val (.int i0), .val (.int i1), .unset, .unset, .unset] [(.int i0), (.int (97 : Int32))])) rfl (hb hby at_9) _ ?_
      show Steps p.tables e below (s₁.setTop (mkF m 11 #[.val (.int i0), .val (.int i1), .unset, .unset, .unset] [(.int (2147483647 : Int32)), (.int i0), (.int (97 : Int32))])) _
      refine XS.iand X0.here hx rfl (hb hby at_11) rfl ?_
      show Steps p.tables e below (s₁.setTop (mkF m 12 #[.val (.int i0), .val (.int i1), .unset, .unset, .unset] [(.int (i0 &&& (2147483647 : Int32))), (.int (97 : Int32))])) _
      refine XS.bipush X0.here hx rfl (hb hby at_12) ?_
      show Steps p.tables e below (s₁.setTop (mkF m 14 #[.val (.int i0), .val (.int i1), .unset, .unset, .unset] [(.int (26 : Int32)), (.int (i0 &&& (2147483647 : Int32))), (.int (97 : Int32))])) _
      refine iremM X0 hx rfl (hb hby at_14) rfl (by decide) ?_
      show Steps p.tables e below (s₁.setTop (mkF m 15 #[.val (.int i0), .val (.int i1), .unset, .unset, .unset] [(.int ((i0 &&& (2147483647 : Int32)) % (26 : Int32))), (.int (97 : Int32))])) _
      refine XS.iadd X0.here hx rfl (hb hby at_15) rfl ?_
      show Steps p.tables e below (s₁.setTop (mkF m 16 #[.val (.int i0), .val (.int i1), .unset, .unset, .unset] [(.int ((97 : Int32) + ((i0 &&& (2147483647 : Int32)) % (26 : Int32))))])) _
      refine XS.i2c X0.here hx rfl (hb hby at_16) rfl ?_
      show Steps p.tables e below (s₁.setTop (mkF m 17 #[.val (.int i0), .val (.int i1), .unset, .unset, .unset] [(.int (((97 : Int32) + ((i0 &&& (2147483647 : Int32)) % (26 : Int32))).toUInt32.toUInt16.toUInt32.toInt32))])) _
      refine XS.istoreN X0.here hx rfl (hb hby at_17) rfl (l' := #[.val (.int i0), .val (.int i1), .val (.int (((97 : Int32) + ((i0 &&& (2147483647 : Int32)) % (26 : Int32))).toUInt32.toUInt16.toUInt32.toInt32)), .unset, .unset]) rfl ?_
      show Steps p.tables e below (s₁.setTop (mkF m 18 #[.val (.int i0), .val (.int i1), .val (.int (((97 : Int32) + ((i0 &&& (2147483647 : Int32)) % (26 : Int32))).toUInt32.toUInt16.toUInt32.toInt32)), .unset, .unset] [])) _
      refine XS.goto X0.here hx rfl (pc0 := 18) (pc' := 24) rfl (hb hby at_18) (by decide) (by decide) ?_
      show Steps p.tables e below (s₁.setTop (mkF m 24 #[.val (.int i0), .val (.int i1), .val (.int (((97 : Int32) + ((i0 &&& (2147483647 : Int32)) % (26 : Int32))).toUInt32.toUInt16.toUInt32.toInt32)), .unset, .unset] [])) _
      refine XS.iloadN X0.here hx rfl (hb hby at_24) rfl ?_
      show Steps p.tables e below (s₁.setTop (mkF m 25 #[.val (.int i0), .val (.int i1), .val (.int (((97 : Int32) + ((i0 &&& (2147483647 : Int32)) % (26 : Int32))).toUInt32.toUInt16.toUInt32.toInt32)), .unset, .unset] [(.int (((97 : Int32) + ((i0 &&& (2147483647 : Int32)) % (26 : Int32))).toUInt32.toUInt16.toUInt32.toInt32))])) _
      exact kk)
    by_cases hs1 : (114 : Int32) = (((97 : Int32) + ((i0 &&& (2147483647 : Int32)) % (26 : Int32))).toUInt32.toUInt16.toUInt32.toInt32)
    · obtain ⟨_, _, ⟨T1, L1, k1, n1⟩, -, X1, ⟨Lc1, hQ1, l1, y1, z1⟩, st1⟩ := Jvm.LawKit.callS X0 hx (y := (⟨"com/example/delehat/delehat/protocols/whois/WhoisQuery$Flag", "of", "(C)Ljava/util/Optional;"⟩ : MethodName)) hown (mvT hZ (own_w1 hw)) (mvT hZ (own_w2 hw)) (mvT hZ (own_w3 hw)) (mvT hZ (own_w4 hw)) (by decide) (backOf (W := 0) (rm1_6 l Z a0 hw [] (((97 : Int32) + ((i0 &&& (2147483647 : Int32)) % (26 : Int32))).toUInt32.toUInt16.toUInt32.toInt32) o__VALUES kc_o__VALUES o_REGISTRAR o_REGISTRANT o_ADMIN o_TECH o_SHORT h0 n0 Z0 S_o__VALUES E_o__VALUES V_o__VALUES F_o_REGISTRAR_letter hs1) hZ (own_w4 hw) (own_w3 hw) (by decide) (by decide)) (g := (mkF m 25 #[.val (.int i0), .val (.int i1), .val (.int (((97 : Int32) + ((i0 &&& (2147483647 : Int32)) % (26 : Int32))).toUInt32.toUInt16.toUInt32.toInt32)), .unset, .unset] [(.int (((97 : Int32) + ((i0 &&& (2147483647 : Int32)) % (26 : Int32))).toUInt32.toUInt16.toUInt32.toInt32))])) rfl (by rw [hml]; rfl) (argsL := [(.int (((97 : Int32) + ((i0 &&& (2147483647 : Int32)) % (26 : Int32))).toUInt32.toUInt16.toUInt32.toInt32))]) (rest := []) (lenOf pd__C_Ljava_util_Optional_ rfl) rfl (by show 2 * 0 + _ ≤ _; exact Nat.le_of_eq rfl) (hb hby at_25) (fun _ _ => ⟨rfl, e0, (by decide : 0 + 2 ≤ _), (by decide : 0 + 6 ≤ _)⟩)
      dsimp only [Pt.U, Pt.locs, Pt.cells, Pt.slots] at X1 l1 y1 z1 st1 hQ1
      subst l1 y1 z1
      obtain ⟨b1_0, rfl, N1q, K1, sq1_0, f1_0, f1_1⟩ := hQ1
      have N1 := Fr.app N0 N1q
      have sz_b1_0 : h0.size ≤ b1_0 := sq1_0
      have sz0_b1_0 : h0.size ≤ b1_0 := sz_b1_0
      have g_b1_0 : n0 ≤ b1_0 := Nat.le_trans Z0 sz0_b1_0
      have KC2 : Keep h0 T1.heap [] := (Keep.refl h0 []).trans K1 all0
      obtain ⟨cq3, kq3, q3a, q3b, q3c⟩ := isOf hZ rfl f1_0
      obtain ⟨_, _, ⟨T3, L3, k3, n3⟩, -, X3, ⟨Lc3, hQ3, l3, y3, z3⟩, st3⟩ := X1.virtualBack hx (y := (⟨"java/util/Optional", "isPresent", "()Z"⟩ : MethodName)) (z := (⟨"java/util/Optional", "isPresent", "()Z"⟩ : MethodName)) hown (mvT hZ (own_w46 hw)) (mvT hZ (own_w47 hw)) (notFace_of_selects (args := #[]) (mvT hZ (own_w49 hw))) (mvT hZ (own_w49 hw)) (mvT hZ (own_w48 hw)) (by decide) (backOf (W := 0) (rm7_7 l Z a0 hw [] b1_0 o_REGISTRAR T1.heap n0 (Nat.le_trans Z0 KC2.1) f1_1) hZ (own_w50 hw) (own_w29 hw) (by decide) (by decide)) q3a q3c (g := (mkF m 30 #[.val (.int i0), .val (.int i1), .val (.int (((97 : Int32) + ((i0 &&& (2147483647 : Int32)) % (26 : Int32))).toUInt32.toUInt16.toUInt32.toInt32)), .val (.ref b1_0), .unset] [(.ref b1_0)])) rfl (by rw [hml]; rfl) (Steps.refl _) (argsL := []) (rest := []) (lenOf pd___Z rfl) rfl (by show 2 * 0 + _ ≤ _; exact Nat.le_of_eq rfl) (hb hby at_30) (fun _ _ => ⟨rfl, rfl, (by decide : 2 + 0 ≤ _), (by decide : 6 + 0 ≤ _)⟩)
      dsimp only [Pt.U, Pt.locs, Pt.cells, Pt.slots] at X3 l3 y3 z3 st3 hQ3
      subst l3 y3 z3
      obtain ⟨rfl, N3q, e3⟩ := hQ3
      have N3 := Fr.app N1 N3q
      obtain ⟨cq4, kq4, q4a, q4b, q4c⟩ := isOf hZ e3 f1_0
      obtain ⟨_, _, ⟨T4, L4, k4, n4⟩, -, X4, ⟨Lc4, hQ4, l4, y4, z4⟩, st4⟩ := X3.virtualBack hx (y := (⟨"java/util/Optional", "get", "()Ljava/lang/Object;"⟩ : MethodName)) (z := (⟨"java/util/Optional", "get", "()Ljava/lang/Object;"⟩ : MethodName)) hown (mvT hZ (own_w51 hw)) (mvT hZ (own_w52 hw)) (notFace_of_selects (args := #[]) (mvT hZ (own_w54 hw))) (mvT hZ (own_w54 hw)) (mvT hZ (own_w53 hw)) (by decide) (backOf (W := 0) (rm8_8 l Z a0 hw [] b1_0 o_REGISTRAR T1.heap n0 (Nat.le_trans Z0 KC2.1) f1_1) hZ (own_w55 hw) (own_w29 hw) (by decide) (by decide)) q4a q4c (g := (mkF m 37 #[.val (.int i0), .val (.int i1), .val (.int (((97 : Int32) + ((i0 &&& (2147483647 : Int32)) % (26 : Int32))).toUInt32.toUInt16.toUInt32.toInt32)), .val (.ref b1_0), .unset] [(.ref b1_0)])) rfl (by rw [hml]; rfl) (Steps.refl _) (argsL := []) (rest := []) (lenOf pd___Ljava_lang_Object_ rfl) rfl (by show 2 * 0 + _ ≤ _; exact Nat.le_of_eq rfl) (hb hby at_37) (fun _ _ => ⟨rfl, e3, (by decide : 2 + 0 ≤ _), (by decide : 6 + 0 ≤ _)⟩)
      dsimp only [Pt.U, Pt.locs, Pt.cells, Pt.slots] at X4 l4 y4 z4 st4 hQ4
      subst l4 y4 z4
      obtain ⟨rfl, N4q, e4⟩ := hQ4
      have N4 := Fr.app N3 N4q
      have c5 := E_o_REGISTRAR.keep K1
      obtain ⟨T6, X6, e6, st6⟩ := castY X4 hx hZ hown (own_w56 hw) e4 (Ins.self c5) (g := (mkF m 40 #[.val (.int i0), .val (.int i1), .val (.int (((97 : Int32) + ((i0 &&& (2147483647 : Int32)) % (26 : Int32))).toUInt32.toUInt16.toUInt32.toInt32)), .val (.ref b1_0), .unset] [(.ref o_REGISTRAR)])) rfl rfl (hb hby at_40)
      have c7 := own_sta_keep S_o_REGISTRAR K1 own_ns0
      obtain ⟨_, _, ⟨T8, L8, k8, n8⟩, -, X8, ⟨Lc8, hQ8, l8, y8, z8⟩, st8⟩ := Jvm.LawKit.callS X6 hx (y := (⟨"com/example/delehat/delehat/protocols/whois/WhoisQueryOfPinLaw", "expected", "(C)Lcom/example/delehat/delehat/protocols/whois/WhoisQuery$Flag;"⟩ : MethodName)) hown (mvT hZ (own_w58 hw)) (mvT hZ (own_w59 hw)) (mvT hZ (own_w60 hw)) (mvT hZ (own_w61 hw)) (by decide) (backOf (W := 1) (rm9_9 l Z a0 hw [] (((97 : Int32) + ((i0 &&& (2147483647 : Int32)) % (26 : Int32))).toUInt32.toUInt16.toUInt32.toInt32) o_REGISTRAR T1.heap n0 (Nat.le_trans Z0 KC2.1) (Eq.symm hs1) c7) hZ (own_w61 hw) (own_w60 hw) (by decide) (by decide)) (g := (mkF m 52 #[.val (.int i0), .val (.int i1), .val (.int (((97 : Int32) + ((i0 &&& (2147483647 : Int32)) % (26 : Int32))).toUInt32.toUInt16.toUInt32.toInt32)), .val (.ref b1_0), .val (.ref o_REGISTRAR)] [(.int (((97 : Int32) + ((i0 &&& (2147483647 : Int32)) % (26 : Int32))).toUInt32.toUInt16.toUInt32.toInt32)), (.ref o_REGISTRAR)])) rfl (by rw [hml]; rfl) (argsL := [(.int (((97 : Int32) + ((i0 &&& (2147483647 : Int32)) % (26 : Int32))).toUInt32.toUInt16.toUInt32.toInt32))]) (rest := [(.ref o_REGISTRAR)]) (lenOf pd__C_Lcom_example_delehat_delehat_protocols_whois_WhoisQuery_Flag_ rfl) rfl (by show 2 * 0 + _ ≤ _; exact Nat.le_of_eq rfl) (hb hby at_52) (fun _ _ => ⟨rfl, e6, (by decide : 2 + 0 ≤ _), (by decide : 6 + 0 ≤ _)⟩)
      dsimp only [Pt.U, Pt.locs, Pt.cells, Pt.slots] at X8 l8 y8 z8 st8 hQ8
      subst l8 y8 z8
      obtain ⟨rfl, N8q, e8⟩ := hQ8
      have N8 := Fr.app N4 N8q
      obtain ⟨fs, hr, hrun, hended, hW, hsame⟩ := X8.leave (v := some (.int (1 : Int32))) (fun h => by rw [Bd.returns] at h; cases h)
      refine ⟨_, _, pre3 _ ?_, hrun, hended, _, _, rfl, ⟨rfl, N8⟩, ⟨_, rfl⟩, hW, hsame.mono (by decide) (by decide)⟩
      show Steps p.tables e below (s₁.setTop (mkF m 25 #[.val (.int i0), .val (.int i1), .val (.int (((97 : Int32) + ((i0 &&& (2147483647 : Int32)) % (26 : Int32))).toUInt32.toUInt16.toUInt32.toInt32)), .unset, .unset] [(.int (((97 : Int32) + ((i0 &&& (2147483647 : Int32)) % (26 : Int32))).toUInt32.toUInt16.toUInt32.toInt32))])) _
      refine st1 _ ?_
      show Steps p.tables e below (T1.setTop (mkF m 28 #[.val (.int i0), .val (.int i1), .val (.int (((97 : Int32) + ((i0 &&& (2147483647 : Int32)) % (26 : Int32))).toUInt32.toUInt16.toUInt32.toInt32)), .unset, .unset] [(.ref b1_0)])) _
      refine XS.astoreN X1.here hx rfl (hb hby at_28) rfl rfl (l' := #[.val (.int i0), .val (.int i1), .val (.int (((97 : Int32) + ((i0 &&& (2147483647 : Int32)) % (26 : Int32))).toUInt32.toUInt16.toUInt32.toInt32)), .val (.ref b1_0), .unset]) rfl ?_
      show Steps p.tables e below (T1.setTop (mkF m 29 #[.val (.int i0), .val (.int i1), .val (.int (((97 : Int32) + ((i0 &&& (2147483647 : Int32)) % (26 : Int32))).toUInt32.toUInt16.toUInt32.toInt32)), .val (.ref b1_0), .unset] [])) _
      refine XS.aloadN X1.here hx rfl (hb hby at_29) rfl rfl ?_
      show Steps p.tables e below (T1.setTop (mkF m 30 #[.val (.int i0), .val (.int i1), .val (.int (((97 : Int32) + ((i0 &&& (2147483647 : Int32)) % (26 : Int32))).toUInt32.toUInt16.toUInt32.toInt32)), .val (.ref b1_0), .unset] [(.ref b1_0)])) _
      refine st3.trans ?_
      show Steps p.tables e below (T3.setTop (mkF m 33 #[.val (.int i0), .val (.int i1), .val (.int (((97 : Int32) + ((i0 &&& (2147483647 : Int32)) % (26 : Int32))).toUInt32.toUInt16.toUInt32.toInt32)), .val (.ref b1_0), .unset] [(.int (1 : Int32))])) _
      refine XS.ifNo X3.here hx rfl (hb hby at_33) rfl ((if0 _ _).trans (feq (by decide : ¬ ((1 : Int32) = (0 : Int32)))).1) ?_
      show Steps p.tables e below (T3.setTop (mkF m 36 #[.val (.int i0), .val (.int i1), .val (.int (((97 : Int32) + ((i0 &&& (2147483647 : Int32)) % (26 : Int32))).toUInt32.toUInt16.toUInt32.toInt32)), .val (.ref b1_0), .unset] [])) _
      refine XS.aloadN X3.here hx rfl (hb hby at_36) rfl rfl ?_
      show Steps p.tables e below (T3.setTop (mkF m 37 #[.val (.int i0), .val (.int i1), .val (.int (((97 : Int32) + ((i0 &&& (2147483647 : Int32)) % (26 : Int32))).toUInt32.toUInt16.toUInt32.toInt32)), .val (.ref b1_0), .unset] [(.ref b1_0)])) _
      refine st4.trans ?_
      show Steps p.tables e below (T4.setTop (mkF m 40 #[.val (.int i0), .val (.int i1), .val (.int (((97 : Int32) + ((i0 &&& (2147483647 : Int32)) % (26 : Int32))).toUInt32.toUInt16.toUInt32.toInt32)), .val (.ref b1_0), .unset] [(.ref o_REGISTRAR)])) _
      refine st6 _ ?_
      show Steps p.tables e below (T6.setTop (mkF m 43 #[.val (.int i0), .val (.int i1), .val (.int (((97 : Int32) + ((i0 &&& (2147483647 : Int32)) % (26 : Int32))).toUInt32.toUInt16.toUInt32.toInt32)), .val (.ref b1_0), .unset] [(.ref o_REGISTRAR)])) _
      refine XS.goto X6.here hx rfl (pc0 := 43) (pc' := 47) rfl (hb hby at_43) (by decide) (by decide) ?_
      show Steps p.tables e below (T6.setTop (mkF m 47 #[.val (.int i0), .val (.int i1), .val (.int (((97 : Int32) + ((i0 &&& (2147483647 : Int32)) % (26 : Int32))).toUInt32.toUInt16.toUInt32.toInt32)), .val (.ref b1_0), .unset] [(.ref o_REGISTRAR)])) _
      refine XS.astore X6.here hx rfl (hb hby at_47) rfl rfl (l' := #[.val (.int i0), .val (.int i1), .val (.int (((97 : Int32) + ((i0 &&& (2147483647 : Int32)) % (26 : Int32))).toUInt32.toUInt16.toUInt32.toInt32)), .val (.ref b1_0), .val (.ref o_REGISTRAR)]) rfl ?_
      show Steps p.tables e below (T6.setTop (mkF m 49 #[.val (.int i0), .val (.int i1), .val (.int (((97 : Int32) + ((i0 &&& (2147483647 : Int32)) % (26 : Int32))).toUInt32.toUInt16.toUInt32.toInt32)), .val (.ref b1_0), .val (.ref o_REGISTRAR)] [])) _
      refine XS.aload X6.here hx rfl (hb hby at_49) rfl rfl ?_
      show Steps p.tables e below (T6.setTop (mkF m 51 #[.val (.int i0), .val (.int i1), .val (.int (((97 : Int32) + ((i0 &&& (2147483647 : Int32)) % (26 : Int32))).toUInt32.toUInt16.toUInt32.toInt32)), .val (.ref b1_0), .val (.ref o_REGISTRAR)] [(.ref o_REGISTRAR)])) _
      refine XS.iloadN X6.here hx rfl (hb hby at_51) rfl ?_
      show Steps p.tables e below (T6.setTop (mkF m 52 #[.val (.int i0), .val (.int i1), .val (.int (((97 : Int32) + ((i0 &&& (2147483647 : Int32)) % (26 : Int32))).toUInt32.toUInt16.toUInt32.toInt32)), .val (.ref b1_0), .val (.ref o_REGISTRAR)] [(.int (((97 : Int32) + ((i0 &&& (2147483647 : Int32)) % (26 : Int32))).toUInt32.toUInt16.toUInt32.toInt32)), (.ref o_REGISTRAR)])) _
      refine st8 _ ?_
      show Steps p.tables e below (T8.setTop (mkF m 55 #[.val (.int i0), .val (.int i1), .val (.int (((97 : Int32) + ((i0 &&& (2147483647 : Int32)) % (26 : Int32))).toUInt32.toUInt16.toUInt32.toInt32)), .val (.ref b1_0), .val (.ref o_REGISTRAR)] [(.ref o_REGISTRAR), (.ref o_REGISTRAR)])) _
      refine Jvm.RoadKit.acmp (g := (mkF m 55 #[.val (.int i0), .val (.int i1), .val (.int (((97 : Int32) + ((i0 &&& (2147483647 : Int32)) % (26 : Int32))).toUInt32.toUInt16.toUInt32.toInt32)), .val (.ref b1_0), .val (.ref o_REGISTRAR)] [(.ref o_REGISTRAR), (.ref o_REGISTRAR)])) X8 hx rfl rfl rfl (pc0 := 55) (pc' := 58) (same := true) rfl (hb hby at_55) rfl (decide_eq_true rfl) (by decide) (by decide) ?_
      show Steps p.tables e below (T8.setTop (mkF m 58 #[.val (.int i0), .val (.int i1), .val (.int (((97 : Int32) + ((i0 &&& (2147483647 : Int32)) % (26 : Int32))).toUInt32.toUInt16.toUInt32.toInt32)), .val (.ref b1_0), .val (.ref o_REGISTRAR)] [])) _
      refine XS.iconst X8.here hx rfl (hb hby at_58) ?_
      show Steps p.tables e below (T8.setTop (mkF m 59 #[.val (.int i0), .val (.int i1), .val (.int (((97 : Int32) + ((i0 &&& (2147483647 : Int32)) % (26 : Int32))).toUInt32.toUInt16.toUInt32.toInt32)), .val (.ref b1_0), .val (.ref o_REGISTRAR)] [(.int (1 : Int32))])) _
      refine XS.goto X8.here hx rfl (pc0 := 59) (pc' := 63) rfl (hb hby at_59) (by decide) (by decide) ?_
      show Steps p.tables e below (T8.setTop (mkF m 63 #[.val (.int i0), .val (.int i1), .val (.int (((97 : Int32) + ((i0 &&& (2147483647 : Int32)) % (26 : Int32))).toUInt32.toUInt16.toUInt32.toInt32)), .val (.ref b1_0), .val (.ref o_REGISTRAR)] [(.int (1 : Int32))])) _
      exact retN X8 hx (t := .boolean) Bd.returns (by simp) (hb hby at_63) hr
    · by_cases hs2 : (111 : Int32) = (((97 : Int32) + ((i0 &&& (2147483647 : Int32)) % (26 : Int32))).toUInt32.toUInt16.toUInt32.toInt32)
      · obtain ⟨_, _, ⟨T1, L1, k1, n1⟩, -, X1, ⟨Lc1, hQ1, l1, y1, z1⟩, st1⟩ := Jvm.LawKit.callS X0 hx (y := (⟨"com/example/delehat/delehat/protocols/whois/WhoisQuery$Flag", "of", "(C)Ljava/util/Optional;"⟩ : MethodName)) hown (mvT hZ (own_w1 hw)) (mvT hZ (own_w2 hw)) (mvT hZ (own_w3 hw)) (mvT hZ (own_w4 hw)) (by decide) (backOf (W := 0) (rm1_10 l Z a0 hw [] (((97 : Int32) + ((i0 &&& (2147483647 : Int32)) % (26 : Int32))).toUInt32.toUInt16.toUInt32.toInt32) o__VALUES kc_o__VALUES o_REGISTRAR o_REGISTRANT o_ADMIN o_TECH o_SHORT h0 n0 Z0 S_o__VALUES E_o__VALUES V_o__VALUES F_o_REGISTRAR_letter hs1 F_o_REGISTRANT_letter hs2) hZ (own_w4 hw) (own_w3 hw) (by decide) (by decide)) (g := (mkF m 25 #[.val (.int i0), .val (.int i1), .val (.int (((97 : Int32) + ((i0 &&& (2147483647 : Int32)) % (26 : Int32))).toUInt32.toUInt16.toUInt32.toInt32)), .unset, .unset] [(.int (((97 : Int32) + ((i0 &&& (2147483647 : Int32)) % (26 : Int32))).toUInt32.toUInt16.toUInt32.toInt32))])) rfl (by rw [hml]; rfl) (argsL := [(.int (((97 : Int32) + ((i0 &&& (2147483647 : Int32)) % (26 : Int32))).toUInt32.toUInt16.toUInt32.toInt32))]) (rest := []) (lenOf pd__C_Ljava_util_Optional_ rfl) rfl (by show 2 * 0 + _ ≤ _; exact Nat.le_of_eq rfl) (hb hby at_25) (fun _ _ => ⟨rfl, e0, (by decide : 0 + 2 ≤ _), (by decide : 0 + 6 ≤ _)⟩)
        dsimp only [Pt.U, Pt.locs, Pt.cells, Pt.slots] at X1 l1 y1 z1 st1 hQ1
        subst l1 y1 z1
        obtain ⟨b1_0, rfl, N1q, K1, sq1_0, f1_0, f1_1⟩ := hQ1
        have N1 := Fr.app N0 N1q
        have sz_b1_0 : h0.size ≤ b1_0 := sq1_0
        have sz0_b1_0 : h0.size ≤ b1_0 := sz_b1_0
        have g_b1_0 : n0 ≤ b1_0 := Nat.le_trans Z0 sz0_b1_0
        have KC2 : Keep h0 T1.heap [] := (Keep.refl h0 []).trans K1 all0
        obtain ⟨cq3, kq3, q3a, q3b, q3c⟩ := isOf hZ rfl f1_0
        obtain ⟨_, _, ⟨T3, L3, k3, n3⟩, -, X3, ⟨Lc3, hQ3, l3, y3, z3⟩, st3⟩ := X1.virtualBack hx (y := (⟨"java/util/Optional", "isPresent", "()Z"⟩ : MethodName)) (z := (⟨"java/util/Optional", "isPresent", "()Z"⟩ : MethodName)) hown (mvT hZ (own_w46 hw)) (mvT hZ (own_w47 hw)) (notFace_of_selects (args := #[]) (mvT hZ (own_w49 hw))) (mvT hZ (own_w49 hw)) (mvT hZ (own_w48 hw)) (by decide) (backOf (W := 0) (rm7_7 l Z a0 hw [] b1_0 o_REGISTRANT T1.heap n0 (Nat.le_trans Z0 KC2.1) f1_1) hZ (own_w50 hw) (own_w29 hw) (by decide) (by decide)) q3a q3c (g := (mkF m 30 #[.val (.int i0), .val (.int i1), .val (.int (((97 : Int32) + ((i0 &&& (2147483647 : Int32)) % (26 : Int32))).toUInt32.toUInt16.toUInt32.toInt32)), .val (.ref b1_0), .unset] [(.ref b1_0)])) rfl (by rw [hml]; rfl) (Steps.refl _) (argsL := []) (rest := []) (lenOf pd___Z rfl) rfl (by show 2 * 0 + _ ≤ _; exact Nat.le_of_eq rfl) (hb hby at_30) (fun _ _ => ⟨rfl, rfl, (by decide : 2 + 0 ≤ _), (by decide : 6 + 0 ≤ _)⟩)
        dsimp only [Pt.U, Pt.locs, Pt.cells, Pt.slots] at X3 l3 y3 z3 st3 hQ3
        subst l3 y3 z3
        obtain ⟨rfl, N3q, e3⟩ := hQ3
        have N3 := Fr.app N1 N3q
        obtain ⟨cq4, kq4, q4a, q4b, q4c⟩ := isOf hZ e3 f1_0
        obtain ⟨_, _, ⟨T4, L4, k4, n4⟩, -, X4, ⟨Lc4, hQ4, l4, y4, z4⟩, st4⟩ := X3.virtualBack hx (y := (⟨"java/util/Optional", "get", "()Ljava/lang/Object;"⟩ : MethodName)) (z := (⟨"java/util/Optional", "get", "()Ljava/lang/Object;"⟩ : MethodName)) hown (mvT hZ (own_w51 hw)) (mvT hZ (own_w52 hw)) (notFace_of_selects (args := #[]) (mvT hZ (own_w54 hw))) (mvT hZ (own_w54 hw)) (mvT hZ (own_w53 hw)) (by decide) (backOf (W := 0) (rm8_8 l Z a0 hw [] b1_0 o_REGISTRANT T1.heap n0 (Nat.le_trans Z0 KC2.1) f1_1) hZ (own_w55 hw) (own_w29 hw) (by decide) (by decide)) q4a q4c (g := (mkF m 37 #[.val (.int i0), .val (.int i1), .val (.int (((97 : Int32) + ((i0 &&& (2147483647 : Int32)) % (26 : Int32))).toUInt32.toUInt16.toUInt32.toInt32)), .val (.ref b1_0), .unset] [(.ref b1_0)])) rfl (by rw [hml]; rfl) (Steps.refl _) (argsL := []) (rest := []) (lenOf pd___Ljava_lang_Object_ rfl) rfl (by show 2 * 0 + _ ≤ _; exact Nat.le_of_eq rfl) (hb hby at_37) (fun _ _ => ⟨rfl, e3, (by decide : 2 + 0 ≤ _), (by decide : 6 + 0 ≤ _)⟩)
        dsimp only [Pt.U, Pt.locs, Pt.cells, Pt.slots] at X4 l4 y4 z4 st4 hQ4
        subst l4 y4 z4
        obtain ⟨rfl, N4q, e4⟩ := hQ4
        have N4 := Fr.app N3 N4q
        have c5 := E_o_REGISTRANT.keep K1
        obtain ⟨T6, X6, e6, st6⟩ := castY X4 hx hZ hown (own_w56 hw) e4 (Ins.self c5) (g := (mkF m 40 #[.val (.int i0), .val (.int i1), .val (.int (((97 : Int32) + ((i0 &&& (2147483647 : Int32)) % (26 : Int32))).toUInt32.toUInt16.toUInt32.toInt32)), .val (.ref b1_0), .unset] [(.ref o_REGISTRANT)])) rfl rfl (hb hby at_40)
        have c7 := own_sta_keep S_o_REGISTRANT K1 own_ns0
        obtain ⟨_, _, ⟨T8, L8, k8, n8⟩, -, X8, ⟨Lc8, hQ8, l8, y8, z8⟩, st8⟩ := Jvm.LawKit.callS X6 hx (y := (⟨"com/example/delehat/delehat/protocols/whois/WhoisQueryOfPinLaw", "expected", "(C)Lcom/example/delehat/delehat/protocols/whois/WhoisQuery$Flag;"⟩ : MethodName)) hown (mvT hZ (own_w58 hw)) (mvT hZ (own_w59 hw)) (mvT hZ (own_w60 hw)) (mvT hZ (own_w61 hw)) (by decide) (backOf (W := 1) (rm9_11 l Z a0 hw [] (((97 : Int32) + ((i0 &&& (2147483647 : Int32)) % (26 : Int32))).toUInt32.toUInt16.toUInt32.toInt32) o_REGISTRANT T1.heap n0 (Nat.le_trans Z0 KC2.1) (Ne.symm hs1) (Eq.symm hs2) c7) hZ (own_w61 hw) (own_w60 hw) (by decide) (by decide)) (g := (mkF m 52 #[.val (.int i0), .val (.int i1), .val (.int (((97 : Int32) + ((i0 &&& (2147483647 : Int32)) % (26 : Int32))).toUInt32.toUInt16.toUInt32.toInt32)), .val (.ref b1_0), .val (.ref o_REGISTRANT)] [(.int (((97 : Int32) + ((i0 &&& (2147483647 : Int32)) % (26 : Int32))).toUInt32.toUInt16.toUInt32.toInt32)), (.ref o_REGISTRANT)])) rfl (by rw [hml]; rfl) (argsL := [(.int (((97 : Int32) + ((i0 &&& (2147483647 : Int32)) % (26 : Int32))).toUInt32.toUInt16.toUInt32.toInt32))]) (rest := [(.ref o_REGISTRANT)]) (lenOf pd__C_Lcom_example_delehat_delehat_protocols_whois_WhoisQuery_Flag_ rfl) rfl (by show 2 * 0 + _ ≤ _; exact Nat.le_of_eq rfl) (hb hby at_52) (fun _ _ => ⟨rfl, e6, (by decide : 2 + 0 ≤ _), (by decide : 6 + 0 ≤ _)⟩)
        dsimp only [Pt.U, Pt.locs, Pt.cells, Pt.slots] at X8 l8 y8 z8 st8 hQ8
        subst l8 y8 z8
        obtain ⟨rfl, N8q, e8⟩ := hQ8
        have N8 := Fr.app N4 N8q
        obtain ⟨fs, hr, hrun, hended, hW, hsame⟩ := X8.leave (v := some (.int (1 : Int32))) (fun h => by rw [Bd.returns] at h; cases h)
        refine ⟨_, _, pre3 _ ?_, hrun, hended, _, _, rfl, ⟨rfl, N8⟩, ⟨_, rfl⟩, hW, hsame.mono (by decide) (by decide)⟩
        show Steps p.tables e below (s₁.setTop (mkF m 25 #[.val (.int i0), .val (.int i1), .val (.int (((97 : Int32) + ((i0 &&& (2147483647 : Int32)) % (26 : Int32))).toUInt32.toUInt16.toUInt32.toInt32)), .unset, .unset] [(.int (((97 : Int32) + ((i0 &&& (2147483647 : Int32)) % (26 : Int32))).toUInt32.toUInt16.toUInt32.toInt32))])) _
        refine st1 _ ?_
        show Steps p.tables e below (T1.setTop (mkF m 28 #[.val (.int i0), .val (.int i1), .val (.int (((97 : Int32) + ((i0 &&& (2147483647 : Int32)) % (26 : Int32))).toUInt32.toUInt16.toUInt32.toInt32)), .unset, .unset] [(.ref b1_0)])) _
        refine XS.astoreN X1.here hx rfl (hb hby at_28) rfl rfl (l' := #[.val (.int i0), .val (.int i1), .val (.int (((97 : Int32) + ((i0 &&& (2147483647 : Int32)) % (26 : Int32))).toUInt32.toUInt16.toUInt32.toInt32)), .val (.ref b1_0), .unset]) rfl ?_
        show Steps p.tables e below (T1.setTop (mkF m 29 #[.val (.int i0), .val (.int i1), .val (.int (((97 : Int32) + ((i0 &&& (2147483647 : Int32)) % (26 : Int32))).toUInt32.toUInt16.toUInt32.toInt32)), .val (.ref b1_0), .unset] [])) _
        refine XS.aloadN X1.here hx rfl (hb hby at_29) rfl rfl ?_
        show Steps p.tables e below (T1.setTop (mkF m 30 #[.val (.int i0), .val (.int i1), .val (.int (((97 : Int32) + ((i0 &&& (2147483647 : Int32)) % (26 : Int32))).toUInt32.toUInt16.toUInt32.toInt32)), .val (.ref b1_0), .unset] [(.ref b1_0)])) _
        refine st3.trans ?_
        show Steps p.tables e below (T3.setTop (mkF m 33 #[.val (.int i0), .val (.int i1), .val (.int (((97 : Int32) + ((i0 &&& (2147483647 : Int32)) % (26 : Int32))).toUInt32.toUInt16.toUInt32.toInt32)), .val (.ref b1_0), .unset] [(.int (1 : Int32))])) _
        refine XS.ifNo X3.here hx rfl (hb hby at_33) rfl ((if0 _ _).trans (feq (by decide : ¬ ((1 : Int32) = (0 : Int32)))).1) ?_
        show Steps p.tables e below (T3.setTop (mkF m 36 #[.val (.int i0), .val (.int i1), .val (.int (((97 : Int32) + ((i0 &&& (2147483647 : Int32)) % (26 : Int32))).toUInt32.toUInt16.toUInt32.toInt32)), .val (.ref b1_0), .unset] [])) _
        refine XS.aloadN X3.here hx rfl (hb hby at_36) rfl rfl ?_
        show Steps p.tables e below (T3.setTop (mkF m 37 #[.val (.int i0), .val (.int i1), .val (.int (((97 : Int32) + ((i0 &&& (2147483647 : Int32)) % (26 : Int32))).toUInt32.toUInt16.toUInt32.toInt32)), .val (.ref b1_0), .unset] [(.ref b1_0)])) _
        refine st4.trans ?_
        show Steps p.tables e below (T4.setTop (mkF m 40 #[.val (.int i0), .val (.int i1), .val (.int (((97 : Int32) + ((i0 &&& (2147483647 : Int32)) % (26 : Int32))).toUInt32.toUInt16.toUInt32.toInt32)), .val (.ref b1_0), .unset] [(.ref o_REGISTRANT)])) _
        refine st6 _ ?_
        show Steps p.tables e below (T6.setTop (mkF m 43 #[.val (.int i0), .val (.int i1), .val (.int (((97 : Int32) + ((i0 &&& (2147483647 : Int32)) % (26 : Int32))).toUInt32.toUInt16.toUInt32.toInt32)), .val (.ref b1_0), .unset] [(.ref o_REGISTRANT)])) _
        refine XS.goto X6.here hx rfl (pc0 := 43) (pc' := 47) rfl (hb hby at_43) (by decide) (by decide) ?_
        show Steps p.tables e below (T6.setTop (mkF m 47 #[.val (.int i0), .val (.int i1), .val (.int (((97 : Int32) + ((i0 &&& (2147483647 : Int32)) % (26 : Int32))).toUInt32.toUInt16.toUInt32.toInt32)), .val (.ref b1_0), .unset] [(.ref o_REGISTRANT)])) _
        refine XS.astore X6.here hx rfl (hb hby at_47) rfl rfl (l' := #[.val (.int i0), .val (.int i1), .val (.int (((97 : Int32) + ((i0 &&& (2147483647 : Int32)) % (26 : Int32))).toUInt32.toUInt16.toUInt32.toInt32)), .val (.ref b1_0), .val (.ref o_REGISTRANT)]) rfl ?_
        show Steps p.tables e below (T6.setTop (mkF m 49 #[.val (.int i0), .val (.int i1), .val (.int (((97 : Int32) + ((i0 &&& (2147483647 : Int32)) % (26 : Int32))).toUInt32.toUInt16.toUInt32.toInt32)), .val (.ref b1_0), .val (.ref o_REGISTRANT)] [])) _
        refine XS.aload X6.here hx rfl (hb hby at_49) rfl rfl ?_
        show Steps p.tables e below (T6.setTop (mkF m 51 #[.val (.int i0), .val (.int i1), .val (.int (((97 : Int32) + ((i0 &&& (2147483647 : Int32)) % (26 : Int32))).toUInt32.toUInt16.toUInt32.toInt32)), .val (.ref b1_0), .val (.ref o_REGISTRANT)] [(.ref o_REGISTRANT)])) _
        refine XS.iloadN X6.here hx rfl (hb hby at_51) rfl ?_
        show Steps p.tables e below (T6.setTop (mkF m 52 #[.val (.int i0), .val (.int i1), .val (.int (((97 : Int32) + ((i0 &&& (2147483647 : Int32)) % (26 : Int32))).toUInt32.toUInt16.toUInt32.toInt32)), .val (.ref b1_0), .val (.ref o_REGISTRANT)] [(.int (((97 : Int32) + ((i0 &&& (2147483647 : Int32)) % (26 : Int32))).toUInt32.toUInt16.toUInt32.toInt32)), (.ref o_REGISTRANT)])) _
        refine st8 _ ?_
        show Steps p.tables e below (T8.setTop (mkF m 55 #[.val (.int i0), .val (.int i1), .val (.int (((97 : Int32) + ((i0 &&& (2147483647 : Int32)) % (26 : Int32))).toUInt32.toUInt16.toUInt32.toInt32)), .val (.ref b1_0), .val (.ref o_REGISTRANT)] [(.ref o_REGISTRANT), (.ref o_REGISTRANT)])) _
        refine Jvm.RoadKit.acmp (g := (mkF m 55 #[.val (.int i0), .val (.int i1), .val (.int (((97 : Int32) + ((i0 &&& (2147483647 : Int32)) % (26 : Int32))).toUInt32.toUInt16.toUInt32.toInt32)), .val (.ref b1_0), .val (.ref o_REGISTRANT)] [(.ref o_REGISTRANT), (.ref o_REGISTRANT)])) X8 hx rfl rfl rfl (pc0 := 55) (pc' := 58) (same := true) rfl (hb hby at_55) rfl (decide_eq_true rfl) (by decide) (by decide) ?_
        show Steps p.tables e below (T8.setTop (mkF m 58 #[.val (.int i0), .val (.int i1), .val (.int (((97 : Int32) + ((i0 &&& (2147483647 : Int32)) % (26 : Int32))).toUInt32.toUInt16.toUInt32.toInt32)), .val (.ref b1_0), .val (.ref o_REGISTRANT)] [])) _
        refine XS.iconst X8.here hx rfl (hb hby at_58) ?_
        show Steps p.tables e below (T8.setTop (mkF m 59 #[.val (.int i0), .val (.int i1), .val (.int (((97 : Int32) + ((i0 &&& (2147483647 : Int32)) % (26 : Int32))).toUInt32.toUInt16.toUInt32.toInt32)), .val (.ref b1_0), .val (.ref o_REGISTRANT)] [(.int (1 : Int32))])) _
        refine XS.goto X8.here hx rfl (pc0 := 59) (pc' := 63) rfl (hb hby at_59) (by decide) (by decide) ?_
        show Steps p.tables e below (T8.setTop (mkF m 63 #[.val (.int i0), .val (.int i1), .val (.int (((97 : Int32) + ((i0 &&& (2147483647 : Int32)) % (26 : Int32))).toUInt32.toUInt16.toUInt32.toInt32)), .val (.ref b1_0), .val (.ref o_REGISTRANT)] [(.int (1 : Int32))])) _
        exact retN X8 hx (t := .boolean) Bd.returns (by simp) (hb hby at_63) hr
      · by_cases hs3 : (97 : Int32) = (((97 : Int32) + ((i0 &&& (2147483647 : Int32)) % (26 : Int32))).toUInt32.toUInt16.toUInt32.toInt32)
        · obtain ⟨_, _, ⟨T1, L1, k1, n1⟩, -, X1, ⟨Lc1, hQ1, l1, y1, z1⟩, st1⟩ := Jvm.LawKit.callS X0 hx (y := (⟨"com/example/delehat/delehat/protocols/whois/WhoisQuery$Flag", "of", "(C)Ljava/util/Optional;"⟩ : MethodName)) hown (mvT hZ (own_w1 hw)) (mvT hZ (own_w2 hw)) (mvT hZ (own_w3 hw)) (mvT hZ (own_w4 hw)) (by decide) (backOf (W := 0) (rm1_12 l Z a0 hw [] (((97 : Int32) + ((i0 &&& (2147483647 : Int32)) % (26 : Int32))).toUInt32.toUInt16.toUInt32.toInt32) o__VALUES kc_o__VALUES o_REGISTRAR o_REGISTRANT o_ADMIN o_TECH o_SHORT h0 n0 Z0 S_o__VALUES E_o__VALUES V_o__VALUES F_o_REGISTRAR_letter hs1 F_o_REGISTRANT_letter hs2 F_o_ADMIN_letter hs3) hZ (own_w4 hw) (own_w3 hw) (by decide) (by decide)) (g := (mkF m 25 #[.val (.int i0), .val (.int i1), .val (.int (((97 : Int32) + ((i0 &&& (2147483647 : Int32)) % (26 : Int32))).toUInt32.toUInt16.toUInt32.toInt32)), .unset, .unset] [(.int (((97 : Int32) + ((i0 &&& (2147483647 : Int32)) % (26 : Int32))).toUInt32.toUInt16.toUInt32.toInt32))])) rfl (by rw [hml]; rfl) (argsL := [(.int (((97 : Int32) + ((i0 &&& (2147483647 : Int32)) % (26 : Int32))).toUInt32.toUInt16.toUInt32.toInt32))]) (rest := []) (lenOf pd__C_Ljava_util_Optional_ rfl) rfl (by show 2 * 0 + _ ≤ _; exact Nat.le_of_eq rfl) (hb hby at_25) (fun _ _ => ⟨rfl, e0, (by decide : 0 + 2 ≤ _), (by decide : 0 + 6 ≤ _)⟩)
          dsimp only [Pt.U, Pt.locs, Pt.cells, Pt.slots] at X1 l1 y1 z1 st1 hQ1
          subst l1 y1 z1
          obtain ⟨b1_0, rfl, N1q, K1, sq1_0, f1_0, f1_1⟩ := hQ1
          have N1 := Fr.app N0 N1q
          have sz_b1_0 : h0.size ≤ b1_0 := sq1_0
          have sz0_b1_0 : h0.size ≤ b1_0 := sz_b1_0
          have g_b1_0 : n0 ≤ b1_0 := Nat.le_trans Z0 sz0_b1_0
          have KC2 : Keep h0 T1.heap [] := (Keep.refl h0 []).trans K1 all0
          obtain ⟨cq3, kq3, q3a, q3b, q3c⟩ := isOf hZ rfl f1_0
          obtain ⟨_, _, ⟨T3, L3, k3, n3⟩, -, X3, ⟨Lc3, hQ3, l3, y3, z3⟩, st3⟩ := X1.virtualBack hx (y := (⟨"java/util/Optional", "isPresent", "()Z"⟩ : MethodName)) (z := (⟨"java/util/Optional", "isPresent", "()Z"⟩ : MethodName)) hown (mvT hZ (own_w46 hw)) (mvT hZ (own_w47 hw)) (notFace_of_selects (args := #[]) (mvT hZ (own_w49 hw))) (mvT hZ (own_w49 hw)) (mvT hZ (own_w48 hw)) (by decide) (backOf (W := 0) (rm7_7 l Z a0 hw [] b1_0 o_ADMIN T1.heap n0 (Nat.le_trans Z0 KC2.1) f1_1) hZ (own_w50 hw) (own_w29 hw) (by decide) (by decide)) q3a q3c (g := (mkF m 30 #[.val (.int i0), .val (.int i1), .val (.int (((97 : Int32) + ((i0 &&& (2147483647 : Int32)) % (26 : Int32))).toUInt32.toUInt16.toUInt32.toInt32)), .val (.ref b1_0), .unset] [(.ref b1_0)])) rfl (by rw [hml]; rfl) (Steps.refl _) (argsL := []) (rest := []) (lenOf pd___Z rfl) rfl (by show 2 * 0 + _ ≤ _; exact Nat.le_of_eq rfl) (hb hby at_30) (fun _ _ => ⟨rfl, rfl, (by decide : 2 + 0 ≤ _), (by decide : 6 + 0 ≤ _)⟩)
          dsimp only [Pt.U, Pt.locs, Pt.cells, Pt.slots] at X3 l3 y3 z3 st3 hQ3
          subst l3 y3 z3
          obtain ⟨rfl, N3q, e3⟩ := hQ3
          have N3 := Fr.app N1 N3q
          obtain ⟨cq4, kq4, q4a, q4b, q4c⟩ := isOf hZ e3 f1_0
          obtain ⟨_, _, ⟨T4, L4, k4, n4⟩, -, X4, ⟨Lc4, hQ4, l4, y4, z4⟩, st4⟩ := X3.virtualBack hx (y := (⟨"java/util/Optional", "get", "()Ljava/lang/Object;"⟩ : MethodName)) (z := (⟨"java/util/Optional", "get", "()Ljava/lang/Object;"⟩ : MethodName)) hown (mvT hZ (own_w51 hw)) (mvT hZ (own_w52 hw)) (notFace_of_selects (args := #[]) (mvT hZ (own_w54 hw))) (mvT hZ (own_w54 hw)) (mvT hZ (own_w53 hw)) (by decide) (backOf (W := 0) (rm8_8 l Z a0 hw [] b1_0 o_ADMIN T1.heap n0 (Nat.le_trans Z0 KC2.1) f1_1) hZ (own_w55 hw) (own_w29 hw) (by decide) (by decide)) q4a q4c (g := (mkF m 37 #[.val (.int i0), .val (.int i1), .val (.int (((97 : Int32) + ((i0 &&& (2147483647 : Int32)) % (26 : Int32))).toUInt32.toUInt16.toUInt32.toInt32)), .val (.ref b1_0), .unset] [(.ref b1_0)])) rfl (by rw [hml]; rfl) (Steps.refl _) (argsL := []) (rest := []) (lenOf pd___Ljava_lang_Object_ rfl) rfl (by show 2 * 0 + _ ≤ _; exact Nat.le_of_eq rfl) (hb hby at_37) (fun _ _ => ⟨rfl, e3, (by decide : 2 + 0 ≤ _), (by decide : 6 + 0 ≤ _)⟩)
          dsimp only [Pt.U, Pt.locs, Pt.cells, Pt.slots] at X4 l4 y4 z4 st4 hQ4
          subst l4 y4 z4
          obtain ⟨rfl, N4q, e4⟩ := hQ4
          have N4 := Fr.app N3 N4q
          have c5 := E_o_ADMIN.keep K1
          obtain ⟨T6, X6, e6, st6⟩ := castY X4 hx hZ hown (own_w56 hw) e4 (Ins.self c5) (g := (mkF m 40 #[.val (.int i0), .val (.int i1), .val (.int (((97 : Int32) + ((i0 &&& (2147483647 : Int32)) % (26 : Int32))).toUInt32.toUInt16.toUInt32.toInt32)), .val (.ref b1_0), .unset] [(.ref o_ADMIN)])) rfl rfl (hb hby at_40)
          have c7 := own_sta_keep S_o_ADMIN K1 own_ns0
          obtain ⟨_, _, ⟨T8, L8, k8, n8⟩, -, X8, ⟨Lc8, hQ8, l8, y8, z8⟩, st8⟩ := Jvm.LawKit.callS X6 hx (y := (⟨"com/example/delehat/delehat/protocols/whois/WhoisQueryOfPinLaw", "expected", "(C)Lcom/example/delehat/delehat/protocols/whois/WhoisQuery$Flag;"⟩ : MethodName)) hown (mvT hZ (own_w58 hw)) (mvT hZ (own_w59 hw)) (mvT hZ (own_w60 hw)) (mvT hZ (own_w61 hw)) (by decide) (backOf (W := 1) (rm9_13 l Z a0 hw [] (((97 : Int32) + ((i0 &&& (2147483647 : Int32)) % (26 : Int32))).toUInt32.toUInt16.toUInt32.toInt32) o_ADMIN T1.heap n0 (Nat.le_trans Z0 KC2.1) (Ne.symm hs1) (Ne.symm hs2) (Eq.symm hs3) c7) hZ (own_w61 hw) (own_w60 hw) (by decide) (by decide)) (g := (mkF m 52 #[.val (.int i0), .val (.int i1), .val (.int (((97 : Int32) + ((i0 &&& (2147483647 : Int32)) % (26 : Int32))).toUInt32.toUInt16.toUInt32.toInt32)), .val (.ref b1_0), .val (.ref o_ADMIN)] [(.int (((97 : Int32) + ((i0 &&& (2147483647 : Int32)) % (26 : Int32))).toUInt32.toUInt16.toUInt32.toInt32)), (.ref o_ADMIN)])) rfl (by rw [hml]; rfl) (argsL := [(.int (((97 : Int32) + ((i0 &&& (2147483647 : Int32)) % (26 : Int32))).toUInt32.toUInt16.toUInt32.toInt32))]) (rest := [(.ref o_ADMIN)]) (lenOf pd__C_Lcom_example_delehat_delehat_protocols_whois_WhoisQuery_Flag_ rfl) rfl (by show 2 * 0 + _ ≤ _; exact Nat.le_of_eq rfl) (hb hby at_52) (fun _ _ => ⟨rfl, e6, (by decide : 2 + 0 ≤ _), (by decide : 6 + 0 ≤ _)⟩)
          dsimp only [Pt.U, Pt.locs, Pt.cells, Pt.slots] at X8 l8 y8 z8 st8 hQ8
          subst l8 y8 z8
          obtain ⟨rfl, N8q, e8⟩ := hQ8
          have N8 := Fr.app N4 N8q
          obtain ⟨fs, hr, hrun, hended, hW, hsame⟩ := X8.leave (v := some (.int (1 : Int32))) (fun h => by rw [Bd.returns] at h; cases h)
          refine ⟨_, _, pre3 _ ?_, hrun, hended, _, _, rfl, ⟨rfl, N8⟩, ⟨_, rfl⟩, hW, hsame.mono (by decide) (by decide)⟩
          show Steps p.tables e below (s₁.setTop (mkF m 25 #[.val (.int i0), .val (.int i1), .val (.int (((97 : Int32) + ((i0 &&& (2147483647 : Int32)) % (26 : Int32))).toUInt32.toUInt16.toUInt32.toInt32)), .unset, .unset] [(.int (((97 : Int32) + ((i0 &&& (2147483647 : Int32)) % (26 : Int32))).toUInt32.toUInt16.toUInt32.toInt32))])) _
          refine st1 _ ?_
          show Steps p.tables e below (T1.setTop (mkF m 28 #[.val (.int i0), .val (.int i1), .val (.int (((97 : Int32) + ((i0 &&& (2147483647 : Int32)) % (26 : Int32))).toUInt32.toUInt16.toUInt32.toInt32)), .unset, .unset] [(.ref b1_0)])) _
          refine XS.astoreN X1.here hx rfl (hb hby at_28) rfl rfl (l' := #[.val (.int i0), .val (.int i1), .val (.int (((97 : Int32) + ((i0 &&& (2147483647 : Int32)) % (26 : Int32))).toUInt32.toUInt16.toUInt32.toInt32)), .val (.ref b1_0), .unset]) rfl ?_
          show Steps p.tables e below (T1.setTop (mkF m 29 #[.val (.int i0), .val (.int i1), .val (.int (((97 : Int32) + ((i0 &&& (2147483647 : Int32)) % (26 : Int32))).toUInt32.toUInt16.toUInt32.toInt32)), .val (.ref b1_0), .unset] [])) _
          refine XS.aloadN X1.here hx rfl (hb hby at_29) rfl rfl ?_
          show Steps p.tables e below (T1.setTop (mkF m 30 #[.val (.int i0), .val (.int i1), .val (.int (((97 : Int32) + ((i0 &&& (2147483647 : Int32)) % (26 : Int32))).toUInt32.toUInt16.toUInt32.toInt32)), .val (.ref b1_0), .unset] [(.ref b1_0)])) _
          refine st3.trans ?_
          show Steps p.tables e below (T3.setTop (mkF m 33 #[.val (.int i0), .val (.int i1), .val (.int (((97 : Int32) + ((i0 &&& (2147483647 : Int32)) % (26 : Int32))).toUInt32.toUInt16.toUInt32.toInt32)), .val (.ref b1_0), .unset] [(.int (1 : Int32))])) _
          refine XS.ifNo X3.here hx rfl (hb hby at_33) rfl ((if0 _ _).trans (feq (by decide : ¬ ((1 : Int32) = (0 : Int32)))).1) ?_
          show Steps p.tables e below (T3.setTop (mkF m 36 #[.val (.int i0), .val (.int i1), .val (.int (((97 : Int32) + ((i0 &&& (2147483647 : Int32)) % (26 : Int32))).toUInt32.toUInt16.toUInt32.toInt32)), .val (.ref b1_0), .unset] [])) _
          refine XS.aloadN X3.here hx rfl (hb hby at_36) rfl rfl ?_
          show Steps p.tables e below (T3.setTop (mkF m 37 #[.val (.int i0), .val (.int i1), .val (.int (((97 : Int32) + ((i0 &&& (2147483647 : Int32)) % (26 : Int32))).toUInt32.toUInt16.toUInt32.toInt32)), .val (.ref b1_0), .unset] [(.ref b1_0)])) _
          refine st4.trans ?_
          show Steps p.tables e below (T4.setTop (mkF m 40 #[.val (.int i0), .val (.int i1), .val (.int (((97 : Int32) + ((i0 &&& (2147483647 : Int32)) % (26 : Int32))).toUInt32.toUInt16.toUInt32.toInt32)), .val (.ref b1_0), .unset] [(.ref o_ADMIN)])) _
          refine st6 _ ?_
          show Steps p.tables e below (T6.setTop (mkF m 43 #[.val (.int i0), .val (.int i1), .val (.int (((97 : Int32) + ((i0 &&& (2147483647 : Int32)) % (26 : Int32))).toUInt32.toUInt16.toUInt32.toInt32)), .val (.ref b1_0), .unset] [(.ref o_ADMIN)])) _
          refine XS.goto X6.here hx rfl (pc0 := 43) (pc' := 47) rfl (hb hby at_43) (by decide) (by decide) ?_
          show Steps p.tables e below (T6.setTop (mkF m 47 #[.val (.int i0), .val (.int i1), .val (.int (((97 : Int32) + ((i0 &&& (2147483647 : Int32)) % (26 : Int32))).toUInt32.toUInt16.toUInt32.toInt32)), .val (.ref b1_0), .unset] [(.ref o_ADMIN)])) _
          refine XS.astore X6.here hx rfl (hb hby at_47) rfl rfl (l' := #[.val (.int i0), .val (.int i1), .val (.int (((97 : Int32) + ((i0 &&& (2147483647 : Int32)) % (26 : Int32))).toUInt32.toUInt16.toUInt32.toInt32)), .val (.ref b1_0), .val (.ref o_ADMIN)]) rfl ?_
          show Steps p.tables e below (T6.setTop (mkF m 49 #[.val (.int i0), .val (.int i1), .val (.int (((97 : Int32) + ((i0 &&& (2147483647 : Int32)) % (26 : Int32))).toUInt32.toUInt16.toUInt32.toInt32)), .val (.ref b1_0), .val (.ref o_ADMIN)] [])) _
          refine XS.aload X6.here hx rfl (hb hby at_49) rfl rfl ?_
          show Steps p.tables e below (T6.setTop (mkF m 51 #[.val (.int i0), .val (.int i1), .val (.int (((97 : Int32) + ((i0 &&& (2147483647 : Int32)) % (26 : Int32))).toUInt32.toUInt16.toUInt32.toInt32)), .val (.ref b1_0), .val (.ref o_ADMIN)] [(.ref o_ADMIN)])) _
          refine XS.iloadN X6.here hx rfl (hb hby at_51) rfl ?_
          show Steps p.tables e below (T6.setTop (mkF m 52 #[.val (.int i0), .val (.int i1), .val (.int (((97 : Int32) + ((i0 &&& (2147483647 : Int32)) % (26 : Int32))).toUInt32.toUInt16.toUInt32.toInt32)), .val (.ref b1_0), .val (.ref o_ADMIN)] [(.int (((97 : Int32) + ((i0 &&& (2147483647 : Int32)) % (26 : Int32))).toUInt32.toUInt16.toUInt32.toInt32)), (.ref o_ADMIN)])) _
          refine st8 _ ?_
          show Steps p.tables e below (T8.setTop (mkF m 55 #[.val (.int i0), .val (.int i1), .val (.int (((97 : Int32) + ((i0 &&& (2147483647 : Int32)) % (26 : Int32))).toUInt32.toUInt16.toUInt32.toInt32)), .val (.ref b1_0), .val (.ref o_ADMIN)] [(.ref o_ADMIN), (.ref o_ADMIN)])) _
          refine Jvm.RoadKit.acmp (g := (mkF m 55 #[.val (.int i0), .val (.int i1), .val (.int (((97 : Int32) + ((i0 &&& (2147483647 : Int32)) % (26 : Int32))).toUInt32.toUInt16.toUInt32.toInt32)), .val (.ref b1_0), .val (.ref o_ADMIN)] [(.ref o_ADMIN), (.ref o_ADMIN)])) X8 hx rfl rfl rfl (pc0 := 55) (pc' := 58) (same := true) rfl (hb hby at_55) rfl (decide_eq_true rfl) (by decide) (by decide) ?_
          show Steps p.tables e below (T8.setTop (mkF m 58 #[.val (.int i0), .val (.int i1), .val (.int (((97 : Int32) + ((i0 &&& (2147483647 : Int32)) % (26 : Int32))).toUInt32.toUInt16.toUInt32.toInt32)), .val (.ref b1_0), .val (.ref o_ADMIN)] [])) _
          refine XS.iconst X8.here hx rfl (hb hby at_58) ?_
          show Steps p.tables e below (T8.setTop (mkF m 59 #[.val (.int i0), .val (.int i1), .val (.int (((97 : Int32) + ((i0 &&& (2147483647 : Int32)) % (26 : Int32))).toUInt32.toUInt16.toUInt32.toInt32)), .val (.ref b1_0), .val (.ref o_ADMIN)] [(.int (1 : Int32))])) _
          refine XS.goto X8.here hx rfl (pc0 := 59) (pc' := 63) rfl (hb hby at_59) (by decide) (by decide) ?_
          show Steps p.tables e below (T8.setTop (mkF m 63 #[.val (.int i0), .val (.int i1), .val (.int (((97 : Int32) + ((i0 &&& (2147483647 : Int32)) % (26 : Int32))).toUInt32.toUInt16.toUInt32.toInt32)), .val (.ref b1_0), .val (.ref o_ADMIN)] [(.int (1 : Int32))])) _
          exact retN X8 hx (t := .boolean) Bd.returns (by simp) (hb hby at_63) hr
        · by_cases hs4 : (116 : Int32) = (((97 : Int32) + ((i0 &&& (2147483647 : Int32)) % (26 : Int32))).toUInt32.toUInt16.toUInt32.toInt32)
          · obtain ⟨_, _, ⟨T1, L1, k1, n1⟩, -, X1, ⟨Lc1, hQ1, l1, y1, z1⟩, st1⟩ := Jvm.LawKit.callS X0 hx (y := (⟨"com/example/delehat/delehat/protocols/whois/WhoisQuery$Flag", "of", "(C)Ljava/util/Optional;"⟩ : MethodName)) hown (mvT hZ (own_w1 hw)) (mvT hZ (own_w2 hw)) (mvT hZ (own_w3 hw)) (mvT hZ (own_w4 hw)) (by decide) (backOf (W := 0) (rm1_14 l Z a0 hw [] (((97 : Int32) + ((i0 &&& (2147483647 : Int32)) % (26 : Int32))).toUInt32.toUInt16.toUInt32.toInt32) o__VALUES kc_o__VALUES o_REGISTRAR o_REGISTRANT o_ADMIN o_TECH o_SHORT h0 n0 Z0 S_o__VALUES E_o__VALUES V_o__VALUES F_o_REGISTRAR_letter hs1 F_o_REGISTRANT_letter hs2 F_o_ADMIN_letter hs3 F_o_TECH_letter hs4) hZ (own_w4 hw) (own_w3 hw) (by decide) (by decide)) (g := (mkF m 25 #[.val (.int i0), .val (.int i1), .val (.int (((97 : Int32) + ((i0 &&& (2147483647 : Int32)) % (26 : Int32))).toUInt32.toUInt16.toUInt32.toInt32)), .unset, .unset] [(.int (((97 : Int32) + ((i0 &&& (2147483647 : Int32)) % (26 : Int32))).toUInt32.toUInt16.toUInt32.toInt32))])) rfl (by rw [hml]; rfl) (argsL := [(.int (((97 : Int32) + ((i0 &&& (2147483647 : Int32)) % (26 : Int32))).toUInt32.toUInt16.toUInt32.toInt32))]) (rest := []) (lenOf pd__C_Ljava_util_Optional_ rfl) rfl (by show 2 * 0 + _ ≤ _; exact Nat.le_of_eq rfl) (hb hby at_25) (fun _ _ => ⟨rfl, e0, (by decide : 0 + 2 ≤ _), (by decide : 0 + 6 ≤ _)⟩)
            dsimp only [Pt.U, Pt.locs, Pt.cells, Pt.slots] at X1 l1 y1 z1 st1 hQ1
            subst l1 y1 z1
            obtain ⟨b1_0, rfl, N1q, K1, sq1_0, f1_0, f1_1⟩ := hQ1
            have N1 := Fr.app N0 N1q
            have sz_b1_0 : h0.size ≤ b1_0 := sq1_0
            have sz0_b1_0 : h0.size ≤ b1_0 := sz_b1_0
            have g_b1_0 : n0 ≤ b1_0 := Nat.le_trans Z0 sz0_b1_0
            have KC2 : Keep h0 T1.heap [] := (Keep.refl h0 []).trans K1 all0
            obtain ⟨cq3, kq3, q3a, q3b, q3c⟩ := isOf hZ rfl f1_0
            obtain ⟨_, _, ⟨T3, L3, k3, n3⟩, -, X3, ⟨Lc3, hQ3, l3, y3, z3⟩, st3⟩ := X1.virtualBack hx (y := (⟨"java/util/Optional", "isPresent", "()Z"⟩ : MethodName)) (z := (⟨"java/util/Optional", "isPresent", "()Z"⟩ : MethodName)) hown (mvT hZ (own_w46 hw)) (mvT hZ (own_w47 hw)) (notFace_of_selects (args := #[]) (mvT hZ (own_w49 hw))) (mvT hZ (own_w49 hw)) (mvT hZ (own_w48 hw)) (by decide) (backOf (W := 0) (rm7_7 l Z a0 hw [] b1_0 o_TECH T1.heap n0 (Nat.le_trans Z0 KC2.1) f1_1) hZ (own_w50 hw) (own_w29 hw) (by decide) (by decide)) q3a q3c (g := (mkF m 30 #[.val (.int i0), .val (.int i1), .val (.int (((97 : Int32) + ((i0 &&& (2147483647 : Int32)) % (26 : Int32))).toUInt32.toUInt16.toUInt32.toInt32)), .val (.ref b1_0), .unset] [(.ref b1_0)])) rfl (by rw [hml]; rfl) (Steps.refl _) (argsL := []) (rest := []) (lenOf pd___Z rfl) rfl (by show 2 * 0 + _ ≤ _; exact Nat.le_of_eq rfl) (hb hby at_30) (fun _ _ => ⟨rfl, rfl, (by decide : 2 + 0 ≤ _), (by decide : 6 + 0 ≤ _)⟩)
            dsimp only [Pt.U, Pt.locs, Pt.cells, Pt.slots] at X3 l3 y3 z3 st3 hQ3
            subst l3 y3 z3
            obtain ⟨rfl, N3q, e3⟩ := hQ3
            have N3 := Fr.app N1 N3q
            obtain ⟨cq4, kq4, q4a, q4b, q4c⟩ := isOf hZ e3 f1_0
            obtain ⟨_, _, ⟨T4, L4, k4, n4⟩, -, X4, ⟨Lc4, hQ4, l4, y4, z4⟩, st4⟩ := X3.virtualBack hx (y := (⟨"java/util/Optional", "get", "()Ljava/lang/Object;"⟩ : MethodName)) (z := (⟨"java/util/Optional", "get", "()Ljava/lang/Object;"⟩ : MethodName)) hown (mvT hZ (own_w51 hw)) (mvT hZ (own_w52 hw)) (notFace_of_selects (args := #[]) (mvT hZ (own_w54 hw))) (mvT hZ (own_w54 hw)) (mvT hZ (own_w53 hw)) (by decide) (backOf (W := 0) (rm8_8 l Z a0 hw [] b1_0 o_TECH T1.heap n0 (Nat.le_trans Z0 KC2.1) f1_1) hZ (own_w55 hw) (own_w29 hw) (by decide) (by decide)) q4a q4c (g := (mkF m 37 #[.val (.int i0), .val (.int i1), .val (.int (((97 : Int32) + ((i0 &&& (2147483647 : Int32)) % (26 : Int32))).toUInt32.toUInt16.toUInt32.toInt32)), .val (.ref b1_0), .unset] [(.ref b1_0)])) rfl (by rw [hml]; rfl) (Steps.refl _) (argsL := []) (rest := []) (lenOf pd___Ljava_lang_Object_ rfl) rfl (by show 2 * 0 + _ ≤ _; exact Nat.le_of_eq rfl) (hb hby at_37) (fun _ _ => ⟨rfl, e3, (by decide : 2 + 0 ≤ _), (by decide : 6 + 0 ≤ _)⟩)
            dsimp only [Pt.U, Pt.locs, Pt.cells, Pt.slots] at X4 l4 y4 z4 st4 hQ4
            subst l4 y4 z4
            obtain ⟨rfl, N4q, e4⟩ := hQ4
            have N4 := Fr.app N3 N4q
            have c5 := E_o_TECH.keep K1
            obtain ⟨T6, X6, e6, st6⟩ := castY X4 hx hZ hown (own_w56 hw) e4 (Ins.self c5) (g := (mkF m 40 #[.val (.int i0), .val (.int i1), .val (.int (((97 : Int32) + ((i0 &&& (2147483647 : Int32)) % (26 : Int32))).toUInt32.toUInt16.toUInt32.toInt32)), .val (.ref b1_0), .unset] [(.ref o_TECH)])) rfl rfl (hb hby at_40)
            have c7 := own_sta_keep S_o_TECH K1 own_ns0
            obtain ⟨_, _, ⟨T8, L8, k8, n8⟩, -, X8, ⟨Lc8, hQ8, l8, y8, z8⟩, st8⟩ := Jvm.LawKit.callS X6 hx (y := (⟨"com/example/delehat/delehat/protocols/whois/WhoisQueryOfPinLaw", "expected", "(C)Lcom/example/delehat/delehat/protocols/whois/WhoisQuery$Flag;"⟩ : MethodName)) hown (mvT hZ (own_w58 hw)) (mvT hZ (own_w59 hw)) (mvT hZ (own_w60 hw)) (mvT hZ (own_w61 hw)) (by decide) (backOf (W := 1) (rm9_15 l Z a0 hw [] (((97 : Int32) + ((i0 &&& (2147483647 : Int32)) % (26 : Int32))).toUInt32.toUInt16.toUInt32.toInt32) o_TECH T1.heap n0 (Nat.le_trans Z0 KC2.1) (Ne.symm hs1) (Ne.symm hs2) (Ne.symm hs3) (Eq.symm hs4) c7) hZ (own_w61 hw) (own_w60 hw) (by decide) (by decide)) (g := (mkF m 52 #[.val (.int i0), .val (.int i1), .val (.int (((97 : Int32) + ((i0 &&& (2147483647 : Int32)) % (26 : Int32))).toUInt32.toUInt16.toUInt32.toInt32)), .val (.ref b1_0), .val (.ref o_TECH)] [(.int (((97 : Int32) + ((i0 &&& (2147483647 : Int32)) % (26 : Int32))).toUInt32.toUInt16.toUInt32.toInt32)), (.ref o_TECH)])) rfl (by rw [hml]; rfl) (argsL := [(.int (((97 : Int32) + ((i0 &&& (2147483647 : Int32)) % (26 : Int32))).toUInt32.toUInt16.toUInt32.toInt32))]) (rest := [(.ref o_TECH)]) (lenOf pd__C_Lcom_example_delehat_delehat_protocols_whois_WhoisQuery_Flag_ rfl) rfl (by show 2 * 0 + _ ≤ _; exact Nat.le_of_eq rfl) (hb hby at_52) (fun _ _ => ⟨rfl, e6, (by decide : 2 + 0 ≤ _), (by decide : 6 + 0 ≤ _)⟩)
            dsimp only [Pt.U, Pt.locs, Pt.cells, Pt.slots] at X8 l8 y8 z8 st8 hQ8
            subst l8 y8 z8
            obtain ⟨rfl, N8q, e8⟩ := hQ8
            have N8 := Fr.app N4 N8q
            obtain ⟨fs, hr, hrun, hended, hW, hsame⟩ := X8.leave (v := some (.int (1 : Int32))) (fun h => by rw [Bd.returns] at h; cases h)
            refine ⟨_, _, pre3 _ ?_, hrun, hended, _, _, rfl, ⟨rfl, N8⟩, ⟨_, rfl⟩, hW, hsame.mono (by decide) (by decide)⟩
            show Steps p.tables e below (s₁.setTop (mkF m 25 #[.val (.int i0), .val (.int i1), .val (.int (((97 : Int32) + ((i0 &&& (2147483647 : Int32)) % (26 : Int32))).toUInt32.toUInt16.toUInt32.toInt32)), .unset, .unset] [(.int (((97 : Int32) + ((i0 &&& (2147483647 : Int32)) % (26 : Int32))).toUInt32.toUInt16.toUInt32.toInt32))])) _
            refine st1 _ ?_
            show Steps p.tables e below (T1.setTop (mkF m 28 #[.val (.int i0), .val (.int i1), .val (.int (((97 : Int32) + ((i0 &&& (2147483647 : Int32)) % (26 : Int32))).toUInt32.toUInt16.toUInt32.toInt32)), .unset, .unset] [(.ref b1_0)])) _
            refine XS.astoreN X1.here hx rfl (hb hby at_28) rfl rfl (l' := #[.val (.int i0), .val (.int i1), .val (.int (((97 : Int32) + ((i0 &&& (2147483647 : Int32)) % (26 : Int32))).toUInt32.toUInt16.toUInt32.toInt32)), .val (.ref b1_0), .unset]) rfl ?_
            show Steps p.tables e below (T1.setTop (mkF m 29 #[.val (.int i0), .val (.int i1), .val (.int (((97 : Int32) + ((i0 &&& (2147483647 : Int32)) % (26 : Int32))).toUInt32.toUInt16.toUInt32.toInt32)), .val (.ref b1_0), .unset] [])) _
            refine XS.aloadN X1.here hx rfl (hb hby at_29) rfl rfl ?_
            show Steps p.tables e below (T1.setTop (mkF m 30 #[.val (.int i0), .val (.int i1), .val (.int (((97 : Int32) + ((i0 &&& (2147483647 : Int32)) % (26 : Int32))).toUInt32.toUInt16.toUInt32.toInt32)), .val (.ref b1_0), .unset] [(.ref b1_0)])) _
            refine st3.trans ?_
            show Steps p.tables e below (T3.setTop (mkF m 33 #[.val (.int i0), .val (.int i1), .val (.int (((97 : Int32) + ((i0 &&& (2147483647 : Int32)) % (26 : Int32))).toUInt32.toUInt16.toUInt32.toInt32)), .val (.ref b1_0), .unset] [(.int (1 : Int32))])) _
            refine XS.ifNo X3.here hx rfl (hb hby at_33) rfl ((if0 _ _).trans (feq (by decide : ¬ ((1 : Int32) = (0 : Int32)))).1) ?_
            show Steps p.tables e below (T3.setTop (mkF m 36 #[.val (.int i0), .val (.int i1), .val (.int (((97 : Int32) + ((i0 &&& (2147483647 : Int32)) % (26 : Int32))).toUInt32.toUInt16.toUInt32.toInt32)), .val (.ref b1_0), .unset] [])) _
            refine XS.aloadN X3.here hx rfl (hb hby at_36) rfl rfl ?_
            show Steps p.tables e below (T3.setTop (mkF m 37 #[.val (.int i0), .val (.int i1), .val (.int (((97 : Int32) + ((i0 &&& (2147483647 : Int32)) % (26 : Int32))).toUInt32.toUInt16.toUInt32.toInt32)), .val (.ref b1_0), .unset] [(.ref b1_0)])) _
            refine st4.trans ?_
            show Steps p.tables e below (T4.setTop (mkF m 40 #[.val (.int i0), .val (.int i1), .val (.int (((97 : Int32) + ((i0 &&& (2147483647 : Int32)) % (26 : Int32))).toUInt32.toUInt16.toUInt32.toInt32)), .val (.ref b1_0), .unset] [(.ref o_TECH)])) _
            refine st6 _ ?_
            show Steps p.tables e below (T6.setTop (mkF m 43 #[.val (.int i0), .val (.int i1), .val (.int (((97 : Int32) + ((i0 &&& (2147483647 : Int32)) % (26 : Int32))).toUInt32.toUInt16.toUInt32.toInt32)), .val (.ref b1_0), .unset] [(.ref o_TECH)])) _
            refine XS.goto X6.here hx rfl (pc0 := 43) (pc' := 47) rfl (hb hby at_43) (by decide) (by decide) ?_
            show Steps p.tables e below (T6.setTop (mkF m 47 #[.val (.int i0), .val (.int i1), .val (.int (((97 : Int32) + ((i0 &&& (2147483647 : Int32)) % (26 : Int32))).toUInt32.toUInt16.toUInt32.toInt32)), .val (.ref b1_0), .unset] [(.ref o_TECH)])) _
            refine XS.astore X6.here hx rfl (hb hby at_47) rfl rfl (l' := #[.val (.int i0), .val (.int i1), .val (.int (((97 : Int32) + ((i0 &&& (2147483647 : Int32)) % (26 : Int32))).toUInt32.toUInt16.toUInt32.toInt32)), .val (.ref b1_0), .val (.ref o_TECH)]) rfl ?_
            show Steps p.tables e below (T6.setTop (mkF m 49 #[.val (.int i0), .val (.int i1), .val (.int (((97 : Int32) + ((i0 &&& (2147483647 : Int32)) % (26 : Int32))).toUInt32.toUInt16.toUInt32.toInt32)), .val (.ref b1_0), .val (.ref o_TECH)] [])) _
            refine XS.aload X6.here hx rfl (hb hby at_49) rfl rfl ?_
            show Steps p.tables e below (T6.setTop (mkF m 51 #[.val (.int i0), .val (.int i1), .val (.int (((97 : Int32) + ((i0 &&& (2147483647 : Int32)) % (26 : Int32))).toUInt32.toUInt16.toUInt32.toInt32)), .val (.ref b1_0), .val (.ref o_TECH)] [(.ref o_TECH)])) _
            refine XS.iloadN X6.here hx rfl (hb hby at_51) rfl ?_
            show Steps p.tables e below (T6.setTop (mkF m 52 #[.val (.int i0), .val (.int i1), .val (.int (((97 : Int32) + ((i0 &&& (2147483647 : Int32)) % (26 : Int32))).toUInt32.toUInt16.toUInt32.toInt32)), .val (.ref b1_0), .val (.ref o_TECH)] [(.int (((97 : Int32) + ((i0 &&& (2147483647 : Int32)) % (26 : Int32))).toUInt32.toUInt16.toUInt32.toInt32)), (.ref o_TECH)])) _
            refine st8 _ ?_
            show Steps p.tables e below (T8.setTop (mkF m 55 #[.val (.int i0), .val (.int i1), .val (.int (((97 : Int32) + ((i0 &&& (2147483647 : Int32)) % (26 : Int32))).toUInt32.toUInt16.toUInt32.toInt32)), .val (.ref b1_0), .val (.ref o_TECH)] [(.ref o_TECH), (.ref o_TECH)])) _
            refine Jvm.RoadKit.acmp (g := (mkF m 55 #[.val (.int i0), .val (.int i1), .val (.int (((97 : Int32) + ((i0 &&& (2147483647 : Int32)) % (26 : Int32))).toUInt32.toUInt16.toUInt32.toInt32)), .val (.ref b1_0), .val (.ref o_TECH)] [(.ref o_TECH), (.ref o_TECH)])) X8 hx rfl rfl rfl (pc0 := 55) (pc' := 58) (same := true) rfl (hb hby at_55) rfl (decide_eq_true rfl) (by decide) (by decide) ?_
            show Steps p.tables e below (T8.setTop (mkF m 58 #[.val (.int i0), .val (.int i1), .val (.int (((97 : Int32) + ((i0 &&& (2147483647 : Int32)) % (26 : Int32))).toUInt32.toUInt16.toUInt32.toInt32)), .val (.ref b1_0), .val (.ref o_TECH)] [])) _
            refine XS.iconst X8.here hx rfl (hb hby at_58) ?_
            show Steps p.tables e below (T8.setTop (mkF m 59 #[.val (.int i0), .val (.int i1), .val (.int (((97 : Int32) + ((i0 &&& (2147483647 : Int32)) % (26 : Int32))).toUInt32.toUInt16.toUInt32.toInt32)), .val (.ref b1_0), .val (.ref o_TECH)] [(.int (1 : Int32))])) _
            refine XS.goto X8.here hx rfl (pc0 := 59) (pc' := 63) rfl (hb hby at_59) (by decide) (by decide) ?_
            show Steps p.tables e below (T8.setTop (mkF m 63 #[.val (.int i0), .val (.int i1), .val (.int (((97 : Int32) + ((i0 &&& (2147483647 : Int32)) % (26 : Int32))).toUInt32.toUInt16.toUInt32.toInt32)), .val (.ref b1_0), .val (.ref o_TECH)] [(.int (1 : Int32))])) _
            exact retN X8 hx (t := .boolean) Bd.returns (by simp) (hb hby at_63) hr
          · by_cases hs5 : (115 : Int32) = (((97 : Int32) + ((i0 &&& (2147483647 : Int32)) % (26 : Int32))).toUInt32.toUInt16.toUInt32.toInt32)
            · obtain ⟨_, _, ⟨T1, L1, k1, n1⟩, -, X1, ⟨Lc1, hQ1, l1, y1, z1⟩, st1⟩ := Jvm.LawKit.callS X0 hx (y := (⟨"com/example/delehat/delehat/protocols/whois/WhoisQuery$Flag", "of", "(C)Ljava/util/Optional;"⟩ : MethodName)) hown (mvT hZ (own_w1 hw)) (mvT hZ (own_w2 hw)) (mvT hZ (own_w3 hw)) (mvT hZ (own_w4 hw)) (by decide) (backOf (W := 0) (rm1_16 l Z a0 hw [] (((97 : Int32) + ((i0 &&& (2147483647 : Int32)) % (26 : Int32))).toUInt32.toUInt16.toUInt32.toInt32) o__VALUES kc_o__VALUES o_REGISTRAR o_REGISTRANT o_ADMIN o_TECH o_SHORT h0 n0 Z0 S_o__VALUES E_o__VALUES V_o__VALUES F_o_REGISTRAR_letter hs1 F_o_REGISTRANT_letter hs2 F_o_ADMIN_letter hs3 F_o_TECH_letter hs4 F_o_SHORT_letter hs5) hZ (own_w4 hw) (own_w3 hw) (by decide) (by decide)) (g := (mkF m 25 #[.val (.int i0), .val (.int i1), .val (.int (((97 : Int32) + ((i0 &&& (2147483647 : Int32)) % (26 : Int32))).toUInt32.toUInt16.toUInt32.toInt32)), .unset, .unset] [(.int (((97 : Int32) + ((i0 &&& (2147483647 : Int32)) % (26 : Int32))).toUInt32.toUInt16.toUInt32.toInt32))])) rfl (by rw [hml]; rfl) (argsL := [(.int (((97 : Int32) + ((i0 &&& (2147483647 : Int32)) % (26 : Int32))).toUInt32.toUInt16.toUInt32.toInt32))]) (rest := []) (lenOf pd__C_Ljava_util_Optional_ rfl) rfl (by show 2 * 0 + _ ≤ _; exact Nat.le_of_eq rfl) (hb hby at_25) (fun _ _ => ⟨rfl, e0, (by decide : 0 + 2 ≤ _), (by decide : 0 + 6 ≤ _)⟩)
              dsimp only [Pt.U, Pt.locs, Pt.cells, Pt.slots] at X1 l1 y1 z1 st1 hQ1
              subst l1 y1 z1
              obtain ⟨b1_0, rfl, N1q, K1, sq1_0, f1_0, f1_1⟩ := hQ1
              have N1 := Fr.app N0 N1q
              have sz_b1_0 : h0.size ≤ b1_0 := sq1_0
              have sz0_b1_0 : h0.size ≤ b1_0 := sz_b1_0
              have g_b1_0 : n0 ≤ b1_0 := Nat.le_trans Z0 sz0_b1_0
              have KC2 : Keep h0 T1.heap [] := (Keep.refl h0 []).trans K1 all0
              obtain ⟨cq3, kq3, q3a, q3b, q3c⟩ := isOf hZ rfl f1_0
              obtain ⟨_, _, ⟨T3, L3, k3, n3⟩, -, X3, ⟨Lc3, hQ3, l3, y3, z3⟩, st3⟩ := X1.virtualBack hx (y := (⟨"java/util/Optional", "isPresent", "()Z"⟩ : MethodName)) (z := (⟨"java/util/Optional", "isPresent", "()Z"⟩ : MethodName)) hown (mvT hZ (own_w46 hw)) (mvT hZ (own_w47 hw)) (notFace_of_selects (args := #[]) (mvT hZ (own_w49 hw))) (mvT hZ (own_w49 hw)) (mvT hZ (own_w48 hw)) (by decide) (backOf (W := 0) (rm7_7 l Z a0 hw [] b1_0 o_SHORT T1.heap n0 (Nat.le_trans Z0 KC2.1) f1_1) hZ (own_w50 hw) (own_w29 hw) (by decide) (by decide)) q3a q3c (g := (mkF m 30 #[.val (.int i0), .val (.int i1), .val (.int (((97 : Int32) + ((i0 &&& (2147483647 : Int32)) % (26 : Int32))).toUInt32.toUInt16.toUInt32.toInt32)), .val (.ref b1_0), .unset] [(.ref b1_0)])) rfl (by rw [hml]; rfl) (Steps.refl _) (argsL := []) (rest := []) (lenOf pd___Z rfl) rfl (by show 2 * 0 + _ ≤ _; exact Nat.le_of_eq rfl) (hb hby at_30) (fun _ _ => ⟨rfl, rfl, (by decide : 2 + 0 ≤ _), (by decide : 6 + 0 ≤ _)⟩)
              dsimp only [Pt.U, Pt.locs, Pt.cells, Pt.slots] at X3 l3 y3 z3 st3 hQ3
              subst l3 y3 z3
              obtain ⟨rfl, N3q, e3⟩ := hQ3
              have N3 := Fr.app N1 N3q
              obtain ⟨cq4, kq4, q4a, q4b, q4c⟩ := isOf hZ e3 f1_0
              obtain ⟨_, _, ⟨T4, L4, k4, n4⟩, -, X4, ⟨Lc4, hQ4, l4, y4, z4⟩, st4⟩ := X3.virtualBack hx (y := (⟨"java/util/Optional", "get", "()Ljava/lang/Object;"⟩ : MethodName)) (z := (⟨"java/util/Optional", "get", "()Ljava/lang/Object;"⟩ : MethodName)) hown (mvT hZ (own_w51 hw)) (mvT hZ (own_w52 hw)) (notFace_of_selects (args := #[]) (mvT hZ (own_w54 hw))) (mvT hZ (own_w54 hw)) (mvT hZ (own_w53 hw)) (by decide) (backOf (W := 0) (rm8_8 l Z a0 hw [] b1_0 o_SHORT T1.heap n0 (Nat.le_trans Z0 KC2.1) f1_1) hZ (own_w55 hw) (own_w29 hw) (by decide) (by decide)) q4a q4c (g := (mkF m 37 #[.val (.int i0), .val (.int i1), .val (.int (((97 : Int32) + ((i0 &&& (2147483647 : Int32)) % (26 : Int32))).toUInt32.toUInt16.toUInt32.toInt32)), .val (.ref b1_0), .unset] [(.ref b1_0)])) rfl (by rw [hml]; rfl) (Steps.refl _) (argsL := []) (rest := []) (lenOf pd___Ljava_lang_Object_ rfl) rfl (by show 2 * 0 + _ ≤ _; exact Nat.le_of_eq rfl) (hb hby at_37) (fun _ _ => ⟨rfl, e3, (by decide : 2 + 0 ≤ _), (by decide : 6 + 0 ≤ _)⟩)
              dsimp only [Pt.U, Pt.locs, Pt.cells, Pt.slots] at X4 l4 y4 z4 st4 hQ4
              subst l4 y4 z4
              obtain ⟨rfl, N4q, e4⟩ := hQ4
              have N4 := Fr.app N3 N4q
              have c5 := E_o_SHORT.keep K1
              obtain ⟨T6, X6, e6, st6⟩ := castY X4 hx hZ hown (own_w56 hw) e4 (Ins.self c5) (g := (mkF m 40 #[.val (.int i0), .val (.int i1), .val (.int (((97 : Int32) + ((i0 &&& (2147483647 : Int32)) % (26 : Int32))).toUInt32.toUInt16.toUInt32.toInt32)), .val (.ref b1_0), .unset] [(.ref o_SHORT)])) rfl rfl (hb hby at_40)
              have c7 := own_sta_keep S_o_SHORT K1 own_ns0
              obtain ⟨_, _, ⟨T8, L8, k8, n8⟩, -, X8, ⟨Lc8, hQ8, l8, y8, z8⟩, st8⟩ := Jvm.LawKit.callS X6 hx (y := (⟨"com/example/delehat/delehat/protocols/whois/WhoisQueryOfPinLaw", "expected", "(C)Lcom/example/delehat/delehat/protocols/whois/WhoisQuery$Flag;"⟩ : MethodName)) hown (mvT hZ (own_w58 hw)) (mvT hZ (own_w59 hw)) (mvT hZ (own_w60 hw)) (mvT hZ (own_w61 hw)) (by decide) (backOf (W := 1) (rm9_17 l Z a0 hw [] (((97 : Int32) + ((i0 &&& (2147483647 : Int32)) % (26 : Int32))).toUInt32.toUInt16.toUInt32.toInt32) o_SHORT T1.heap n0 (Nat.le_trans Z0 KC2.1) (Ne.symm hs1) (Ne.symm hs2) (Ne.symm hs3) (Ne.symm hs4) (Eq.symm hs5) c7) hZ (own_w61 hw) (own_w60 hw) (by decide) (by decide)) (g := (mkF m 52 #[.val (.int i0), .val (.int i1), .val (.int (((97 : Int32) + ((i0 &&& (2147483647 : Int32)) % (26 : Int32))).toUInt32.toUInt16.toUInt32.toInt32)), .val (.ref b1_0), .val (.ref o_SHORT)] [(.int (((97 : Int32) + ((i0 &&& (2147483647 : Int32)) % (26 : Int32))).toUInt32.toUInt16.toUInt32.toInt32)), (.ref o_SHORT)])) rfl (by rw [hml]; rfl) (argsL := [(.int (((97 : Int32) + ((i0 &&& (2147483647 : Int32)) % (26 : Int32))).toUInt32.toUInt16.toUInt32.toInt32))]) (rest := [(.ref o_SHORT)]) (lenOf pd__C_Lcom_example_delehat_delehat_protocols_whois_WhoisQuery_Flag_ rfl) rfl (by show 2 * 0 + _ ≤ _; exact Nat.le_of_eq rfl) (hb hby at_52) (fun _ _ => ⟨rfl, e6, (by decide : 2 + 0 ≤ _), (by decide : 6 + 0 ≤ _)⟩)
              dsimp only [Pt.U, Pt.locs, Pt.cells, Pt.slots] at X8 l8 y8 z8 st8 hQ8
              subst l8 y8 z8
              obtain ⟨rfl, N8q, e8⟩ := hQ8
              have N8 := Fr.app N4 N8q
              obtain ⟨fs, hr, hrun, hended, hW, hsame⟩ := X8.leave (v := some (.int (1 : Int32))) (fun h => by rw [Bd.returns] at h; cases h)
              refine ⟨_, _, pre3 _ ?_, hrun, hended, _, _, rfl, ⟨rfl, N8⟩, ⟨_, rfl⟩, hW, hsame.mono (by decide) (by decide)⟩
              show Steps p.tables e below (s₁.setTop (mkF m 25 #[.val (.int i0), .val (.int i1), .val (.int (((97 : Int32) + ((i0 &&& (2147483647 : Int32)) % (26 : Int32))).toUInt32.toUInt16.toUInt32.toInt32)), .unset, .unset] [(.int (((97 : Int32) + ((i0 &&& (2147483647 : Int32)) % (26 : Int32))).toUInt32.toUInt16.toUInt32.toInt32))])) _
              refine st1 _ ?_
              show Steps p.tables e below (T1.setTop (mkF m 28 #[.val (.int i0), .val (.int i1), .val (.int (((97 : Int32) + ((i0 &&& (2147483647 : Int32)) % (26 : Int32))).toUInt32.toUInt16.toUInt32.toInt32)), .unset, .unset] [(.ref b1_0)])) _
              refine XS.astoreN X1.here hx rfl (hb hby at_28) rfl rfl (l' := #[.val (.int i0), .val (.int i1), .val (.int (((97 : Int32) + ((i0 &&& (2147483647 : Int32)) % (26 : Int32))).toUInt32.toUInt16.toUInt32.toInt32)), .val (.ref b1_0), .unset]) rfl ?_
              show Steps p.tables e below (T1.setTop (mkF m 29 #[.val (.int i0), .val (.int i1), .val (.int (((97 : Int32) + ((i0 &&& (2147483647 : Int32)) % (26 : Int32))).toUInt32.toUInt16.toUInt32.toInt32)), .val (.ref b1_0), .unset] [])) _
              refine XS.aloadN X1.here hx rfl (hb hby at_29) rfl rfl ?_
              show Steps p.tables e below (T1.setTop (mkF m 30 #[.val (.int i0), .val (.int i1), .val (.int (((97 : Int32) + ((i0 &&& (2147483647 : Int32)) % (26 : Int32))).toUInt32.toUInt16.toUInt32.toInt32)), .val (.ref b1_0), .unset] [(.ref b1_0)])) _
              refine st3.trans ?_
              show Steps p.tables e below (T3.setTop (mkF m 33 #[.val (.int i0), .val (.int i1), .val (.int (((97 : Int32) + ((i0 &&& (2147483647 : Int32)) % (26 : Int32))).toUInt32.toUInt16.toUInt32.toInt32)), .val (.ref b1_0), .unset] [(.int (1 : Int32))])) _
              refine XS.ifNo X3.here hx rfl (hb hby at_33) rfl ((if0 _ _).trans (feq (by decide : ¬ ((1 : Int32) = (0 : Int32)))).1) ?_
              show Steps p.tables e below (T3.setTop (mkF m 36 #[.val (.int i0), .val (.int i1), .val (.int (((97 : Int32) + ((i0 &&& (2147483647 : Int32)) % (26 : Int32))).toUInt32.toUInt16.toUInt32.toInt32)), .val (.ref b1_0), .unset] [])) _
              refine XS.aloadN X3.here hx rfl (hb hby at_36) rfl rfl ?_
              show Steps p.tables e below (T3.setTop (mkF m 37 #[.val (.int i0), .val (.int i1), .val (.int (((97 : Int32) + ((i0 &&& (2147483647 : Int32)) % (26 : Int32))).toUInt32.toUInt16.toUInt32.toInt32)), .val (.ref b1_0), .unset] [(.ref b1_0)])) _
              refine st4.trans ?_
              show Steps p.tables e below (T4.setTop (mkF m 40 #[.val (.int i0), .val (.int i1), .val (.int (((97 : Int32) + ((i0 &&& (2147483647 : Int32)) % (26 : Int32))).toUInt32.toUInt16.toUInt32.toInt32)), .val (.ref b1_0), .unset] [(.ref o_SHORT)])) _
              refine st6 _ ?_
              show Steps p.tables e below (T6.setTop (mkF m 43 #[.val (.int i0), .val (.int i1), .val (.int (((97 : Int32) + ((i0 &&& (2147483647 : Int32)) % (26 : Int32))).toUInt32.toUInt16.toUInt32.toInt32)), .val (.ref b1_0), .unset] [(.ref o_SHORT)])) _
              refine XS.goto X6.here hx rfl (pc0 := 43) (pc' := 47) rfl (hb hby at_43) (by decide) (by decide) ?_
              show Steps p.tables e below (T6.setTop (mkF m 47 #[.val (.int i0), .val (.int i1), .val (.int (((97 : Int32) + ((i0 &&& (2147483647 : Int32)) % (26 : Int32))).toUInt32.toUInt16.toUInt32.toInt32)), .val (.ref b1_0), .unset] [(.ref o_SHORT)])) _
              refine XS.astore X6.here hx rfl (hb hby at_47) rfl rfl (l' := #[.val (.int i0), .val (.int i1), .val (.int (((97 : Int32) + ((i0 &&& (2147483647 : Int32)) % (26 : Int32))).toUInt32.toUInt16.toUInt32.toInt32)), .val (.ref b1_0), .val (.ref o_SHORT)]) rfl ?_
              show Steps p.tables e below (T6.setTop (mkF m 49 #[.val (.int i0), .val (.int i1), .val (.int (((97 : Int32) + ((i0 &&& (2147483647 : Int32)) % (26 : Int32))).toUInt32.toUInt16.toUInt32.toInt32)), .val (.ref b1_0), .val (.ref o_SHORT)] [])) _
              refine XS.aload X6.here hx rfl (hb hby at_49) rfl rfl ?_
              show Steps p.tables e below (T6.setTop (mkF m 51 #[.val (.int i0), .val (.int i1), .val (.int (((97 : Int32) + ((i0 &&& (2147483647 : Int32)) % (26 : Int32))).toUInt32.toUInt16.toUInt32.toInt32)), .val (.ref b1_0), .val (.ref o_SHORT)] [(.ref o_SHORT)])) _
              refine XS.iloadN X6.here hx rfl (hb hby at_51) rfl ?_
              show Steps p.tables e below (T6.setTop (mkF m 52 #[.val (.int i0), .val (.int i1), .val (.int (((97 : Int32) + ((i0 &&& (2147483647 : Int32)) % (26 : Int32))).toUInt32.toUInt16.toUInt32.toInt32)), .val (.ref b1_0), .val (.ref o_SHORT)] [(.int (((97 : Int32) + ((i0 &&& (2147483647 : Int32)) % (26 : Int32))).toUInt32.toUInt16.toUInt32.toInt32)), (.ref o_SHORT)])) _
              refine st8 _ ?_
              show Steps p.tables e below (T8.setTop (mkF m 55 #[.val (.int i0), .val (.int i1), .val (.int (((97 : Int32) + ((i0 &&& (2147483647 : Int32)) % (26 : Int32))).toUInt32.toUInt16.toUInt32.toInt32)), .val (.ref b1_0), .val (.ref o_SHORT)] [(.ref o_SHORT), (.ref o_SHORT)])) _
              refine Jvm.RoadKit.acmp (g := (mkF m 55 #[.val (.int i0), .val (.int i1), .val (.int (((97 : Int32) + ((i0 &&& (2147483647 : Int32)) % (26 : Int32))).toUInt32.toUInt16.toUInt32.toInt32)), .val (.ref b1_0), .val (.ref o_SHORT)] [(.ref o_SHORT), (.ref o_SHORT)])) X8 hx rfl rfl rfl (pc0 := 55) (pc' := 58) (same := true) rfl (hb hby at_55) rfl (decide_eq_true rfl) (by decide) (by decide) ?_
              show Steps p.tables e below (T8.setTop (mkF m 58 #[.val (.int i0), .val (.int i1), .val (.int (((97 : Int32) + ((i0 &&& (2147483647 : Int32)) % (26 : Int32))).toUInt32.toUInt16.toUInt32.toInt32)), .val (.ref b1_0), .val (.ref o_SHORT)] [])) _
              refine XS.iconst X8.here hx rfl (hb hby at_58) ?_
              show Steps p.tables e below (T8.setTop (mkF m 59 #[.val (.int i0), .val (.int i1), .val (.int (((97 : Int32) + ((i0 &&& (2147483647 : Int32)) % (26 : Int32))).toUInt32.toUInt16.toUInt32.toInt32)), .val (.ref b1_0), .val (.ref o_SHORT)] [(.int (1 : Int32))])) _
              refine XS.goto X8.here hx rfl (pc0 := 59) (pc' := 63) rfl (hb hby at_59) (by decide) (by decide) ?_
              show Steps p.tables e below (T8.setTop (mkF m 63 #[.val (.int i0), .val (.int i1), .val (.int (((97 : Int32) + ((i0 &&& (2147483647 : Int32)) % (26 : Int32))).toUInt32.toUInt16.toUInt32.toInt32)), .val (.ref b1_0), .val (.ref o_SHORT)] [(.int (1 : Int32))])) _
              exact retN X8 hx (t := .boolean) Bd.returns (by simp) (hb hby at_63) hr
            · obtain ⟨_, _, ⟨T1, L1, k1, n1⟩, -, X1, ⟨Lc1, hQ1, l1, y1, z1⟩, st1⟩ := Jvm.LawKit.callS X0 hx (y := (⟨"com/example/delehat/delehat/protocols/whois/WhoisQuery$Flag", "of", "(C)Ljava/util/Optional;"⟩ : MethodName)) hown (mvT hZ (own_w1 hw)) (mvT hZ (own_w2 hw)) (mvT hZ (own_w3 hw)) (mvT hZ (own_w4 hw)) (by decide) (backOf (W := 0) (rm1_18 l Z a0 hw [] (((97 : Int32) + ((i0 &&& (2147483647 : Int32)) % (26 : Int32))).toUInt32.toUInt16.toUInt32.toInt32) o__VALUES kc_o__VALUES o_REGISTRAR o_REGISTRANT o_ADMIN o_TECH o_SHORT o_EMPTY h0 n0 Z0 S_o__VALUES E_o__VALUES V_o__VALUES F_o_REGISTRAR_letter hs1 F_o_REGISTRANT_letter hs2 F_o_ADMIN_letter hs3 F_o_TECH_letter hs4 F_o_SHORT_letter hs5 S_o_EMPTY) hZ (own_w4 hw) (own_w3 hw) (by decide) (by decide)) (g := (mkF m 25 #[.val (.int i0), .val (.int i1), .val (.int (((97 : Int32) + ((i0 &&& (2147483647 : Int32)) % (26 : Int32))).toUInt32.toUInt16.toUInt32.toInt32)), .unset, .unset] [(.int (((97 : Int32) + ((i0 &&& (2147483647 : Int32)) % (26 : Int32))).toUInt32.toUInt16.toUInt32.toInt32))])) rfl (by rw [hml]; rfl) (argsL := [(.int (((97 : Int32) + ((i0 &&& (2147483647 : Int32)) % (26 : Int32))).toUInt32.toUInt16.toUInt32.toInt32))]) (rest := []) (lenOf pd__C_Ljava_util_Optional_ rfl) rfl (by show 2 * 0 + _ ≤ _; exact Nat.le_of_eq rfl) (hb hby at_25) (fun _ _ => ⟨rfl, e0, (by decide : 0 + 1 ≤ _), (by decide : 0 + 5 ≤ _)⟩)
              dsimp only [Pt.U, Pt.locs, Pt.cells, Pt.slots] at X1 l1 y1 z1 st1 hQ1
              subst l1 y1 z1
              obtain ⟨rfl, N1q, K1⟩ := hQ1
              have N1 := Fr.app N0 N1q
              have KC2 : Keep h0 T1.heap [] := (Keep.refl h0 []).trans K1 all0
              have c3 := E_o_EMPTY.keep K1
              have c4 := F_o_EMPTY_value.keep K1 nin0
              obtain ⟨cq5, kq5, q5a, q5b, q5c⟩ := isOf hZ rfl c3
              obtain ⟨_, _, ⟨T5, L5, k5, n5⟩, -, X5, ⟨Lc5, hQ5, l5, y5, z5⟩, st5⟩ := X1.virtualBack hx (y := (⟨"java/util/Optional", "isPresent", "()Z"⟩ : MethodName)) (z := (⟨"java/util/Optional", "isPresent", "()Z"⟩ : MethodName)) hown (mvT hZ (own_w46 hw)) (mvT hZ (own_w47 hw)) (notFace_of_selects (args := #[]) (mvT hZ (own_w49 hw))) (mvT hZ (own_w49 hw)) (mvT hZ (own_w48 hw)) (by decide) (backOf (W := 0) (rm7_19 l Z a0 hw [] o_EMPTY T1.heap n0 (Nat.le_trans Z0 KC2.1) c4) hZ (own_w50 hw) (own_w29 hw) (by decide) (by decide)) q5a q5c (g := (mkF m 30 #[.val (.int i0), .val (.int i1), .val (.int (((97 : Int32) + ((i0 &&& (2147483647 : Int32)) % (26 : Int32))).toUInt32.toUInt16.toUInt32.toInt32)), .val (.ref o_EMPTY), .unset] [(.ref o_EMPTY)])) rfl (by rw [hml]; rfl) (Steps.refl _) (argsL := []) (rest := []) (lenOf pd___Z rfl) rfl (by show 2 * 0 + _ ≤ _; exact Nat.le_of_eq rfl) (hb hby at_30) (fun _ _ => ⟨rfl, rfl, (by decide : 1 + 0 ≤ _), (by decide : 5 + 0 ≤ _)⟩)
              dsimp only [Pt.U, Pt.locs, Pt.cells, Pt.slots] at X5 l5 y5 z5 st5 hQ5
              subst l5 y5 z5
              obtain ⟨rfl, N5q, e5⟩ := hQ5
              have N5 := Fr.app N1 N5q
              obtain ⟨_, _, ⟨T6, L6, k6, n6⟩, -, X6, ⟨Lc6, hQ6, l6, y6, z6⟩, st6⟩ := Jvm.LawKit.callS X5 hx (y := (⟨"com/example/delehat/delehat/protocols/whois/WhoisQueryOfPinLaw", "expected", "(C)Lcom/example/delehat/delehat/protocols/whois/WhoisQuery$Flag;"⟩ : MethodName)) hown (mvT hZ (own_w58 hw)) (mvT hZ (own_w59 hw)) (mvT hZ (own_w60 hw)) (mvT hZ (own_w61 hw)) (by decide) (backOf (W := 1) (rm9_20 l Z a0 hw [] (((97 : Int32) + ((i0 &&& (2147483647 : Int32)) % (26 : Int32))).toUInt32.toUInt16.toUInt32.toInt32) T1.heap n0 (Nat.le_trans Z0 KC2.1) (Ne.symm hs1) (Ne.symm hs2) (Ne.symm hs3) (Ne.symm hs4) (Ne.symm hs5)) hZ (own_w61 hw) (own_w60 hw) (by decide) (by decide)) (g := (mkF m 52 #[.val (.int i0), .val (.int i1), .val (.int (((97 : Int32) + ((i0 &&& (2147483647 : Int32)) % (26 : Int32))).toUInt32.toUInt16.toUInt32.toInt32)), .val (.ref o_EMPTY), .val .null] [(.int (((97 : Int32) + ((i0 &&& (2147483647 : Int32)) % (26 : Int32))).toUInt32.toUInt16.toUInt32.toInt32)), .null])) rfl (by rw [hml]; rfl) (argsL := [(.int (((97 : Int32) + ((i0 &&& (2147483647 : Int32)) % (26 : Int32))).toUInt32.toUInt16.toUInt32.toInt32))]) (rest := [.null]) (lenOf pd__C_Lcom_example_delehat_delehat_protocols_whois_WhoisQuery_Flag_ rfl) rfl (by show 2 * 0 + _ ≤ _; exact Nat.le_of_eq rfl) (hb hby at_52) (fun _ _ => ⟨rfl, e5, (by decide : 1 + 0 ≤ _), (by decide : 5 + 0 ≤ _)⟩)
              dsimp only [Pt.U, Pt.locs, Pt.cells, Pt.slots] at X6 l6 y6 z6 st6 hQ6
              subst l6 y6 z6
              obtain ⟨rfl, N6q, e6⟩ := hQ6
              have N6 := Fr.app N5 N6q
              obtain ⟨fs, hr, hrun, hended, hW, hsame⟩ := X6.leave (v := some (.int (1 : Int32))) (fun h => by rw [Bd.returns] at h; cases h)
              refine ⟨_, _, pre3 _ ?_, hrun, hended, _, _, rfl, ⟨rfl, N6⟩, ⟨_, rfl⟩, hW, hsame.mono (by decide) (by decide)⟩
              show Steps p.tables e below (s₁.setTop (mkF m 25 #[.val (.int i0), .val (.int i1), .val (.int (((97 : Int32) + ((i0 &&& (2147483647 : Int32)) % (26 : Int32))).toUInt32.toUInt16.toUInt32.toInt32)), .unset, .unset] [(.int (((97 : Int32) + ((i0 &&& (2147483647 : Int32)) % (26 : Int32))).toUInt32.toUInt16.toUInt32.toInt32))])) _
              refine st1 _ ?_
              show Steps p.tables e below (T1.setTop (mkF m 28 #[.val (.int i0), .val (.int i1), .val (.int (((97 : Int32) + ((i0 &&& (2147483647 : Int32)) % (26 : Int32))).toUInt32.toUInt16.toUInt32.toInt32)), .unset, .unset] [(.ref o_EMPTY)])) _
              refine XS.astoreN X1.here hx rfl (hb hby at_28) rfl rfl (l' := #[.val (.int i0), .val (.int i1), .val (.int (((97 : Int32) + ((i0 &&& (2147483647 : Int32)) % (26 : Int32))).toUInt32.toUInt16.toUInt32.toInt32)), .val (.ref o_EMPTY), .unset]) rfl ?_
              show Steps p.tables e below (T1.setTop (mkF m 29 #[.val (.int i0), .val (.int i1), .val (.int (((97 : Int32) + ((i0 &&& (2147483647 : Int32)) % (26 : Int32))).toUInt32.toUInt16.toUInt32.toInt32)), .val (.ref o_EMPTY), .unset] [])) _
              refine XS.aloadN X1.here hx rfl (hb hby at_29) rfl rfl ?_
              show Steps p.tables e below (T1.setTop (mkF m 30 #[.val (.int i0), .val (.int i1), .val (.int (((97 : Int32) + ((i0 &&& (2147483647 : Int32)) % (26 : Int32))).toUInt32.toUInt16.toUInt32.toInt32)), .val (.ref o_EMPTY), .unset] [(.ref o_EMPTY)])) _
              refine st5.trans ?_
              show Steps p.tables e below (T5.setTop (mkF m 33 #[.val (.int i0), .val (.int i1), .val (.int (((97 : Int32) + ((i0 &&& (2147483647 : Int32)) % (26 : Int32))).toUInt32.toUInt16.toUInt32.toInt32)), .val (.ref o_EMPTY), .unset] [(.int (0 : Int32))])) _
              refine XS.ifYes X5.here hx rfl (pc0 := 33) (pc' := 46) rfl (hb hby at_33) rfl ((if0 _ _).trans (teq (by decide : (0 : Int32) = (0 : Int32))).1) (by decide) (by decide) ?_
              show Steps p.tables e below (T5.setTop (mkF m 46 #[.val (.int i0), .val (.int i1), .val (.int (((97 : Int32) + ((i0 &&& (2147483647 : Int32)) % (26 : Int32))).toUInt32.toUInt16.toUInt32.toInt32)), .val (.ref o_EMPTY), .unset] [])) _
              refine XS.aconstNull X5.here hx rfl (hb hby at_46) ?_
              show Steps p.tables e below (T5.setTop (mkF m 47 #[.val (.int i0), .val (.int i1), .val (.int (((97 : Int32) + ((i0 &&& (2147483647 : Int32)) % (26 : Int32))).toUInt32.toUInt16.toUInt32.toInt32)), .val (.ref o_EMPTY), .unset] [.null])) _
              refine XS.astore X5.here hx rfl (hb hby at_47) rfl rfl (l' := #[.val (.int i0), .val (.int i1), .val (.int (((97 : Int32) + ((i0 &&& (2147483647 : Int32)) % (26 : Int32))).toUInt32.toUInt16.toUInt32.toInt32)), .val (.ref o_EMPTY), .val .null]) rfl ?_
              show Steps p.tables e below (T5.setTop (mkF m 49 #[.val (.int i0), .val (.int i1), .val (.int (((97 : Int32) + ((i0 &&& (2147483647 : Int32)) % (26 : Int32))).toUInt32.toUInt16.toUInt32.toInt32)), .val (.ref o_EMPTY), .val .null] [])) _
              refine XS.aload X5.here hx rfl (hb hby at_49) rfl rfl ?_
              show Steps p.tables e below (T5.setTop (mkF m 51 #[.val (.int i0), .val (.int i1), .val (.int (((97 : Int32) + ((i0 &&& (2147483647 : Int32)) % (26 : Int32))).toUInt32.toUInt16.toUInt32.toInt32)), .val (.ref o_EMPTY), .val .null] [.null])) _
              refine XS.iloadN X5.here hx rfl (hb hby at_51) rfl ?_
              show Steps p.tables e below (T5.setTop (mkF m 52 #[.val (.int i0), .val (.int i1), .val (.int (((97 : Int32) + ((i0 &&& (2147483647 : Int32)) % (26 : Int32))).toUInt32.toUInt16.toUInt32.toInt32)), .val (.ref o_EMPTY), .val .null] [(.int (((97 : Int32) + ((i0 &&& (2147483647 : Int32)) % (26 : Int32))).toUInt32.toUInt16.toUInt32.toInt32)), .null])) _
              refine st6 _ ?_
              show Steps p.tables e below (T6.setTop (mkF m 55 #[.val (.int i0), .val (.int i1), .val (.int (((97 : Int32) + ((i0 &&& (2147483647 : Int32)) % (26 : Int32))).toUInt32.toUInt16.toUInt32.toInt32)), .val (.ref o_EMPTY), .val .null] [.null, .null])) _
              refine Jvm.RoadKit.acmp (g := (mkF m 55 #[.val (.int i0), .val (.int i1), .val (.int (((97 : Int32) + ((i0 &&& (2147483647 : Int32)) % (26 : Int32))).toUInt32.toUInt16.toUInt32.toInt32)), .val (.ref o_EMPTY), .val .null] [.null, .null])) X6 hx rfl rfl rfl (pc0 := 55) (pc' := 58) (same := true) rfl (hb hby at_55) rfl (decide_eq_true rfl) (by decide) (by decide) ?_
              show Steps p.tables e below (T6.setTop (mkF m 58 #[.val (.int i0), .val (.int i1), .val (.int (((97 : Int32) + ((i0 &&& (2147483647 : Int32)) % (26 : Int32))).toUInt32.toUInt16.toUInt32.toInt32)), .val (.ref o_EMPTY), .val .null] [])) _
              refine XS.iconst X6.here hx rfl (hb hby at_58) ?_
              show Steps p.tables e below (T6.setTop (mkF m 59 #[.val (.int i0), .val (.int i1), .val (.int (((97 : Int32) + ((i0 &&& (2147483647 : Int32)) % (26 : Int32))).toUInt32.toUInt16.toUInt32.toInt32)), .val (.ref o_EMPTY), .val .null] [(.int (1 : Int32))])) _
              refine XS.goto X6.here hx rfl (pc0 := 59) (pc' := 63) rfl (hb hby at_59) (by decide) (by decide) ?_
              show Steps p.tables e below (T6.setTop (mkF m 63 #[.val (.int i0), .val (.int i1), .val (.int (((97 : Int32) + ((i0 &&& (2147483647 : Int32)) % (26 : Int32))).toUInt32.toUInt16.toUInt32.toInt32)), .val (.ref o_EMPTY), .val .null] [(.int (1 : Int32))])) _
              exact retN X6 hx (t := .boolean) Bd.returns (by simp) (hb hby at_63) hr
set_option maxRecDepth 65536 in
set_option maxHeartbeats 40000000 in
theorem comes_1 {Post : Tables → Env → Array Value → State → Outcome → State → Prop} (hpost : ∀ tb e args s v u, (limb_1_1.after args s (.returned v) u = true ∧ limb_1_2.after args s (.returned v) u = true ∧ True) → FrameEnd s (.returned v) u (Jvm.fieldLocs frame_1_writes args s ++ Jvm.arrayLocs frame_1_arrays args s ++ Jvm.staticLocs frame_1_statics s) 16 128 → Post tb e args s (.returned v) u) :
    ArmFor flags0 classFile x code maxLocals ret World_1 tables_1 room_1 Calls_1 rest_1 Pre_1 Post := by
  intro l hfl _ _ p e ha hc hk s m args below hf hA hF happ hP
  obtain ⟨hcalls, hrest, hpre⟩ := hP
  obtain ⟨-, -, -, hnamed, -, -, -, hat⟩ := (Spec.applies_iff hf).mp happ
  obtain ⟨hg, hn⟩ := and_e (Cond.before_iff.mp (show (Jvm.Cond.and given_1 narrow_1).before args s = true from hpre))
  obtain ⟨hg_1a, hg_1b⟩ := and_e hg
  obtain ⟨hg_2a, hg_2b⟩ := and_e hg_1b
  obtain ⟨w0, w1, rfl⟩ : ∃ w0 w1 : Value, args = #[w0, w1] := by
    have hs : args.size = 2 := by simpa [Cond.value, given_1] using hg_1a
    obtain ⟨L⟩ := args
    match L, hs with
    | [w0, w1], _ => exact ⟨w0, w1, rfl⟩
  have hw := fun d (hd : d ∈ tables_1) => atoms_spec (ws := Jvm.Cond.code x code maxLocals ret :: tables_1) hat d (List.mem_cons_of_mem _ hd)
  have hfit : Fit s := fun {y c} hc i hi => by
    obtain ⟨ha, rfl⟩ := Array.getElem?_eq_some_iff.mp hc
    have q := List.all_eq_true.mp ((Array.all_eq_true_iff_forall_mem.mp hF) _ (Array.getElem_mem ha)) i (List.mem_range.mpr hi)
    simpa [Array.getElem?_eq_getElem hi] using q
  obtain ⟨hsets, hown0⟩ := atoms_of _ (rest_1_c_eq ▸ (show rest_1_c.before _ s = true from hrest))
  have hr0 := Cond.before_iff.mp hown0
  obtain ⟨i0, ei0⟩ := is_v hg_2a
  obtain rfl : w0 = (.int i0) := Option.some.inj ei0
  obtain ⟨i1, ei1⟩ := is_v hg_2b
  obtain rfl : w1 = (.int i1) := Option.some.inj ei1
  obtain ⟨hn_1a, hn_1b⟩ := and_e hn
  obtain ⟨hn_2a, hn_2b⟩ := and_e hn_1b
  obtain ⟨hn_3a, hn_3b⟩ := and_e hn_2b
  obtain ⟨hn_4a, hn_4b⟩ := and_e hn_3b
  obtain ⟨hn_5a, hn_5b⟩ := and_e hn_4b
  obtain ⟨hn_6a, hn_6b⟩ := and_e hn_5b
  obtain ⟨hn_7a, hn_7b⟩ := and_e hn_6b
  obtain ⟨hn_8a, hn_8b⟩ := and_e hn_7b
  obtain ⟨hn_9a, hn_9b⟩ := and_e hn_8b
  obtain ⟨hn_10a, hn_10b⟩ := and_e hn_9b
  obtain ⟨hn_11a, hn_11b⟩ := and_e hn_10b
  obtain ⟨hn_12a, hn_12b⟩ := and_e hn_11b
  obtain ⟨hn_13a, hn_13b⟩ := and_e hn_12b
  obtain ⟨hn_14a, hn_14b⟩ := and_e hn_13b
  obtain ⟨hn_15a, hn_15b⟩ := and_e hn_14b
  obtain ⟨hn_16a, hn_16b⟩ := and_e hn_15b
  obtain ⟨hn_17a, hn_17b⟩ := and_e hn_16b
  obtain ⟨o__VALUES, ev_o__VALUES⟩ := exa_v hn_2a
  have S_o__VALUES := Sta.start ev_o__VALUES (Or.inl (own_w22 hw))
  have E_o__VALUES := Exa.start ev_o__VALUES hn_2a
  obtain ⟨o_REGISTRAR, ev_o_REGISTRAR⟩ := exa_v hn_4a
  have S_o_REGISTRAR := Sta.start ev_o_REGISTRAR (Or.inr ⟨(own_w3 hw), (own_w17 hw)⟩)
  have E_o_REGISTRAR := Exa.start ev_o_REGISTRAR hn_4a
  obtain ⟨o_REGISTRANT, ev_o_REGISTRANT⟩ := exa_v hn_6a
  have S_o_REGISTRANT := Sta.start ev_o_REGISTRANT (Or.inr ⟨(own_w3 hw), (own_w18 hw)⟩)
  have E_o_REGISTRANT := Exa.start ev_o_REGISTRANT hn_6a
  obtain ⟨o_ADMIN, ev_o_ADMIN⟩ := exa_v hn_8a
  have S_o_ADMIN := Sta.start ev_o_ADMIN (Or.inr ⟨(own_w3 hw), (own_w19 hw)⟩)
  have E_o_ADMIN := Exa.start ev_o_ADMIN hn_8a
  obtain ⟨o_TECH, ev_o_TECH⟩ := exa_v hn_10a
  have S_o_TECH := Sta.start ev_o_TECH (Or.inr ⟨(own_w3 hw), (own_w20 hw)⟩)
  have E_o_TECH := Exa.start ev_o_TECH hn_10a
  obtain ⟨o_SHORT, ev_o_SHORT⟩ := exa_v hn_12a
  have S_o_SHORT := Sta.start ev_o_SHORT (Or.inr ⟨(own_w3 hw), (own_w21 hw)⟩)
  have E_o_SHORT := Exa.start ev_o_SHORT hn_12a
  obtain ⟨o_EMPTY, ev_o_EMPTY⟩ := exa_v (Cond.before_iff.mp (hsets _ (List.mem_of_getElem? (i := 2) rfl)))
  have S_o_EMPTY := Sta.start ev_o_EMPTY (Or.inl (hsets _ (List.mem_of_getElem? (i := 1) rfl)))
  have E_o_EMPTY := Exa.start ev_o_EMPTY (Cond.before_iff.mp (hsets _ (List.mem_of_getElem? (i := 2) rfl)))
  have F_o_REGISTRAR_letter := own_fldI ev_o_REGISTRAR hn_14a
  have F_o_REGISTRANT_letter := own_fldI ev_o_REGISTRANT hn_15a
  have F_o_ADMIN_letter := own_fldI ev_o_ADMIN hn_16a
  have F_o_TECH_letter := own_fldI ev_o_TECH hn_17a
  have F_o_SHORT_letter := own_fldI ev_o_SHORT hn_17b
  have F_o_EMPTY_value := own_fldN ev_o_EMPTY (Cond.before_iff.mp (hsets _ (List.mem_of_getElem? (i := 3) rfl)))
  obtain ⟨cl_o__VALUES, Ar_o__VALUES⟩ := Arr.start ev_o__VALUES hn_1a
  have V_o__VALUES : Arv s s.heap o__VALUES cl_o__VALUES.cls (.object "com/example/delehat/delehat/protocols/whois/WhoisQuery$Flag") (5 : Int32) [(.ref o_REGISTRAR), (.ref o_REGISTRANT), (.ref o_ADMIN), (.ref o_TECH), (.ref o_SHORT)] .null := own_arv hfit ev_o__VALUES Ar_o__VALUES hn_3a (by decide) (by first | rfl | (simp only [List.length]; decide)) ⟨own_elem ev_o__VALUES ev_o_REGISTRAR Ar_o__VALUES.1 hn_5a, own_elem ev_o__VALUES ev_o_REGISTRANT Ar_o__VALUES.1 hn_7a, own_elem ev_o__VALUES ev_o_ADMIN Ar_o__VALUES.1 hn_9a, own_elem ev_o__VALUES ev_o_TECH Ar_o__VALUES.1 hn_11a, own_elem ev_o__VALUES ev_o_SHORT Ar_o__VALUES.1 hn_13a, trivial⟩
  obtain ⟨kc_o__VALUES, hkc_o__VALUES⟩ : ∃ k, k = cl_o__VALUES.cls := ⟨_, rfl⟩
  rw [← hkc_o__VALUES] at V_o__VALUES
  obtain ⟨n, o, h1, h2, h3, _, L, rfl, ⟨rfl, N⟩, hq⟩ := rm0 l s _ hw tables_1 i0 i1 o__VALUES o_REGISTRAR o_REGISTRANT o_ADMIN o_TECH o_SHORT o_EMPTY kc_o__VALUES s.heap s.heap.size (Nat.le_refl _) S_o__VALUES E_o__VALUES S_o_REGISTRAR E_o_REGISTRAR S_o_REGISTRANT E_o_REGISTRANT S_o_ADMIN E_o_ADMIN S_o_TECH E_o_TECH S_o_SHORT E_o_SHORT S_o_EMPTY E_o_EMPTY F_o_REGISTRAR_letter F_o_REGISTRANT_letter F_o_ADMIN_letter F_o_TECH_letter F_o_SHORT_letter F_o_EMPTY_value V_o__VALUES p e ha hc hk s m _ below hf ((Spec.applies_iff_loose hf).mp happ).1 ⟨rfl, State.Warmed39.refl s, rfl⟩ trivial
  refine ⟨n, _, h1, h2, h3, hpost _ _ _ _ _ _ ⟨Cond.after_iff.mpr rfl, Cond.after_iff.mpr (eq_i res_at (Term.int_eval (1)) rfl), trivial⟩ ⟨hq.1, hq.2.1, (hq.2.2.sift fun y hy => Or.inr (N y hy)).mono (by decide) (by decide)⟩⟩
theorem main_1_1 : Claimed_1_1 := comes_1 fun _ _ _ _ _ _ h hF => ⟨h.1, hF⟩
theorem main_1_2 : Claimed_1_2 := comes_1 fun _ _ _ _ _ _ h hF => ⟨h.2.1, hF⟩
end Jvm.Pilot.@@N@@
namespace Jvm.Pilot.@@N@@
open Jvm Jvm.ClassFile Sem Op Lib Jvm.Free Jvm.Stand Jvm.Pilot.@@N@@.Jvm.D
/-! MADE BY PROGRAM (witnessworld.py) out of the Statement's table words and the real class files: 15 classes; the members and pool entries that the words name. The judged class is class 1, her method 2. -/
namespace start1
open Jvm.ClassFile
def u (s : String) : CpInfo := .utf8 (stringToUtf16 s)
/-- a pool by its gaps: so many unusable entries, then the entry; so many at the end -/
def gap : Nat → List CpInfo → List CpInfo
  | 0, r => r
  | n + 1, r => .unusable :: gap n r
def poolList (es : List (Nat × CpInfo)) (last : Nat) : List CpInfo := es.foldr (fun e r => gap e.1 (e.2 :: r)) (gap last [])
def pool (es : List (Nat × CpInfo)) (last : Nat) : Array CpInfo := ⟨poolList es last⟩
def fileOf (pool : Array CpInfo) (this : Nat) (attrs : Array Attribute := #[]) (ms : Array MethodInfo := #[]) (fl : Nat := 33) (sup : Nat := 0) (ifs : Array Nat := #[]) (fds : Array FieldInfo := #[]) : ClassFile where
  minorVersion := 0
  majorVersion := 65
  constantPool := pool
  accessFlags := fl
  thisClass := this
  superClass := sup
  interfaces := ifs
  fields := fds
  methods := ms
  attributes := attrs
def plain (name : String) (sup : Option ClassId) : Class where
  name := name
  kind := .ordinary
  loader := none
  accessFlags := 33
  super := sup
  interfaces := #[]
  cf := none
  fields := #[]
  methods := #[]
  instanceTypes := #[]
  staticTypes := #[]
  resolved := #[]
  callSites := []
  init := .initialized
  statics := none
  mirror := none

def pool0 : Array CpInfo := pool [(5, u "<init>"), (0, u "()V"), (1, .class_ 10), (1, u "java/lang/Object"), (85, u "clone"), (0, u "()Ljava/lang/Object;")] 26

def k0c0 : Code := { maxStack := 0, maxLocals := 1, code := object_method_1_code, exceptionTable := #[], attributes := #[] }
def k0m0 : Method := { name := "<init>", desc := "()V", sig := { parameters := [], returnType := none }, accessFlags := 1, code := some k0c0 }
def k0m1 : Method := { name := "clone", desc := "()Ljava/lang/Object;", sig := { parameters := [], returnType := some (.object "java/lang/Object") }, accessFlags := 260, code := none }
/-- java/lang/Object -/
def k0 : Class := { plain "java/lang/Object" none with
  accessFlags := 33
  interfaces := #[]
  cf := some (fileOf pool0 8 #[] #[{ accessFlags := 1, nameIndex := 5, descriptorIndex := 6, attributes := #[] }, { accessFlags := 260, nameIndex := 96, descriptorIndex := 97, attributes := #[] }] 33 0 #[] #[])
  fields := #[]
  methods := #[k0m0, k0m1]
  instanceTypes := #[]
  staticTypes := #[]
  resolved := Array.replicate 124 none
  statics := none }

def pool1 : Array CpInfo := pool [(2, .class_ 4), (1, u "java/lang/Object"), (0, u "<init>"), (0, u "()V"), (0, .fieldref 8 9), (0, .class_ 10), (0, .nameAndType 11 12), (0, u "com/example/delehat/delehat/protocols/whois/WhoisQuery$Flag"), (0, u "REGISTRAR"), (0, u "Lcom/example/delehat/delehat/protocols/whois/WhoisQuery$Flag;"), (0, .fieldref 8 14), (0, .nameAndType 15 12), (0, u "REGISTRANT"), (0, .fieldref 8 17), (0, .nameAndType 18 12), (0, u "ADMIN"), (0, .fieldref 8 20), (0, .nameAndType 21 12), (0, u "TECH"), (0, .fieldref 8 23), (0, .nameAndType 24 12), (0, u "SHORT"), (0, .integer 2147483647), (0, .methodref 8 27), (0, .nameAndType 28 29), (0, u "of"), (0, u "(C)Ljava/util/Optional;"), (0, .methodref 31 32), (0, .class_ 33), (0, .nameAndType 34 35), (0, u "java/util/Optional"), (0, u "isPresent"), (0, u "()Z"), (0, .methodref 31 37), (0, .nameAndType 38 39), (0, u "get"), (0, u "()Ljava/lang/Object;"), (0, .methodref 41 42), (0, .class_ 43), (0, .nameAndType 44 45), (0, u "com/example/delehat/delehat/protocols/whois/WhoisQueryOfPinLaw"), (0, u "expected"), (0, u "(C)Lcom/example/delehat/delehat/protocols/whois/WhoisQuery$Flag;"), (3, u "law"), (0, u "(II)Z")] 6

def k1m0 : Method := { name := "<init>", desc := "()V", sig := { parameters := [], returnType := none }, accessFlags := 2, code := none }
def k1c1 : Code := { maxStack := 2, maxLocals := 1, code := method_2_code, exceptionTable := #[], attributes := #[] }
def k1m1 : Method := { name := "expected", desc := "(C)Lcom/example/delehat/delehat/protocols/whois/WhoisQuery$Flag;", sig := { parameters := [.char], returnType := some (.object "com/example/delehat/delehat/protocols/whois/WhoisQuery$Flag") }, accessFlags := 10, code := some k1c1 }
def k1c2 : Code := { maxStack := 3, maxLocals := 5, code := code, exceptionTable := #[], attributes := #[] }
def k1m2 : Method := { name := "law", desc := "(II)Z", sig := { parameters := [.int, .int], returnType := some .boolean }, accessFlags := 9, code := some k1c2 }
/-- com/example/delehat/delehat/protocols/whois/WhoisQueryOfPinLaw -/
def k1 : Class := { plain "com/example/delehat/delehat/protocols/whois/WhoisQueryOfPinLaw" (some 0) with
  accessFlags := 49
  interfaces := #[]
  cf := some (fileOf pool1 41 #[] #[{ accessFlags := 2, nameIndex := 5, descriptorIndex := 6, attributes := #[] }, { accessFlags := 10, nameIndex := 44, descriptorIndex := 45, attributes := #[] }, { accessFlags := 9, nameIndex := 49, descriptorIndex := 50, attributes := #[] }] 49 2 #[] #[])
  fields := #[]
  methods := #[k1m0, k1m1, k1m2]
  instanceTypes := #[]
  staticTypes := #[]
  resolved := Array.replicate 57 none
  statics := none }

def pool2 : Array CpInfo := pool [(1, .class_ 2), (0, u "java/lang/constant/Constable"), (0, .class_ 4), (0, u "java/lang/Object")] 6

/-- java/lang/constant/Constable -/
def k2 : Class := { plain "java/lang/constant/Constable" (some 0) with
  accessFlags := 1537
  interfaces := #[]
  cf := some (fileOf pool2 1 #[] #[] 1537 3 #[] #[])
  fields := #[]
  methods := #[]
  instanceTypes := #[]
  staticTypes := #[]
  resolved := Array.replicate 11 none
  statics := none }

def pool3 : Array CpInfo := pool [(1, .class_ 2), (0, u "java/lang/Comparable"), (0, .class_ 4), (0, u "java/lang/Object")] 7

/-- java/lang/Comparable -/
def k3 : Class := { plain "java/lang/Comparable" (some 0) with
  accessFlags := 1537
  interfaces := #[]
  cf := some (fileOf pool3 1 #[] #[] 1537 3 #[] #[])
  fields := #[]
  methods := #[]
  instanceTypes := #[]
  staticTypes := #[]
  resolved := Array.replicate 12 none
  statics := none }

def pool4 : Array CpInfo := pool [(1, .class_ 2), (0, u "java/io/Serializable"), (0, .class_ 4), (0, u "java/lang/Object")] 2

/-- java/io/Serializable -/
def k4 : Class := { plain "java/io/Serializable" (some 0) with
  accessFlags := 1537
  interfaces := #[]
  cf := some (fileOf pool4 1 #[] #[] 1537 3 #[] #[])
  fields := #[]
  methods := #[]
  instanceTypes := #[]
  staticTypes := #[]
  resolved := Array.replicate 7 none
  statics := none }

def pool5 : Array CpInfo := pool [(2, .class_ 4), (1, u "java/lang/Enum"), (0, u "name"), (0, u "Ljava/lang/String;"), (2, u "ordinal"), (0, u "I"), (1, .class_ 14), (1, u "java/lang/Object"), (4, u "hash"), (86, .class_ 108), (1, u "java/lang/Enum$EnumDesc"), (2, .class_ 112), (0, u "java/lang/constant/Constable"), (0, .class_ 114), (0, u "java/lang/Comparable"), (0, .class_ 116), (0, u "java/io/Serializable")] 87

/-- java/lang/Enum -/
def k5 : Class := { plain "java/lang/Enum" (some 0) with
  accessFlags := 1057
  interfaces := #[2, 3, 4]
  cf := some (fileOf pool5 2 #[.nestMembers #[106]] #[] 1057 12 #[111, 113, 115] #[{ accessFlags := 18, nameIndex := 5, descriptorIndex := 6, attributes := #[] }, { accessFlags := 18, nameIndex := 9, descriptorIndex := 10, attributes := #[] }, { accessFlags := 2, nameIndex := 19, descriptorIndex := 10, attributes := #[] }])
  fields := #[{ name := "name", type := (.object "java/lang/String"), accessFlags := 18, slot := 0, constantValue := 0 }, { name := "ordinal", type := .int, accessFlags := 18, slot := 1, constantValue := 0 }, { name := "hash", type := .int, accessFlags := 2, slot := 2, constantValue := 0 }]
  methods := #[]
  instanceTypes := #[(.object "java/lang/String"), .int, .int]
  staticTypes := #[]
  resolved := Array.replicate 204 none
  statics := none }

def pool6 : Array CpInfo := pool [(1, .class_ 2), (0, u "com/example/delehat/delehat/protocols/whois/WhoisQuery$Flag"), (2, u "REGISTRAR"), (0, u "Lcom/example/delehat/delehat/protocols/whois/WhoisQuery$Flag;"), (2, u "REGISTRANT"), (2, u "ADMIN"), (2, u "TECH"), (2, u "SHORT"), (0, .fieldref 1 20), (0, .nameAndType 21 22), (0, u "$VALUES"), (0, u "[Lcom/example/delehat/delehat/protocols/whois/WhoisQuery$Flag;"), (0, .methodref 24 25), (0, .class_ 22), (0, .nameAndType 26 27), (0, u "clone"), (0, u "()Ljava/lang/Object;"), (1, .class_ 31), (1, u "java/lang/Enum"), (6, .fieldref 1 39), (0, .nameAndType 40 41), (0, u "letter"), (0, u "C"), (0, .methodref 1 43), (0, .nameAndType 44 45), (0, u "values"), (0, u "()[Lcom/example/delehat/delehat/protocols/whois/WhoisQuery$Flag;"), (0, .methodref 47 48), (0, .class_ 49), (0, .nameAndType 50 51), (0, u "java/util/Optional"), (0, u "of"), (0, u "(Ljava/lang/Object;)Ljava/util/Optional;"), (0, .methodref 47 53), (0, .nameAndType 54 55), (0, u "empty"), (0, u "()Ljava/util/Optional;"), (17, u "(C)Ljava/util/Optional;"), (8, .class_ 83), (0, u "com/example/delehat/delehat/protocols/whois/WhoisQuery")] 2

def k6c0 : Code := { maxStack := 1, maxLocals := 0, code := prog_93_method_1_code, exceptionTable := #[], attributes := #[] }
def k6m0 : Method := { name := "values", desc := "()[Lcom/example/delehat/delehat/protocols/whois/WhoisQuery$Flag;", sig := { parameters := [], returnType := some (.array (.object "com/example/delehat/delehat/protocols/whois/WhoisQuery$Flag")) }, accessFlags := 9, code := some k6c0 }
def k6c1 : Code := { maxStack := 2, maxLocals := 5, code := prog_93_method_4_code, exceptionTable := #[], attributes := #[] }
def k6m1 : Method := { name := "of", desc := "(C)Ljava/util/Optional;", sig := { parameters := [.char], returnType := some (.object "java/util/Optional") }, accessFlags := 8, code := some k6c1 }
/-- com/example/delehat/delehat/protocols/whois/WhoisQuery$Flag -/
def k6 : Class := { plain "com/example/delehat/delehat/protocols/whois/WhoisQuery$Flag" (some 5) with
  accessFlags := 16432
  interfaces := #[]
  cf := some (fileOf pool6 1 #[.nestHost 82] #[{ accessFlags := 9, nameIndex := 44, descriptorIndex := 45, attributes := #[] }, { accessFlags := 8, nameIndex := 50, descriptorIndex := 73, attributes := #[] }] 16432 29 #[] #[{ accessFlags := 16409, nameIndex := 5, descriptorIndex := 6, attributes := #[] }, { accessFlags := 16409, nameIndex := 9, descriptorIndex := 6, attributes := #[] }, { accessFlags := 16409, nameIndex := 12, descriptorIndex := 6, attributes := #[] }, { accessFlags := 16409, nameIndex := 15, descriptorIndex := 6, attributes := #[] }, { accessFlags := 16409, nameIndex := 18, descriptorIndex := 6, attributes := #[] }, { accessFlags := 18, nameIndex := 40, descriptorIndex := 41, attributes := #[] }, { accessFlags := 4122, nameIndex := 21, descriptorIndex := 22, attributes := #[] }])
  fields := #[{ name := "REGISTRAR", type := (.object "com/example/delehat/delehat/protocols/whois/WhoisQuery$Flag"), accessFlags := 16409, slot := 0, constantValue := 0 }, { name := "REGISTRANT", type := (.object "com/example/delehat/delehat/protocols/whois/WhoisQuery$Flag"), accessFlags := 16409, slot := 1, constantValue := 0 }, { name := "ADMIN", type := (.object "com/example/delehat/delehat/protocols/whois/WhoisQuery$Flag"), accessFlags := 16409, slot := 2, constantValue := 0 }, { name := "TECH", type := (.object "com/example/delehat/delehat/protocols/whois/WhoisQuery$Flag"), accessFlags := 16409, slot := 3, constantValue := 0 }, { name := "SHORT", type := (.object "com/example/delehat/delehat/protocols/whois/WhoisQuery$Flag"), accessFlags := 16409, slot := 4, constantValue := 0 }, { name := "letter", type := .char, accessFlags := 18, slot := 3, constantValue := 0 }, { name := "$VALUES", type := (.array (.object "com/example/delehat/delehat/protocols/whois/WhoisQuery$Flag")), accessFlags := 4122, slot := 5, constantValue := 0 }]
  methods := #[k6m0, k6m1]
  instanceTypes := #[(.object "java/lang/String"), .int, .int, .char]
  staticTypes := #[(.object "com/example/delehat/delehat/protocols/whois/WhoisQuery$Flag"), (.object "com/example/delehat/delehat/protocols/whois/WhoisQuery$Flag"), (.object "com/example/delehat/delehat/protocols/whois/WhoisQuery$Flag"), (.object "com/example/delehat/delehat/protocols/whois/WhoisQuery$Flag"), (.object "com/example/delehat/delehat/protocols/whois/WhoisQuery$Flag"), (.array (.object "com/example/delehat/delehat/protocols/whois/WhoisQuery$Flag"))]
  resolved := Array.replicate 86 none
  statics := some 0 }

def pool7 : Array CpInfo := pool [(1, .class_ 2), (0, u "java/lang/Cloneable"), (0, .class_ 4), (0, u "java/lang/Object")] 2

/-- java/lang/Cloneable -/
def k7 : Class := { plain "java/lang/Cloneable" (some 0) with
  accessFlags := 1537
  interfaces := #[]
  cf := some (fileOf pool7 1 #[] #[] 1537 3 #[] #[])
  fields := #[]
  methods := #[]
  instanceTypes := #[]
  staticTypes := #[]
  resolved := Array.replicate 7 none
  statics := none }

def pool8 : Array CpInfo := pool [(1, .fieldref 2 3), (0, .class_ 4), (0, .nameAndType 5 6), (0, u "java/util/Optional"), (0, u "EMPTY"), (0, u "Ljava/util/Optional;"), (0, .methodref 8 9), (0, .class_ 10), (0, .nameAndType 11 12), (0, u "java/lang/Object"), (0, u "<init>"), (0, u "()V"), (0, .fieldref 2 14), (0, .nameAndType 15 16), (0, u "value"), (0, u "Ljava/lang/Object;"), (0, .methodref 18 19), (0, .class_ 20), (0, .nameAndType 21 22), (0, u "java/util/Objects"), (0, u "requireNonNull"), (0, u "(Ljava/lang/Object;)Ljava/lang/Object;"), (0, .methodref 2 24), (0, .nameAndType 11 25), (0, u "(Ljava/lang/Object;)V"), (20, u "()Z"), (8, u "empty"), (0, u "()Ljava/util/Optional;"), (8, u "(Ljava/lang/Object;)Ljava/util/Optional;"), (2, u "isPresent"), (4, u "get"), (0, u "()Ljava/lang/Object;"), (7, u "of")] 104

def k8c0 : Code := { maxStack := 1, maxLocals := 1, code := jdk_32_method_1_code, exceptionTable := #[], attributes := #[] }
def k8m0 : Method := { name := "empty", desc := "()Ljava/util/Optional;", sig := { parameters := [], returnType := some (.object "java/util/Optional") }, accessFlags := 9, code := some k8c0 }
def k8c1 : Code := { maxStack := 2, maxLocals := 2, code := jdk_32_method_2_code, exceptionTable := #[], attributes := #[] }
def k8m1 : Method := { name := "<init>", desc := "(Ljava/lang/Object;)V", sig := { parameters := [(.object "java/lang/Object")], returnType := none }, accessFlags := 2, code := some k8c1 }
def k8c2 : Code := { maxStack := 3, maxLocals := 1, code := jdk_32_method_3_code, exceptionTable := #[], attributes := #[] }
def k8m2 : Method := { name := "of", desc := "(Ljava/lang/Object;)Ljava/util/Optional;", sig := { parameters := [(.object "java/lang/Object")], returnType := some (.object "java/util/Optional") }, accessFlags := 9, code := some k8c2 }
def k8c3 : Code := { maxStack := 3, maxLocals := 1, code := jdk_32_method_5_code, exceptionTable := #[], attributes := #[] }
def k8m3 : Method := { name := "get", desc := "()Ljava/lang/Object;", sig := { parameters := [], returnType := some (.object "java/lang/Object") }, accessFlags := 1, code := some k8c3 }
def k8c4 : Code := { maxStack := 1, maxLocals := 1, code := jdk_32_method_6_code, exceptionTable := #[], attributes := #[] }
def k8m4 : Method := { name := "isPresent", desc := "()Z", sig := { parameters := [], returnType := some .boolean }, accessFlags := 1, code := some k8c4 }
/-- java/util/Optional -/
def k8 : Class := { plain "java/util/Optional" (some 0) with
  accessFlags := 49
  interfaces := #[]
  cf := some (fileOf pool8 2 #[] #[{ accessFlags := 9, nameIndex := 55, descriptorIndex := 56, attributes := #[] }, { accessFlags := 2, nameIndex := 11, descriptorIndex := 25, attributes := #[] }, { accessFlags := 9, nameIndex := 82, descriptorIndex := 65, attributes := #[] }, { accessFlags := 1, nameIndex := 73, descriptorIndex := 74, attributes := #[] }, { accessFlags := 1, nameIndex := 68, descriptorIndex := 46, attributes := #[] }] 49 8 #[] #[{ accessFlags := 26, nameIndex := 5, descriptorIndex := 6, attributes := #[] }, { accessFlags := 18, nameIndex := 15, descriptorIndex := 16, attributes := #[] }])
  fields := #[{ name := "EMPTY", type := (.object "java/util/Optional"), accessFlags := 26, slot := 0, constantValue := 0 }, { name := "value", type := (.object "java/lang/Object"), accessFlags := 18, slot := 0, constantValue := 0 }]
  methods := #[k8m0, k8m1, k8m2, k8m3, k8m4]
  instanceTypes := #[(.object "java/lang/Object")]
  staticTypes := #[(.object "java/util/Optional")]
  resolved := Array.replicate 187 none
  statics := some 1 }

def pool9 : Array CpInfo := pool [(2, .class_ 4), (1, u "java/lang/Object"), (0, u "<init>"), (0, u "()V"), (35, .class_ 44), (1, u "java/util/Objects"), (0, u "requireNonNull"), (0, u "(Ljava/lang/Object;)Ljava/lang/Object;")] 137

def k9m0 : Method := { name := "<init>", desc := "()V", sig := { parameters := [], returnType := none }, accessFlags := 2, code := none }
def k9c1 : Code := { maxStack := 2, maxLocals := 1, code := jdk_31_method_10_code, exceptionTable := #[], attributes := #[] }
def k9m1 : Method := { name := "requireNonNull", desc := "(Ljava/lang/Object;)Ljava/lang/Object;", sig := { parameters := [(.object "java/lang/Object")], returnType := some (.object "java/lang/Object") }, accessFlags := 9, code := some k9c1 }
/-- java/util/Objects -/
def k9 : Class := { plain "java/util/Objects" (some 0) with
  accessFlags := 49
  interfaces := #[]
  cf := some (fileOf pool9 42 #[] #[{ accessFlags := 2, nameIndex := 5, descriptorIndex := 6, attributes := #[] }, { accessFlags := 9, nameIndex := 45, descriptorIndex := 46, attributes := #[] }] 49 2 #[] #[])
  fields := #[]
  methods := #[k9m0, k9m1]
  instanceTypes := #[]
  staticTypes := #[]
  resolved := Array.replicate 184 none
  statics := none }

/-- the primitive byte -/
def k10 : Class := { plain "byte" none with kind := .primitive 'B', accessFlags := 0x411 }
/-- [B -/
def k11 : Class := { plain "[B" (some 0) with kind := .array 10 .byte, interfaces := #[7, 4], accessFlags := 1041 }

/-- the primitive int -/
def k12 : Class := { plain "int" none with kind := .primitive 'I', accessFlags := 0x411 }
/-- [I -/
def k13 : Class := { plain "[I" (some 0) with kind := .array 12 .int, interfaces := #[7, 4], accessFlags := 1041 }

/-- [Lcom/example/delehat/delehat/protocols/whois/WhoisQuery$Flag; -/
def k14 : Class := { plain "[Lcom/example/delehat/delehat/protocols/whois/WhoisQuery$Flag;" (some 0) with kind := .array 6 (.object "com/example/delehat/delehat/protocols/whois/WhoisQuery$Flag"), interfaces := #[7, 4], accessFlags := 1041 }

def heap : Heap := #[{ cls := 6, slots := #[.ref 3, .ref 4, .ref 5, .ref 6, .ref 7, .ref 2], vm := .statics 6 },
  { cls := 8, slots := #[.ref 8], vm := .statics 8 },
  { cls := 14, slots := #[.ref 3, .ref 4, .ref 5, .ref 6, .ref 7], vm := .none },
  { cls := 6, slots := #[.null, .int 0, .int 0, .int 114], vm := .none },
  { cls := 6, slots := #[.null, .int 0, .int 0, .int 111], vm := .none },
  { cls := 6, slots := #[.null, .int 0, .int 0, .int 97], vm := .none },
  { cls := 6, slots := #[.null, .int 0, .int 0, .int 116], vm := .none },
  { cls := 6, slots := #[.null, .int 0, .int 0, .int 115], vm := .none },
  { cls := 8, slots := #[.null], vm := .none }]
def classes : Array Class := #[k0, k1, k2, k3, k4, k5, k6, k7, k8, k9, k10, k11, k12, k13, k14]
def interned : List (Array UInt16 × Addr) := []
def slotsUsed : Nat := 33
def theMethod : MethodId := ⟨1, 2⟩
def args0 : Array Value := #[.int 97, .int 0]
def aboutOver (below : List Frame) : State where
  vm := { classes := classes, interned := interned.toArray }
  heap := heap
  slotsUsed := slotsUsed
  threads := #[{ frames := .invoking theMethod args0 :: below }]
def below0 : List Frame := [.native { method := ⟨0, 0⟩, args := #[] }]
def about1 : State := aboutOver below0
def p0 : Program := .bare "" "" ""
def e0 : Env := launch0.env 0 0 0
theorem w_frames : about1.frames = Frame.invoking theMethod args0 :: below0 := rfl
set_option maxRecDepth 65536 in
theorem w_args : argsFit about1.vm theMethod args0 = true := by decide +kernel
set_option maxRecDepth 65536 in
theorem w_heap : heapFits about1 = true := by decide +kernel
set_option maxRecDepth 65536 in
theorem w_runnable : about1.curStatus? = some .runnable := by decide +kernel
set_option maxRecDepth 65536 in
theorem w_alone : about1.alone = true := by decide +kernel
set_option maxRecDepth 65536 in
theorem w_named : about1.methodNamed? x = some theMethod := by decide +kernel
set_option maxRecDepth 65536 in
theorem w_hears : about1.hears theMethod below0 = true := by decide +kernel
set_option maxRecDepth 65536 in
theorem w_ripe : about1.ripe theMethod args0 below0 = true := by decide +kernel
theorem w_running : about1.status = .running := rfl
set_option maxRecDepth 65536 in
theorem w_room : about1.hasRoom e0.platform room_1 = true :=
  launch0.hasRoom_least _ room_1 (by decide +kernel) (by decide +kernel) (by decide +kernel) (by decide +kernel) (by decide +kernel) (by decide +kernel)
theorem allAtoms_all (ts : List Jvm.Cond) (a : Array Jvm.Value) (st : Jvm.State) : (allAtoms ts).before a st = ts.all (fun c => c.before a st) := by
  induction ts with
  | nil => rfl
  | cons c t ih =>
    show (Jvm.Cond.and c (allAtoms t)).before a st = _
    rw [Jvm.Cond.before_and, ih, List.all_cons]
def words1 : List Jvm.Cond := Jvm.Cond.code x code maxLocals ret :: tables_1
/-- a 'code' word, met by the world's own term for the bytes: nothing is compared byte by byte -/
theorem code_word {y : MethodName} {bytes : ByteArray} {mx : Nat} {rt : Option FieldType} {a : Array Value} {s : State} {m : MethodId} {meth : Method} {c : Code} (h1 : s.methodNamed? y = some m) (h2 : s.vm.method? m = some meth) (h3 : meth.code = some c) (h4 : c.code = bytes)
    (h5 : (c.maxLocals == mx && c.exceptionTable.isEmpty && decide (c.maxStack ≤ mostOperands) && decide (meth.sig.returnType = rt) && !meth.locks && decide (parseMethodDescriptor y.desc = some meth.sig)) = true) : (Jvm.Cond.code y bytes mx rt).before a s = true := by
  simp only [Bool.and_eq_true, beq_iff_eq, Bool.not_eq_true', decide_eq_true_eq] at h5
  obtain ⟨⟨⟨⟨⟨g1, g2⟩, g3⟩, g4⟩, g5⟩, g6⟩ := h5
  simp [Cond.before, Cond.holds, Cond.value, h1, h2, h3, h4, g1, g2, g3, g4, g5, g6]
def isCode : Jvm.Cond → Bool
  | .code _ _ _ _ => true
  | _ => false
theorem all_split {L : List Jvm.Cond} {P : Jvm.Cond → Bool} (h1 : L.all (fun c => isCode c || P c) = true) (h2 : ∀ c ∈ L.filter isCode, P c = true) : L.all P = true := by
  refine List.all_eq_true.mpr fun c hc => ?_
  have h := List.all_eq_true.mp h1 c hc
  rcases Bool.eq_false_or_eq_true (isCode c) with hi | hi
  · exact h2 c (List.mem_filter.mpr ⟨hc, hi⟩)
  · simpa [hi] using h
set_option maxRecDepth 65536 in
theorem w_c0 : (Jvm.Cond.code x code maxLocals ret).before args0 about1 = true := code_word (m := ⟨1, 2⟩) (meth := k1m2) (c := k1c2) (by decide +kernel) rfl rfl rfl (by decide +kernel)
set_option maxRecDepth 65536 in
theorem w_c1 : (Jvm.Cond.code ({ cls := "com/example/delehat/delehat/protocols/whois/WhoisQuery$Flag", name := "of", desc := "(C)Ljava/util/Optional;" } : Jvm.MethodName) prog_93_method_4_code (5 : Nat) (Option.some (Jvm.ClassFile.FieldType.object "java/util/Optional"))).before args0 about1 = true := code_word (m := ⟨6, 1⟩) (meth := k6m1) (c := k6c1) (by decide +kernel) rfl rfl rfl (by decide +kernel)
set_option maxRecDepth 65536 in
theorem w_c2 : (Jvm.Cond.code ({ cls := "com/example/delehat/delehat/protocols/whois/WhoisQuery$Flag", name := "values", desc := "()[Lcom/example/delehat/delehat/protocols/whois/WhoisQuery$Flag;" } : Jvm.MethodName) prog_93_method_1_code (0 : Nat) (Option.some (Jvm.ClassFile.FieldType.array (Jvm.ClassFile.FieldType.object "com/example/delehat/delehat/protocols/whois/WhoisQuery$Flag")))).before args0 about1 = true := code_word (m := ⟨6, 0⟩) (meth := k6m0) (c := k6c0) (by decide +kernel) rfl rfl rfl (by decide +kernel)
set_option maxRecDepth 65536 in
theorem w_c3 : (Jvm.Cond.code ({ cls := "java/util/Optional", name := "of", desc := "(Ljava/lang/Object;)Ljava/util/Optional;" } : Jvm.MethodName) jdk_32_method_3_code (1 : Nat) (Option.some (Jvm.ClassFile.FieldType.object "java/util/Optional"))).before args0 about1 = true := code_word (m := ⟨8, 2⟩) (meth := k8m2) (c := k8c2) (by decide +kernel) rfl rfl rfl (by decide +kernel)
set_option maxRecDepth 65536 in
theorem w_c4 : (Jvm.Cond.code ({ cls := "java/util/Objects", name := "requireNonNull", desc := "(Ljava/lang/Object;)Ljava/lang/Object;" } : Jvm.MethodName) jdk_31_method_10_code (1 : Nat) (Option.some (Jvm.ClassFile.FieldType.object "java/lang/Object"))).before args0 about1 = true := code_word (m := ⟨9, 1⟩) (meth := k9m1) (c := k9c1) (by decide +kernel) rfl rfl rfl (by decide +kernel)
set_option maxRecDepth 65536 in
theorem w_c5 : (Jvm.Cond.code ({ cls := "java/util/Optional", name := "<init>", desc := "(Ljava/lang/Object;)V" } : Jvm.MethodName) jdk_32_method_2_code (2 : Nat) (Option.none : Option Jvm.ClassFile.FieldType)).before args0 about1 = true := code_word (m := ⟨8, 1⟩) (meth := k8m1) (c := k8c1) (by decide +kernel) rfl rfl rfl (by decide +kernel)
set_option maxRecDepth 65536 in
theorem w_c6 : (Jvm.Cond.code ({ cls := "java/lang/Object", name := "<init>", desc := "()V" } : Jvm.MethodName) object_method_1_code (1 : Nat) (Option.none : Option Jvm.ClassFile.FieldType)).before args0 about1 = true := code_word (m := ⟨0, 0⟩) (meth := k0m0) (c := k0c0) (by decide +kernel) rfl rfl rfl (by decide +kernel)
set_option maxRecDepth 65536 in
theorem w_c7 : (Jvm.Cond.code ({ cls := "java/util/Optional", name := "isPresent", desc := "()Z" } : Jvm.MethodName) jdk_32_method_6_code (1 : Nat) (Option.some Jvm.ClassFile.FieldType.boolean)).before args0 about1 = true := code_word (m := ⟨8, 4⟩) (meth := k8m4) (c := k8c4) (by decide +kernel) rfl rfl rfl (by decide +kernel)
set_option maxRecDepth 65536 in
theorem w_c8 : (Jvm.Cond.code ({ cls := "java/util/Optional", name := "get", desc := "()Ljava/lang/Object;" } : Jvm.MethodName) jdk_32_method_5_code (1 : Nat) (Option.some (Jvm.ClassFile.FieldType.object "java/lang/Object"))).before args0 about1 = true := code_word (m := ⟨8, 3⟩) (meth := k8m3) (c := k8c3) (by decide +kernel) rfl rfl rfl (by decide +kernel)
set_option maxRecDepth 65536 in
theorem w_c9 : (Jvm.Cond.code ({ cls := "com/example/delehat/delehat/protocols/whois/WhoisQueryOfPinLaw", name := "expected", desc := "(C)Lcom/example/delehat/delehat/protocols/whois/WhoisQuery$Flag;" } : Jvm.MethodName) method_2_code (1 : Nat) (Option.some (Jvm.ClassFile.FieldType.object "com/example/delehat/delehat/protocols/whois/WhoisQuery$Flag"))).before args0 about1 = true := code_word (m := ⟨1, 1⟩) (meth := k1m1) (c := k1c1) (by decide +kernel) rfl rfl rfl (by decide +kernel)
set_option maxRecDepth 65536 in
theorem w_c10 : (Jvm.Cond.code ({ cls := "java/util/Optional", name := "empty", desc := "()Ljava/util/Optional;" } : Jvm.MethodName) jdk_32_method_1_code (1 : Nat) (Option.some (Jvm.ClassFile.FieldType.object "java/util/Optional"))).before args0 about1 = true := code_word (m := ⟨8, 0⟩) (meth := k8m0) (c := k8c0) (by decide +kernel) rfl rfl rfl (by decide +kernel)
def codes1 : List Jvm.Cond := [Jvm.Cond.code x code maxLocals ret, Jvm.Cond.code ({ cls := "com/example/delehat/delehat/protocols/whois/WhoisQuery$Flag", name := "of", desc := "(C)Ljava/util/Optional;" } : Jvm.MethodName) prog_93_method_4_code (5 : Nat) (Option.some (Jvm.ClassFile.FieldType.object "java/util/Optional")), Jvm.Cond.code ({ cls := "com/example/delehat/delehat/protocols/whois/WhoisQuery$Flag", name := "values", desc := "()[Lcom/example/delehat/delehat/protocols/whois/WhoisQuery$Flag;" } : Jvm.MethodName) prog_93_method_1_code (0 : Nat) (Option.some (Jvm.ClassFile.FieldType.array (Jvm.ClassFile.FieldType.object "com/example/delehat/delehat/protocols/whois/WhoisQuery$Flag"))), Jvm.Cond.code ({ cls := "java/util/Optional", name := "of", desc := "(Ljava/lang/Object;)Ljava/util/Optional;" } : Jvm.MethodName) jdk_32_method_3_code (1 : Nat) (Option.some (Jvm.ClassFile.FieldType.object "java/util/Optional")), Jvm.Cond.code ({ cls := "java/util/Objects", name := "requireNonNull", desc := "(Ljava/lang/Object;)Ljava/lang/Object;" } : Jvm.MethodName) jdk_31_method_10_code (1 : Nat) (Option.some (Jvm.ClassFile.FieldType.object "java/lang/Object")), Jvm.Cond.code ({ cls := "java/util/Optional", name := "<init>", desc := "(Ljava/lang/Object;)V" } : Jvm.MethodName) jdk_32_method_2_code (2 : Nat) (Option.none : Option Jvm.ClassFile.FieldType), Jvm.Cond.code ({ cls := "java/lang/Object", name := "<init>", desc := "()V" } : Jvm.MethodName) object_method_1_code (1 : Nat) (Option.none : Option Jvm.ClassFile.FieldType), Jvm.Cond.code ({ cls := "java/util/Optional", name := "isPresent", desc := "()Z" } : Jvm.MethodName) jdk_32_method_6_code (1 : Nat) (Option.some Jvm.ClassFile.FieldType.boolean), Jvm.Cond.code ({ cls := "java/util/Optional", name := "get", desc := "()Ljava/lang/Object;" } : Jvm.MethodName) jdk_32_method_5_code (1 : Nat) (Option.some (Jvm.ClassFile.FieldType.object "java/lang/Object")), Jvm.Cond.code ({ cls := "com/example/delehat/delehat/protocols/whois/WhoisQueryOfPinLaw", name := "expected", desc := "(C)Lcom/example/delehat/delehat/protocols/whois/WhoisQuery$Flag;" } : Jvm.MethodName) method_2_code (1 : Nat) (Option.some (Jvm.ClassFile.FieldType.object "com/example/delehat/delehat/protocols/whois/WhoisQuery$Flag")), Jvm.Cond.code ({ cls := "java/util/Optional", name := "empty", desc := "()Ljava/util/Optional;" } : Jvm.MethodName) jdk_32_method_1_code (1 : Nat) (Option.some (Jvm.ClassFile.FieldType.object "java/util/Optional"))]
set_option maxRecDepth 65536 in
theorem codes_eq : words1.filter isCode = codes1 := rfl
theorem w_codes : ∀ c ∈ words1.filter isCode, c.before args0 about1 = true := by
  rw [codes_eq]
  intro c hc
  simp only [codes1, List.mem_cons, List.not_mem_nil, or_false] at hc
  rcases hc with rfl | rfl | rfl | rfl | rfl | rfl | rfl | rfl | rfl | rfl | rfl
  · exact w_c0
  · exact w_c1
  · exact w_c2
  · exact w_c3
  · exact w_c4
  · exact w_c5
  · exact w_c6
  · exact w_c7
  · exact w_c8
  · exact w_c9
  · exact w_c10
set_option maxRecDepth 65536 in
theorem w_t1 : (words1.take 24).all (fun c => isCode c || c.before args0 about1) = true := by decide +kernel
set_option maxRecDepth 65536 in
theorem w_t2 : ((words1.drop 24).take 24).all (fun c => isCode c || c.before args0 about1) = true := by decide +kernel
set_option maxRecDepth 65536 in
theorem w_t3 : ((words1.drop 24).drop 24).all (fun c => isCode c || c.before args0 about1) = true := by decide +kernel
theorem w_tables : (allAtoms (Jvm.Cond.code x code maxLocals ret :: tables_1)).before args0 about1 = true := by
  rw [allAtoms_all]
  show words1.all (fun c => c.before args0 about1) = true
  refine all_split ?_ w_codes
  rw [← List.take_append_drop 24 words1, List.all_append, w_t1, ← List.take_append_drop 24 (words1.drop 24), List.all_append, w_t2, w_t3]
  rfl
set_option maxRecDepth 65536 in
theorem w_rest : rest_1_c.before args0 about1 = true := by decide +kernel
set_option maxRecDepth 65536 in
theorem w_case : (Jvm.Cond.and given_1 narrow_1).before args0 about1 = true := by decide +kernel
theorem w_applies : (headSpec (Jvm.Cond.code x code maxLocals ret :: tables_1) room_1).applies x e0.platform about1 = true :=
  (Spec.applies_iff w_frames).mpr ⟨w_running, w_runnable, w_alone, w_named, w_hears, w_ripe, w_room, w_tables⟩
theorem atStart : AtStart classFile x code maxLocals ret World_1 tables_1 room_1 Calls_1 rest_1 Pre_1 launch0 p0 e0 about1 theMethod args0 below0 :=
  ⟨lists_1, trivial, launch0.admits_env _ _ _, launch0.least_env, fairChoices_fair.cas, fairChoices_fair.clock, w_frames, w_args, w_heap, w_applies, trivial, w_rest, w_case⟩
end start1
theorem witness_1 : WitnessClaimed_1 := ⟨start1.p0, start1.e0, start1.about1, start1.theMethod, start1.args0, start1.below0, start1.atStart⟩
end Jvm.Pilot.@@N@@
