import JvmDerived
import JvmDerived.Pilot.@@N@@Statement
import JvmDerived.Pilot.@@N@@Code
set_option linter.unusedVariables false
set_option linter.unusedSimpArgs false
namespace Jvm.RoadKit
open Sem ClassFile Op Lib Jvm.Stand Jvm.Free Jvm.LawKit
section New
variable {p : Program} {l : Launch} {e : Env} {R : Room} {s : State} {m : MethodId} {args : Array Value} {below : List Frame} {meth : Method} {c : Code} {T : State} {locs : List Loc} {cells slots : Nat}
theorem retI (X : Stand p l e R s m args below meth c T locs cells slots) (hx : p.tables.exec = Jvm.exec) {pc : Nat} {Ls : Array Slot} {z : Int32} {rest : List Value} (hret : meth.sig.returnType = some .int) (hd : decode c.code pc = .ok (.ireturn, 1)) {fs : List Frame}
    (hl : ∀ (f : JFrame) (acts : List Action), f.method = m → f.locked = none → f.entered = [] → (doReturn e (T.setTop f) acts (some (.int z))).1 = T.setFrames fs) : Steps p.tables e below (T.setTop (mkF m pc Ls (.int z :: rest))) (T.setFrames fs) :=
  retOut X hx hret rfl (Or.inl ⟨rfl, Or.inl rfl, z, rfl⟩) hd hl
end New
section Carry
variable {Z : State} {h h' : Heap} {C n d : String} {v : Value}
theorem own_ns0 : ∀ x ∈ ([] : List Addr), ∀ c : Cell, h[x]? = some c → c.vm.isStatics = false := fun _ q => nomatch q
theorem own_nsS {a : Addr} {K : String} {L : List Addr} (F : Exa Z h a K) (r : ∀ x ∈ L, ∀ c : Cell, h[x]? = some c → c.vm.isStatics = false) : ∀ x ∈ a :: L, ∀ c : Cell, h[x]? = some c → c.vm.isStatics = false := fun x z c hc => by
  rcases List.mem_cons.mp z with rfl | z
  · obtain ⟨c1, _, h1, -, -, h4, -⟩ := F
    cases h1.symm.trans hc; exact h4
  · exact r x z c hc
theorem own_sta_keep {ws : List Addr} (F : Sta Z h C n d v) (K : Keep h h' ws) (q : ∀ x ∈ ws, ∀ c : Cell, h[x]? = some c → c.vm.isStatics = false) : Sta Z h' C n d v := by
  obtain ⟨cf, i, k, f, st, cell, h1, h2, h3, h4, h5, h6, h7⟩ := F
  exact ⟨cf, i, k, f, st, cell, h1, h2, h3, h4, K.2.1 st cell h5 (fun z => by rw [q st z cell h5] at h6; cases h6), h6, h7⟩
theorem own_fitc {a : Addr} {cl : Cell} {ty : FieldType} {vs : List Value} {d : Value} (A : Arr Z h a cl ty) (H : Has cl vs d) (G : ∀ i, i < cl.slots.size → fits ty (vs.getD i d) = true) : FitC Z cl :=
  fitC_of A fun i hi v hv => by rw [H i hi] at hv; cases hv; exact G i hi
theorem own_evI {args : Array Value} {s : State} {t : Term} {k : Int32} (hh : (Cond.eq t (.int k)).value args s none s [] = some true) : t.eval args s none [] s = some (.int k) := by
  cases hf : t.eval args s none [] s with
  | none => simp [Cond.value, hf] at hh
  | some w => cases w <;> simp [Cond.value, hf, Term.eval] at hh ⊢; exact hh
theorem own_evJ {args : Array Value} {s : State} {t : Term} {k : Int64} (hh : (Cond.eq t (.long k)).value args s none s [] = some true) : t.eval args s none [] s = some (.long k) := by
  cases hf : t.eval args s none [] s with
  | none => simp [Cond.value, hf] at hh
  | some w => cases w <;> simp [Cond.value, hf, Term.eval] at hh ⊢; exact hh
theorem own_evR {args : Array Value} {s : State} {t u : Term} {y : Addr} (hu : u.eval args s none [] s = some (.ref y)) (hh : (Cond.eq t u).value args s none s [] = some true) : t.eval args s none [] s = some (.ref y) := by
  cases hf : t.eval args s none [] s with
  | none => simp [Cond.value, hf] at hh
  | some w => cases w <;> simp [Cond.value, hf, hu] at hh ⊢; exact hh
theorem own_elem {args : Array Value} {s : State} {t u : Term} {x y : Addr} {k : Int32} {cl : Cell} (ht : t.eval args s none [] s = some (.ref x)) (hu : u.eval args s none [] s = some (.ref y)) (hc : s.heap[x]? = some cl) (hh : (Cond.eq (.elem t (.int k)) u).value args s none s [] = some true) : cl.slots[k.toNatClampNeg]? = some (.ref y) :=
  (elem_in (own_evR hu hh) ht rfl hc).2
theorem own_arv {args : Array Value} {s : State} {t : Term} {a : Addr} {c : Cell} {ty : FieldType} {z : Int32} {vs : List Value} {dv : Value} (hf : Fit s) (ev : t.eval args s none [] s = some (.ref a)) (A : Arr s s.heap a c ty) (hl : (Cond.eq (.length t) (.int z)).value args s none s [] = some true) (hz : ¬ z < 0) (hn : z.toNatClampNeg = vs.length) (H : HasL c 0 vs) : Arv s s.heap a c.cls ty z vs dv := by
  have e1 := own_evI hl
  have e2 : s.arrayAt? a = some c := A.fin (Vm.Alike.refl _)
  have q : c.slots.size < 2 ^ 31 := by
    apply Decidable.byContradiction
    intro hq
    simp [Term.eval, ev, e2, hq] at e1
  have e3 := len_f ev e2 q
  exact Arv.start hf A q (Value.int.inj (Option.some.inj (e3.symm.trans e1))) hz hn H
theorem own_lam {s : State} {a0 : Array Value} {y : MethodName} {m : MethodId} {pc index : Nat} {σ : Lambda.Shape} (hZ : Z.Warmed39 s.vm) (w : (Cond.lambdaSite y pc index σ).before a0 Z = true) (hcap : σ.captured = []) (hn : s.methodNamed? y = some m) :
    ∃ (k : Class) (i0 p0 : Nat) (a : Addr), s.vm.classes[m.cls]? = some k ∧ (k.callSites.find? fun z => z.1 == m.idx && z.2.1 == pc) = some (i0, p0, .constant a) := by
  obtain ⟨c, one, hat⟩ := Cond.lambdaSite_spec w
  obtain ⟨m', kS, cfS, i0, p0, lk, hm', hkS, -, -, -, hfind, -, -, hlk⟩ := State.lambdaAt?_spec hat
  have e1 : s.methodNamed? y = Z.methodNamed? y := State.methodNamed?_setVm (s := Z) hZ.alike y
  rw [e1, hm'] at hn
  cases hn
  obtain ⟨k', hk', he⟩ := hZ.alike.2.2 _ _ hkS
  rcases hlk with ⟨a, cell, rfl, -⟩ | ⟨-, -, h⟩
  · exact ⟨k', i0, p0, a, hk', by rw [he]; exact hfind⟩
  · exact absurd hcap h
theorem own_cmp_self (x : Int64) : lcmpW x x = 0 := (lcW x x).trans ((lc_eq x x).mpr rfl)
theorem own_cmp_lt (x : Int64) : ¬ (lcmpW x x < (0 : Int32)) := by rw [own_cmp_self]; decide
theorem own_cmp_gt (x : Int64) : ¬ ((0 : Int32) < lcmpW x x) := by rw [own_cmp_self]; decide
theorem own_sel_priv {s : State} {args args' : Array Value} {K : String} {y z z' : MethodName} (w : (Cond.selects K z' z).before args s = true) (hz : z.cls = y.cls) (hpriv : s.PrivateAt y) (hinst : (Cond.instanceMethod y).before args' s = true) (hy : y.cls ≠ "java/lang/invoke/MethodHandle" ∧ y.cls ≠ "java/lang/invoke/VarHandle") : (Cond.selects y.cls y y).before args' s = true := by
  obtain ⟨c2, r2, m2, q1, q2, q3, q4, kP, hkP, hkPi⟩ := Cond.selects_spec w
  have hc : s.vm.findClass z.cls = some m2.cls := findClass_of_methodNamed q3
  rw [hz] at hc
  exact selects_self_of_private hc hkP hkPi hpriv hinst hy
theorem own_lt_ne {a b : Int32} (q : a < b) : ¬ (a = b) := by intro z; subst z; exact Int32.lt_irrefl q
theorem own_gt_ne {a b : Int32} (q : b < a) : ¬ (a = b) := by intro z; subst z; exact Int32.lt_irrefl q
theorem own_eq_nlt {a b : Int32} (q : a = b) : ¬ (a < b) := by subst q; exact Int32.lt_irrefl
theorem own_nlt {a b : Int32} (q : b < a) : ¬ (a < b) := fun z => Int32.lt_irrefl (Int32.lt_trans z q)
theorem own_tri2 {a b : Int32} (q : ¬ (a = b)) (r : ¬ (b < a)) : a < b := by
  rw [← Int32.toInt_inj] at q; rw [Int32.lt_iff_toInt_lt] at r ⊢; omega
theorem own_fldI {args : Array Value} {s : State} {t : Term} {x : Addr} {C n d : String} {k : Int32} (ht : t.eval args s none [] s = some (.ref x)) (hh : (Cond.eq (.field t C n d) (.int k)).value args s none s [] = some true) : Fld s s.heap x C n d (.int k) :=
  Fld.start ((fld_at ht).symm.trans (own_evI hh))
theorem own_fldJ {args : Array Value} {s : State} {t : Term} {x : Addr} {C n d : String} {k : Int64} (ht : t.eval args s none [] s = some (.ref x)) (hh : (Cond.eq (.field t C n d) (.long k)).value args s none s [] = some true) : Fld s s.heap x C n d (.long k) :=
  Fld.start ((fld_at ht).symm.trans (own_evJ hh))
theorem own_fldN {args : Array Value} {s : State} {t : Term} {x : Addr} {C n d : String} (ht : t.eval args s none [] s = some (.ref x)) (hh : (Cond.eq (.field t C n d) .null).value args s none s [] = some true) : Fld s s.heap x C n d .null := by
  refine Fld.start ?_
  have e1 : (Term.field t C n d).eval args s none [] s = s.fieldOf? x C n d := fld_at ht
  rw [← e1]; exact null_v hh
theorem own_fldR {args : Array Value} {s : State} {t u : Term} {x y : Addr} {C n d : String} (ht : t.eval args s none [] s = some (.ref x)) (hu : u.eval args s none [] s = some (.ref y)) (hh : (Cond.eq (.field t C n d) u).value args s none s [] = some true) : Fld s s.heap x C n d (.ref y) :=
  Fld.start ((fld_at ht).symm.trans (own_evR hu hh))
end Carry
end Jvm.RoadKit
namespace Jvm.Pilot.@@N@@
open Jvm Jvm.ClassFile Sem Op Lib Jvm.Free Jvm.Stand Jvm.LawKit Jvm.RoadKit Bundle Jvm.Pilot.@@N@@.Jvm.D
theorem own_bit (x : Int32) : (x &&& (1 : Int32)) = (0 : Int32) ∨ (x &&& (1 : Int32)) = (1 : Int32) := by
  have e1 := c_mask x (1 : Int32) 1 (by decide) (by decide)
  simp only [← Int32.toInt_inj]
  have l0 : (0 : Int32).toInt = 0 := by decide
  have l1 : (1 : Int32).toInt = 1 := by decide
  rw [l0, l1]
  omega
theorem own_w8 {Z : State} {a0 : Array Value} (hw : ∀ d ∈ tables_1, d.before a0 Z = true) : (Jvm.Cond.laysStatic "com/example/referent/referent/RelativeResult$Kind" "INDEX" "Lcom/example/referent/referent/RelativeResult$Kind;").before a0 Z = true := hw _ (List.mem_of_getElem? (i := 8) rfl)
theorem own_w7 {Z : State} {a0 : Array Value} (hw : ∀ d ∈ tables_1, d.before a0 Z = true) : (Jvm.Cond.initialized "com/example/referent/referent/RelativeResult$Kind").before a0 Z = true := hw _ (List.mem_of_getElem? (i := 7) rfl)
theorem own_w0 {Z : State} {a0 : Array Value} (hw : ∀ d ∈ tables_1, d.before a0 Z = true) : (Jvm.Cond.methodLink "com/example/referent/referent/RelativeResultOfIndexPinLaw" (7 : Nat) ({ cls := "com/example/referent/referent/RelativeResult", name := "ofIndex", desc := "(I)Lcom/example/referent/referent/RelativeResult;" } : Jvm.MethodName)).before a0 Z = true := hw _ (List.mem_of_getElem? (i := 0) rfl)
theorem d1_0 : decode prog_19_method_4_code 0 = .ok (.new 8, 3) := by decide +kernel
theorem own_w4 {Z : State} {a0 : Array Value} (hw : ∀ d ∈ tables_1, d.before a0 Z = true) : (Jvm.Cond.classLink "com/example/referent/referent/RelativeResult" (8 : Nat) "com/example/referent/referent/RelativeResult").before a0 Z = true := hw _ (List.mem_of_getElem? (i := 4) rfl)
theorem own_w5 {Z : State} {a0 : Array Value} (hw : ∀ d ∈ tables_1, d.before a0 Z = true) : (Jvm.Cond.instantiable "com/example/referent/referent/RelativeResult" (4 : Nat)).before a0 Z = true := hw _ (List.mem_of_getElem? (i := 5) rfl)
theorem own_w2 {Z : State} {a0 : Array Value} (hw : ∀ d ∈ tables_1, d.before a0 Z = true) : (Jvm.Cond.initialized "com/example/referent/referent/RelativeResult").before a0 Z = true := hw _ (List.mem_of_getElem? (i := 2) rfl)
theorem own_w16 {Z : State} {a0 : Array Value} (hw : ∀ d ∈ tables_1, d.before a0 Z = true) : (Jvm.Cond.laysFinal "com/example/referent/referent/RelativeResult" "com/example/referent/referent/RelativeResult" "kind" "Lcom/example/referent/referent/RelativeResult$Kind;").before a0 Z = true := hw _ (List.mem_of_getElem? (i := 16) rfl)
theorem own_w18 {Z : State} {a0 : Array Value} (hw : ∀ d ∈ tables_1, d.before a0 Z = true) : (Jvm.Cond.laysFinal "com/example/referent/referent/RelativeResult" "com/example/referent/referent/RelativeResult" "node" "Ljava/lang/Object;").before a0 Z = true := hw _ (List.mem_of_getElem? (i := 18) rfl)
theorem own_w20 {Z : State} {a0 : Array Value} (hw : ∀ d ∈ tables_1, d.before a0 Z = true) : (Jvm.Cond.laysFinal "com/example/referent/referent/RelativeResult" "com/example/referent/referent/RelativeResult" "name" "Ljava/lang/String;").before a0 Z = true := hw _ (List.mem_of_getElem? (i := 20) rfl)
theorem own_w22 {Z : State} {a0 : Array Value} (hw : ∀ d ∈ tables_1, d.before a0 Z = true) : (Jvm.Cond.laysFinal "com/example/referent/referent/RelativeResult" "com/example/referent/referent/RelativeResult" "index" "I").before a0 Z = true := hw _ (List.mem_of_getElem? (i := 22) rfl)
theorem d1_3 : decode prog_19_method_4_code 3 = .ok (.dup, 1) := by decide +kernel
theorem d1_4 : decode prog_19_method_4_code 4 = .ok (.getstatic 38, 3) := by decide +kernel
theorem own_w6 {Z : State} {a0 : Array Value} (hw : ∀ d ∈ tables_1, d.before a0 Z = true) : (Jvm.Cond.fieldLink "com/example/referent/referent/RelativeResult" (38 : Nat) "com/example/referent/referent/RelativeResult$Kind" "INDEX" "Lcom/example/referent/referent/RelativeResult$Kind;").before a0 Z = true := hw _ (List.mem_of_getElem? (i := 6) rfl)
theorem d1_7 : decode prog_19_method_4_code 7 = .ok (.aconst_null, 1) := by decide +kernel
theorem d1_8 : decode prog_19_method_4_code 8 = .ok (.aconst_null, 1) := by decide +kernel
theorem d1_9 : decode prog_19_method_4_code 9 = .ok (.iload_n 0, 1) := by decide +kernel
theorem d1_10 : decode prog_19_method_4_code 10 = .ok (.invokespecial 32, 3) := by decide +kernel
theorem own_w9 {Z : State} {a0 : Array Value} (hw : ∀ d ∈ tables_1, d.before a0 Z = true) : (Jvm.Cond.methodLink "com/example/referent/referent/RelativeResult" (32 : Nat) ({ cls := "com/example/referent/referent/RelativeResult", name := "<init>", desc := "(Lcom/example/referent/referent/RelativeResult$Kind;Ljava/lang/Object;Ljava/lang/String;I)V" } : Jvm.MethodName)).before a0 Z = true := hw _ (List.mem_of_getElem? (i := 9) rfl)
theorem d2_0 : decode prog_19_method_1_code 0 = .ok (.aload_n 0, 1) := by decide +kernel
theorem d2_1 : decode prog_19_method_1_code 1 = .ok (.invokespecial 1, 3) := by decide +kernel
theorem own_w12 {Z : State} {a0 : Array Value} (hw : ∀ d ∈ tables_1, d.before a0 Z = true) : (Jvm.Cond.methodLink "com/example/referent/referent/RelativeResult" (1 : Nat) ({ cls := "java/lang/Object", name := "<init>", desc := "()V" } : Jvm.MethodName)).before a0 Z = true := hw _ (List.mem_of_getElem? (i := 12) rfl)
theorem own_w13 {Z : State} {a0 : Array Value} (hw : ∀ d ∈ tables_1, d.before a0 Z = true) : (Jvm.Cond.instanceMethod ({ cls := "java/lang/Object", name := "<init>", desc := "()V" } : Jvm.MethodName)).before a0 Z = true := hw _ (List.mem_of_getElem? (i := 13) rfl)
theorem own_w14 {Z : State} {a0 : Array Value} (hw : ∀ d ∈ tables_1, d.before a0 Z = true) : (Jvm.Cond.code ({ cls := "java/lang/Object", name := "<init>", desc := "()V" } : Jvm.MethodName) object_method_1_code (1 : Nat) (Option.none : Option Jvm.ClassFile.FieldType)).before a0 Z = true := hw _ (List.mem_of_getElem? (i := 14) rfl)
theorem d2_4 : decode prog_19_method_1_code 4 = .ok (.aload_n 0, 1) := by decide +kernel
theorem d2_5 : decode prog_19_method_1_code 5 = .ok (.aload_n 1, 1) := by decide +kernel
theorem d2_6 : decode prog_19_method_1_code 6 = .ok (.putfield 7, 3) := by decide +kernel
theorem own_w15 {Z : State} {a0 : Array Value} (hw : ∀ d ∈ tables_1, d.before a0 Z = true) : (Jvm.Cond.fieldLink "com/example/referent/referent/RelativeResult" (7 : Nat) "com/example/referent/referent/RelativeResult" "kind" "Lcom/example/referent/referent/RelativeResult$Kind;").before a0 Z = true := hw _ (List.mem_of_getElem? (i := 15) rfl)
theorem d2_9 : decode prog_19_method_1_code 9 = .ok (.aload_n 0, 1) := by decide +kernel
theorem d2_10 : decode prog_19_method_1_code 10 = .ok (.aload_n 2, 1) := by decide +kernel
theorem d2_11 : decode prog_19_method_1_code 11 = .ok (.putfield 13, 3) := by decide +kernel
theorem own_w17 {Z : State} {a0 : Array Value} (hw : ∀ d ∈ tables_1, d.before a0 Z = true) : (Jvm.Cond.fieldLink "com/example/referent/referent/RelativeResult" (13 : Nat) "com/example/referent/referent/RelativeResult" "node" "Ljava/lang/Object;").before a0 Z = true := hw _ (List.mem_of_getElem? (i := 17) rfl)
theorem d2_14 : decode prog_19_method_1_code 14 = .ok (.aload_n 0, 1) := by decide +kernel
theorem d2_15 : decode prog_19_method_1_code 15 = .ok (.aload_n 3, 1) := by decide +kernel
theorem d2_16 : decode prog_19_method_1_code 16 = .ok (.putfield 17, 3) := by decide +kernel
theorem own_w19 {Z : State} {a0 : Array Value} (hw : ∀ d ∈ tables_1, d.before a0 Z = true) : (Jvm.Cond.fieldLink "com/example/referent/referent/RelativeResult" (17 : Nat) "com/example/referent/referent/RelativeResult" "name" "Ljava/lang/String;").before a0 Z = true := hw _ (List.mem_of_getElem? (i := 19) rfl)
theorem d2_19 : decode prog_19_method_1_code 19 = .ok (.aload_n 0, 1) := by decide +kernel
theorem d2_20 : decode prog_19_method_1_code 20 = .ok (.iload 4, 2) := by decide +kernel
theorem d2_22 : decode prog_19_method_1_code 22 = .ok (.putfield 21, 3) := by decide +kernel
theorem own_w21 {Z : State} {a0 : Array Value} (hw : ∀ d ∈ tables_1, d.before a0 Z = true) : (Jvm.Cond.fieldLink "com/example/referent/referent/RelativeResult" (21 : Nat) "com/example/referent/referent/RelativeResult" "index" "I").before a0 Z = true := hw _ (List.mem_of_getElem? (i := 21) rfl)
theorem d2_25 : decode prog_19_method_1_code 25 = .ok (.return_, 1) := by decide +kernel
theorem pn_com_example_referent_referent_RelativeResult : plainName "com/example/referent/referent/RelativeResult" = true := by first | (simp [plainName, overriddenIn]; done) | decide +kernel
theorem own_w11 {Z : State} {a0 : Array Value} (hw : ∀ d ∈ tables_1, d.before a0 Z = true) : (Jvm.Cond.code ({ cls := "com/example/referent/referent/RelativeResult", name := "<init>", desc := "(Lcom/example/referent/referent/RelativeResult$Kind;Ljava/lang/Object;Ljava/lang/String;I)V" } : Jvm.MethodName) prog_19_method_1_code (5 : Nat) (Option.none : Option Jvm.ClassFile.FieldType)).before a0 Z = true := hw _ (List.mem_of_getElem? (i := 11) rfl)
theorem pd__Lcom_example_referent_referent_RelativeResult_Kind_Ljava_lang_Object_Ljava_lang_String_I_V : parseMethodDescriptor "(Lcom/example/referent/referent/RelativeResult$Kind;Ljava/lang/Object;Ljava/lang/String;I)V" = some ⟨[(.object "com/example/referent/referent/RelativeResult$Kind"), (.object "java/lang/Object"), (.object "java/lang/String"), .int], none⟩ := by decide +kernel
theorem own_w10 {Z : State} {a0 : Array Value} (hw : ∀ d ∈ tables_1, d.before a0 Z = true) : (Jvm.Cond.instanceMethod ({ cls := "com/example/referent/referent/RelativeResult", name := "<init>", desc := "(Lcom/example/referent/referent/RelativeResult$Kind;Ljava/lang/Object;Ljava/lang/String;I)V" } : Jvm.MethodName)).before a0 Z = true := hw _ (List.mem_of_getElem? (i := 10) rfl)
theorem d1_13 : decode prog_19_method_4_code 13 = .ok (.areturn, 1) := by decide +kernel
theorem own_w3 {Z : State} {a0 : Array Value} (hw : ∀ d ∈ tables_1, d.before a0 Z = true) : (Jvm.Cond.code ({ cls := "com/example/referent/referent/RelativeResult", name := "ofIndex", desc := "(I)Lcom/example/referent/referent/RelativeResult;" } : Jvm.MethodName) prog_19_method_4_code (1 : Nat) (Option.some (Jvm.ClassFile.FieldType.object "com/example/referent/referent/RelativeResult"))).before a0 Z = true := hw _ (List.mem_of_getElem? (i := 3) rfl)
theorem pd__I_Lcom_example_referent_referent_RelativeResult_ : parseMethodDescriptor "(I)Lcom/example/referent/referent/RelativeResult;" = some ⟨[.int], some (.object "com/example/referent/referent/RelativeResult")⟩ := by decide +kernel
theorem own_w1 {Z : State} {a0 : Array Value} (hw : ∀ d ∈ tables_1, d.before a0 Z = true) : (Jvm.Cond.static ({ cls := "com/example/referent/referent/RelativeResult", name := "ofIndex", desc := "(I)Lcom/example/referent/referent/RelativeResult;" } : Jvm.MethodName)).before a0 Z = true := hw _ (List.mem_of_getElem? (i := 1) rfl)
theorem own_w23 {Z : State} {a0 : Array Value} (hw : ∀ d ∈ tables_1, d.before a0 Z = true) : (Jvm.Cond.methodLink "com/example/referent/referent/RelativeResultOfIndexPinLaw" (13 : Nat) ({ cls := "com/example/referent/referent/RelativeResult", name := "kind", desc := "()Lcom/example/referent/referent/RelativeResult$Kind;" } : Jvm.MethodName)).before a0 Z = true := hw _ (List.mem_of_getElem? (i := 23) rfl)
theorem d4_0 : decode prog_19_method_5_code 0 = .ok (.aload_n 0, 1) := by decide +kernel
theorem d4_1 : decode prog_19_method_5_code 1 = .ok (.getfield 7, 3) := by decide +kernel
theorem d4_4 : decode prog_19_method_5_code 4 = .ok (.areturn, 1) := by decide +kernel
theorem own_w27 {Z : State} {a0 : Array Value} (hw : ∀ d ∈ tables_1, d.before a0 Z = true) : (Jvm.Cond.code ({ cls := "com/example/referent/referent/RelativeResult", name := "kind", desc := "()Lcom/example/referent/referent/RelativeResult$Kind;" } : Jvm.MethodName) prog_19_method_5_code (1 : Nat) (Option.some (Jvm.ClassFile.FieldType.object "com/example/referent/referent/RelativeResult$Kind"))).before a0 Z = true := hw _ (List.mem_of_getElem? (i := 27) rfl)
theorem pd___Lcom_example_referent_referent_RelativeResult_Kind_ : parseMethodDescriptor "()Lcom/example/referent/referent/RelativeResult$Kind;" = some ⟨[], some (.object "com/example/referent/referent/RelativeResult$Kind")⟩ := by decide +kernel
theorem own_w26 {Z : State} {a0 : Array Value} (hw : ∀ d ∈ tables_1, d.before a0 Z = true) : (Jvm.Cond.selects "com/example/referent/referent/RelativeResult" ({ cls := "com/example/referent/referent/RelativeResult", name := "kind", desc := "()Lcom/example/referent/referent/RelativeResult$Kind;" } : Jvm.MethodName) ({ cls := "com/example/referent/referent/RelativeResult", name := "kind", desc := "()Lcom/example/referent/referent/RelativeResult$Kind;" } : Jvm.MethodName)).before a0 Z = true := hw _ (List.mem_of_getElem? (i := 26) rfl)
theorem own_w24 {Z : State} {a0 : Array Value} (hw : ∀ d ∈ tables_1, d.before a0 Z = true) : (Jvm.Cond.declares ({ cls := "com/example/referent/referent/RelativeResult", name := "kind", desc := "()Lcom/example/referent/referent/RelativeResult$Kind;" } : Jvm.MethodName)).before a0 Z = true := hw _ (List.mem_of_getElem? (i := 24) rfl)
theorem own_w25 {Z : State} {a0 : Array Value} (hw : ∀ d ∈ tables_1, d.before a0 Z = true) : (Jvm.Cond.instanceMethod ({ cls := "com/example/referent/referent/RelativeResult", name := "kind", desc := "()Lcom/example/referent/referent/RelativeResult$Kind;" } : Jvm.MethodName)).before a0 Z = true := hw _ (List.mem_of_getElem? (i := 25) rfl)
theorem own_w28 {Z : State} {a0 : Array Value} (hw : ∀ d ∈ tables_1, d.before a0 Z = true) : (Jvm.Cond.fieldLink "com/example/referent/referent/RelativeResultOfIndexPinLaw" (17 : Nat) "com/example/referent/referent/RelativeResult$Kind" "INDEX" "Lcom/example/referent/referent/RelativeResult$Kind;").before a0 Z = true := hw _ (List.mem_of_getElem? (i := 28) rfl)
theorem own_w29 {Z : State} {a0 : Array Value} (hw : ∀ d ∈ tables_1, d.before a0 Z = true) : (Jvm.Cond.methodLink "com/example/referent/referent/RelativeResultOfIndexPinLaw" (23 : Nat) ({ cls := "com/example/referent/referent/RelativeResult", name := "index", desc := "()I" } : Jvm.MethodName)).before a0 Z = true := hw _ (List.mem_of_getElem? (i := 29) rfl)
theorem d5_0 : decode prog_19_method_8_code 0 = .ok (.aload_n 0, 1) := by decide +kernel
theorem d5_1 : decode prog_19_method_8_code 1 = .ok (.getfield 21, 3) := by decide +kernel
theorem d5_4 : decode prog_19_method_8_code 4 = .ok (.ireturn, 1) := by decide +kernel
theorem own_w33 {Z : State} {a0 : Array Value} (hw : ∀ d ∈ tables_1, d.before a0 Z = true) : (Jvm.Cond.code ({ cls := "com/example/referent/referent/RelativeResult", name := "index", desc := "()I" } : Jvm.MethodName) prog_19_method_8_code (1 : Nat) (Option.some Jvm.ClassFile.FieldType.int)).before a0 Z = true := hw _ (List.mem_of_getElem? (i := 33) rfl)
theorem pd___I : parseMethodDescriptor "()I" = some ⟨[], some .int⟩ := by decide +kernel
theorem own_w32 {Z : State} {a0 : Array Value} (hw : ∀ d ∈ tables_1, d.before a0 Z = true) : (Jvm.Cond.selects "com/example/referent/referent/RelativeResult" ({ cls := "com/example/referent/referent/RelativeResult", name := "index", desc := "()I" } : Jvm.MethodName) ({ cls := "com/example/referent/referent/RelativeResult", name := "index", desc := "()I" } : Jvm.MethodName)).before a0 Z = true := hw _ (List.mem_of_getElem? (i := 32) rfl)
theorem own_w30 {Z : State} {a0 : Array Value} (hw : ∀ d ∈ tables_1, d.before a0 Z = true) : (Jvm.Cond.declares ({ cls := "com/example/referent/referent/RelativeResult", name := "index", desc := "()I" } : Jvm.MethodName)).before a0 Z = true := hw _ (List.mem_of_getElem? (i := 30) rfl)
theorem own_w31 {Z : State} {a0 : Array Value} (hw : ∀ d ∈ tables_1, d.before a0 Z = true) : (Jvm.Cond.instanceMethod ({ cls := "com/example/referent/referent/RelativeResult", name := "index", desc := "()I" } : Jvm.MethodName)).before a0 Z = true := hw _ (List.mem_of_getElem? (i := 31) rfl)
theorem own_w34 {Z : State} {a0 : Array Value} (hw : ∀ d ∈ tables_1, d.before a0 Z = true) : (Jvm.Cond.methodLink "com/example/referent/referent/RelativeResultOfIndexPinLaw" (27 : Nat) ({ cls := "com/example/referent/referent/RelativeResult", name := "name", desc := "()Ljava/lang/String;" } : Jvm.MethodName)).before a0 Z = true := hw _ (List.mem_of_getElem? (i := 34) rfl)
theorem d6_0 : decode prog_19_method_7_code 0 = .ok (.aload_n 0, 1) := by decide +kernel
theorem d6_1 : decode prog_19_method_7_code 1 = .ok (.getfield 17, 3) := by decide +kernel
theorem d6_4 : decode prog_19_method_7_code 4 = .ok (.areturn, 1) := by decide +kernel
theorem own_w38 {Z : State} {a0 : Array Value} (hw : ∀ d ∈ tables_1, d.before a0 Z = true) : (Jvm.Cond.code ({ cls := "com/example/referent/referent/RelativeResult", name := "name", desc := "()Ljava/lang/String;" } : Jvm.MethodName) prog_19_method_7_code (1 : Nat) (Option.some (Jvm.ClassFile.FieldType.object "java/lang/String"))).before a0 Z = true := hw _ (List.mem_of_getElem? (i := 38) rfl)
theorem pd___Ljava_lang_String_ : parseMethodDescriptor "()Ljava/lang/String;" = some ⟨[], some (.object "java/lang/String")⟩ := by decide +kernel
theorem own_w37 {Z : State} {a0 : Array Value} (hw : ∀ d ∈ tables_1, d.before a0 Z = true) : (Jvm.Cond.selects "com/example/referent/referent/RelativeResult" ({ cls := "com/example/referent/referent/RelativeResult", name := "name", desc := "()Ljava/lang/String;" } : Jvm.MethodName) ({ cls := "com/example/referent/referent/RelativeResult", name := "name", desc := "()Ljava/lang/String;" } : Jvm.MethodName)).before a0 Z = true := hw _ (List.mem_of_getElem? (i := 37) rfl)
theorem own_w35 {Z : State} {a0 : Array Value} (hw : ∀ d ∈ tables_1, d.before a0 Z = true) : (Jvm.Cond.declares ({ cls := "com/example/referent/referent/RelativeResult", name := "name", desc := "()Ljava/lang/String;" } : Jvm.MethodName)).before a0 Z = true := hw _ (List.mem_of_getElem? (i := 35) rfl)
theorem own_w36 {Z : State} {a0 : Array Value} (hw : ∀ d ∈ tables_1, d.before a0 Z = true) : (Jvm.Cond.instanceMethod ({ cls := "com/example/referent/referent/RelativeResult", name := "name", desc := "()Ljava/lang/String;" } : Jvm.MethodName)).before a0 Z = true := hw _ (List.mem_of_getElem? (i := 36) rfl)
theorem own_w39 {Z : State} {a0 : Array Value} (hw : ∀ d ∈ tables_1, d.before a0 Z = true) : (Jvm.Cond.methodLink "com/example/referent/referent/RelativeResultOfIndexPinLaw" (31 : Nat) ({ cls := "com/example/referent/referent/RelativeResult", name := "node", desc := "()Ljava/lang/Object;" } : Jvm.MethodName)).before a0 Z = true := hw _ (List.mem_of_getElem? (i := 39) rfl)
theorem d7_0 : decode prog_19_method_6_code 0 = .ok (.aload_n 0, 1) := by decide +kernel
theorem d7_1 : decode prog_19_method_6_code 1 = .ok (.getfield 13, 3) := by decide +kernel
theorem d7_4 : decode prog_19_method_6_code 4 = .ok (.areturn, 1) := by decide +kernel
theorem own_w43 {Z : State} {a0 : Array Value} (hw : ∀ d ∈ tables_1, d.before a0 Z = true) : (Jvm.Cond.code ({ cls := "com/example/referent/referent/RelativeResult", name := "node", desc := "()Ljava/lang/Object;" } : Jvm.MethodName) prog_19_method_6_code (1 : Nat) (Option.some (Jvm.ClassFile.FieldType.object "java/lang/Object"))).before a0 Z = true := hw _ (List.mem_of_getElem? (i := 43) rfl)
theorem pd___Ljava_lang_Object_ : parseMethodDescriptor "()Ljava/lang/Object;" = some ⟨[], some (.object "java/lang/Object")⟩ := by decide +kernel
theorem own_w42 {Z : State} {a0 : Array Value} (hw : ∀ d ∈ tables_1, d.before a0 Z = true) : (Jvm.Cond.selects "com/example/referent/referent/RelativeResult" ({ cls := "com/example/referent/referent/RelativeResult", name := "node", desc := "()Ljava/lang/Object;" } : Jvm.MethodName) ({ cls := "com/example/referent/referent/RelativeResult", name := "node", desc := "()Ljava/lang/Object;" } : Jvm.MethodName)).before a0 Z = true := hw _ (List.mem_of_getElem? (i := 42) rfl)
theorem own_w40 {Z : State} {a0 : Array Value} (hw : ∀ d ∈ tables_1, d.before a0 Z = true) : (Jvm.Cond.declares ({ cls := "com/example/referent/referent/RelativeResult", name := "node", desc := "()Ljava/lang/Object;" } : Jvm.MethodName)).before a0 Z = true := hw _ (List.mem_of_getElem? (i := 40) rfl)
theorem own_w41 {Z : State} {a0 : Array Value} (hw : ∀ d ∈ tables_1, d.before a0 Z = true) : (Jvm.Cond.instanceMethod ({ cls := "com/example/referent/referent/RelativeResult", name := "node", desc := "()Ljava/lang/Object;" } : Jvm.MethodName)).before a0 Z = true := hw _ (List.mem_of_getElem? (i := 41) rfl)
theorem own_w44 {Z : State} {a0 : Array Value} (hw : ∀ d ∈ tables_1, d.before a0 Z = true) : (Jvm.Cond.methodLink "com/example/referent/referent/RelativeResultOfIndexPinLaw" (35 : Nat) ({ cls := "com/example/referent/referent/RelativeResult", name := "equals", desc := "(Ljava/lang/Object;)Z" } : Jvm.MethodName)).before a0 Z = true := hw _ (List.mem_of_getElem? (i := 44) rfl)
theorem d8_0 : decode prog_19_method_9_code 0 = .ok (.aload_n 1, 1) := by decide +kernel
theorem d8_1 : decode prog_19_method_9_code 1 = .ok (.instanceof 8, 3) := by decide +kernel
theorem d8_4 : decode prog_19_method_9_code 4 = .ok (.ifCond .eq 62, 3) := by decide +kernel
theorem d8_7 : decode prog_19_method_9_code 7 = .ok (.aload_n 1, 1) := by decide +kernel
theorem d8_8 : decode prog_19_method_9_code 8 = .ok (.checkcast 8, 3) := by decide +kernel
theorem d8_11 : decode prog_19_method_9_code 11 = .ok (.astore_n 2, 1) := by decide +kernel
theorem d8_12 : decode prog_19_method_9_code 12 = .ok (.aload_n 0, 1) := by decide +kernel
theorem d8_13 : decode prog_19_method_9_code 13 = .ok (.getfield 7, 3) := by decide +kernel
theorem d8_16 : decode prog_19_method_9_code 16 = .ok (.aload_n 2, 1) := by decide +kernel
theorem d8_17 : decode prog_19_method_9_code 17 = .ok (.getfield 7, 3) := by decide +kernel
theorem d8_20 : decode prog_19_method_9_code 20 = .ok (.if_acmp .ne 46, 3) := by decide +kernel
theorem d8_23 : decode prog_19_method_9_code 23 = .ok (.aload_n 0, 1) := by decide +kernel
theorem d8_24 : decode prog_19_method_9_code 24 = .ok (.getfield 21, 3) := by decide +kernel
theorem d8_27 : decode prog_19_method_9_code 27 = .ok (.aload_n 2, 1) := by decide +kernel
theorem d8_28 : decode prog_19_method_9_code 28 = .ok (.getfield 21, 3) := by decide +kernel
theorem d8_31 : decode prog_19_method_9_code 31 = .ok (.if_icmp .ne 35, 3) := by decide +kernel
theorem d8_34 : decode prog_19_method_9_code 34 = .ok (.aload_n 0, 1) := by decide +kernel
theorem d8_35 : decode prog_19_method_9_code 35 = .ok (.getfield 17, 3) := by decide +kernel
theorem d8_38 : decode prog_19_method_9_code 38 = .ok (.aload_n 2, 1) := by decide +kernel
theorem d8_39 : decode prog_19_method_9_code 39 = .ok (.getfield 17, 3) := by decide +kernel
theorem d8_42 : decode prog_19_method_9_code 42 = .ok (.invokestatic 41, 3) := by decide +kernel
theorem own_w50 {Z : State} {a0 : Array Value} (hw : ∀ d ∈ tables_1, d.before a0 Z = true) : (Jvm.Cond.methodLink "com/example/referent/referent/RelativeResult" (41 : Nat) ({ cls := "java/util/Objects", name := "equals", desc := "(Ljava/lang/Object;Ljava/lang/Object;)Z" } : Jvm.MethodName)).before a0 Z = true := hw _ (List.mem_of_getElem? (i := 50) rfl)
theorem d9_0 : decode jdk_31_method_2_code 0 = .ok (.aload_n 0, 1) := by decide +kernel
theorem d9_1 : decode jdk_31_method_2_code 1 = .ok (.aload_n 1, 1) := by decide +kernel
theorem d9_2 : decode jdk_31_method_2_code 2 = .ok (.if_acmp .eq 15, 3) := by decide +kernel
theorem d9_17 : decode jdk_31_method_2_code 17 = .ok (.iconst 1, 1) := by decide +kernel
theorem d9_18 : decode jdk_31_method_2_code 18 = .ok (.goto 4, 3) := by decide +kernel
theorem d9_22 : decode jdk_31_method_2_code 22 = .ok (.ireturn, 1) := by decide +kernel
theorem pn_java_util_Objects : plainName "java/util/Objects" = true := by first | (simp [plainName, overriddenIn]; done) | decide +kernel
theorem own_w53 {Z : State} {a0 : Array Value} (hw : ∀ d ∈ tables_1, d.before a0 Z = true) : (Jvm.Cond.code ({ cls := "java/util/Objects", name := "equals", desc := "(Ljava/lang/Object;Ljava/lang/Object;)Z" } : Jvm.MethodName) jdk_31_method_2_code (2 : Nat) (Option.some Jvm.ClassFile.FieldType.boolean)).before a0 Z = true := hw _ (List.mem_of_getElem? (i := 53) rfl)
theorem own_w52 {Z : State} {a0 : Array Value} (hw : ∀ d ∈ tables_1, d.before a0 Z = true) : (Jvm.Cond.initialized "java/util/Objects").before a0 Z = true := hw _ (List.mem_of_getElem? (i := 52) rfl)
theorem pd__Ljava_lang_Object_Ljava_lang_Object__Z : parseMethodDescriptor "(Ljava/lang/Object;Ljava/lang/Object;)Z" = some ⟨[(.object "java/lang/Object"), (.object "java/lang/Object")], some .boolean⟩ := by decide +kernel
theorem own_w51 {Z : State} {a0 : Array Value} (hw : ∀ d ∈ tables_1, d.before a0 Z = true) : (Jvm.Cond.static ({ cls := "java/util/Objects", name := "equals", desc := "(Ljava/lang/Object;Ljava/lang/Object;)Z" } : Jvm.MethodName)).before a0 Z = true := hw _ (List.mem_of_getElem? (i := 51) rfl)
theorem d8_45 : decode prog_19_method_9_code 45 = .ok (.ifCond .eq 21, 3) := by decide +kernel
theorem d8_48 : decode prog_19_method_9_code 48 = .ok (.aload_n 0, 1) := by decide +kernel
theorem d8_49 : decode prog_19_method_9_code 49 = .ok (.getfield 13, 3) := by decide +kernel
theorem d8_52 : decode prog_19_method_9_code 52 = .ok (.aload_n 2, 1) := by decide +kernel
theorem d8_53 : decode prog_19_method_9_code 53 = .ok (.getfield 13, 3) := by decide +kernel
theorem d8_56 : decode prog_19_method_9_code 56 = .ok (.invokestatic 41, 3) := by decide +kernel
theorem d8_59 : decode prog_19_method_9_code 59 = .ok (.ifCond .eq 7, 3) := by decide +kernel
theorem d8_62 : decode prog_19_method_9_code 62 = .ok (.iconst 1, 1) := by decide +kernel
theorem d8_63 : decode prog_19_method_9_code 63 = .ok (.goto 4, 3) := by decide +kernel
theorem d8_67 : decode prog_19_method_9_code 67 = .ok (.ireturn, 1) := by decide +kernel
theorem own_w48 {Z : State} {a0 : Array Value} (hw : ∀ d ∈ tables_1, d.before a0 Z = true) : (Jvm.Cond.code ({ cls := "com/example/referent/referent/RelativeResult", name := "equals", desc := "(Ljava/lang/Object;)Z" } : Jvm.MethodName) prog_19_method_9_code (3 : Nat) (Option.some Jvm.ClassFile.FieldType.boolean)).before a0 Z = true := hw _ (List.mem_of_getElem? (i := 48) rfl)
theorem pd__Ljava_lang_Object__Z : parseMethodDescriptor "(Ljava/lang/Object;)Z" = some ⟨[(.object "java/lang/Object")], some .boolean⟩ := by decide +kernel
theorem own_w47 {Z : State} {a0 : Array Value} (hw : ∀ d ∈ tables_1, d.before a0 Z = true) : (Jvm.Cond.selects "com/example/referent/referent/RelativeResult" ({ cls := "com/example/referent/referent/RelativeResult", name := "equals", desc := "(Ljava/lang/Object;)Z" } : Jvm.MethodName) ({ cls := "com/example/referent/referent/RelativeResult", name := "equals", desc := "(Ljava/lang/Object;)Z" } : Jvm.MethodName)).before a0 Z = true := hw _ (List.mem_of_getElem? (i := 47) rfl)
theorem own_w45 {Z : State} {a0 : Array Value} (hw : ∀ d ∈ tables_1, d.before a0 Z = true) : (Jvm.Cond.declares ({ cls := "com/example/referent/referent/RelativeResult", name := "equals", desc := "(Ljava/lang/Object;)Z" } : Jvm.MethodName)).before a0 Z = true := hw _ (List.mem_of_getElem? (i := 45) rfl)
theorem own_w46 {Z : State} {a0 : Array Value} (hw : ∀ d ∈ tables_1, d.before a0 Z = true) : (Jvm.Cond.instanceMethod ({ cls := "com/example/referent/referent/RelativeResult", name := "equals", desc := "(Ljava/lang/Object;)Z" } : Jvm.MethodName)).before a0 Z = true := hw _ (List.mem_of_getElem? (i := 46) rfl)
theorem d8_66 : decode prog_19_method_9_code 66 = .ok (.iconst 0, 1) := by decide +kernel
theorem pn_com_example_referent_referent_RelativeResultOfIndexPinLaw : plainName "com/example/referent/referent/RelativeResultOfIndexPinLaw" = true := by first | (simp [plainName, overriddenIn]; done) | decide +kernel
theorem ef2_1 (m : MethodId) (a1 : Addr) (a2 : Addr) (p3 : Int32) : entryFrame m #[(.ref a1), (.ref a2), .null, .null, (.int p3)] 5 = mkF m 0 #[.val (.ref a1), .val (.ref a2), .val .null, .val .null, .val (.int p3)] [] := by first | (simp [entryFrame, mkF, argsToLocals, Value.category]; done) | rfl
def Q2_1 (Z : State) (a1 : Addr) (a2 : Addr) (p3 : Int32) (h0 : Heap) (n0 : Nat) (v : Option Value) (h : Heap) (L : List Loc) : Prop := v = none ∧ Fr n0 L ∧ Keep h0 h [a1] ∧ Exa Z h a1 "com/example/referent/referent/RelativeResult" ∧ Fld Z h a1 "com/example/referent/referent/RelativeResult" "kind" "Lcom/example/referent/referent/RelativeResult$Kind;" (.ref a2) ∧ Fld Z h a1 "com/example/referent/referent/RelativeResult" "node" "Ljava/lang/Object;" .null ∧ Fld Z h a1 "com/example/referent/referent/RelativeResult" "name" "Ljava/lang/String;" .null ∧ Fld Z h a1 "com/example/referent/referent/RelativeResult" "index" "I" (.int p3)
set_option maxRecDepth 65536 in
set_option maxHeartbeats 40000000 in
theorem rm2_1 (l : Launch) (Z : State) (a0 : Array Value) (hw : ∀ d ∈ tables_1, d.before a0 Z = true) (ws : List Jvm.Cond) (a1 : Addr) (a2 : Addr) (p3 : Int32) (h0 : Heap) (n0 : Nat) (Z0 : n0 ≤ h0.size) (E_a1 : Exa Z h0 a1 "com/example/referent/referent/RelativeResult") (F_a1_kind : Fld Z h0 a1 "com/example/referent/referent/RelativeResult" "kind" "Lcom/example/referent/referent/RelativeResult$Kind;" .null) (g_a1 : n0 ≤ a1) (F_a1_node : Fld Z h0 a1 "com/example/referent/referent/RelativeResult" "node" "Ljava/lang/Object;" .null) (F_a1_name : Fld Z h0 a1 "com/example/referent/referent/RelativeResult" "name" "Ljava/lang/String;" .null) (F_a1_index : Fld Z h0 a1 "com/example/referent/referent/RelativeResult" "index" "I" (.int (0 : Int32))) :
    MetFree l (⟨"com/example/referent/referent/RelativeResult", "<init>", "(Lcom/example/referent/referent/RelativeResult$Kind;Ljava/lang/Object;Ljava/lang/String;I)V"⟩ : MethodName) (head1 (Jvm.Cond.code (⟨"com/example/referent/referent/RelativeResult", "<init>", "(Lcom/example/referent/referent/RelativeResult$Kind;Ljava/lang/Object;Ljava/lang/String;I)V"⟩ : MethodName) prog_19_method_1_code 5 none :: ws) ({ frames := 1, cells := 0, slots := 0, locals := 12 } : Room)) (fun a U => a = #[(.ref a1), (.ref a2), .null, .null, (.int p3)] ∧ Z.Warmed39 U.vm ∧ U.heap = h0) (fun _ _ _ _ _ => True) (fun _ U o U' => ∃ v L, o = .returned v ∧ Q2_1 Z a1 a2 p3 h0 n0 v U'.heap L ∧ FrameEnd U o U' L ({ frames := 1, cells := 0, slots := 0, locals := 12 } : Room).cells ({ frames := 1, cells := 0, slots := 0, locals := 12 } : Room).slots) := by
  refine MetFree.of_bodySF (plainFor_of_name pn_com_example_referent_referent_RelativeResult) hisR ?_
  intro p e s m args below meth c s₁ Bd hml0 hP hK
  obtain ⟨rfl, hZ, hh⟩ := hP
  have hx := Bd.exec
  have hby := Bd.bytes
  have hml : c.maxLocals = 5 := hml0
  have hown : s.vm.findClass "com/example/referent/referent/RelativeResult" = some m.cls := findClass_of_methodNamed Bd.named
  have hnm := (name_of_methodNamed Bd.named Bd.method).1
  have X0 : Stand p l e ({ frames := 1, cells := 0, slots := 0, locals := 12 } : Room) s m #[(.ref a1), (.ref a2), .null, .null, (.int p3)] below meth c s₁ [] 0 0 := Stand.of_body Bd
  have e0 : s₁.heap = h0 := by rw [← hh, Bd.state]; rfl
  have N0 := Fr.nil n0
  have pre0 : ∀ t, Steps p.tables e below (s₁.setTop (mkF m 0 #[.val (.ref a1), .val (.ref a2), .val .null, .val .null, .val (.int p3)] [])) t → Steps p.tables e below (s₁.setTop (entryFrame m #[(.ref a1), (.ref a2), .null, .null, (.int p3)] 5)) t := fun t k => castTop (ef2_1 m a1 a2 p3) k
  obtain ⟨T1, X1, e1, st1⟩ := initO X0 hx hZ hown (own_w12 hw) (own_w13 hw) (own_w14 hw) e0 (g := (mkF m 1 #[.val (.ref a1), .val (.ref a2), .val .null, .val .null, .val (.int p3)] [(.ref a1)])) rfl (by rw [hml]; rfl) rfl (hb hby d2_1) (by decide) (W := 0) (by show 2 * 0 + _ ≤ _; exact Nat.le_of_eq rfl) (by decide)
  obtain ⟨T2, h2, X2, e2, W2, st2⟩ := putF X1 hx hZ hown (host := "") (Or.inl (own_w15 hw)) Via.refl e1 F_a1_kind E_a1 (Or.inr ⟨(own_w16 hw), rfl, hnm⟩) (own_w5 hw) (ty := (.object "com/example/referent/referent/RelativeResult$Kind")) (by decide) rfl rfl (g := (mkF m 6 #[.val (.ref a1), .val (.ref a2), .val .null, .val .null, .val (.int p3)] [(.ref a2), (.ref a1)])) rfl rfl (hb hby d2_6)
  have KC3 : Keep h0 h2 [a1] := (Keep.refl h0 [a1]).wr W2 (Or.inl (List.mem_of_getElem? (i := 0) rfl))
  have Fw2 := F_a1_kind.same W2
  have N2 := Fr.snoc X2 N0 g_a1
  have c4 := E_a1.wr W2
  have c5 := F_a1_node.other W2 (Or.inr (slot_ne (C := "com/example/referent/referent/RelativeResult") (Or.inr (own_w18 hw)) (Or.inr (own_w16 hw)) (by decide) (t := (.object "java/lang/Object")) (t' := (.object "com/example/referent/referent/RelativeResult$Kind")) (by decide) (by decide)))
  obtain ⟨T6, h6, X6, e6, W6, st6⟩ := putF X2 hx hZ hown (host := "") (Or.inl (own_w17 hw)) Via.refl e2 c5 c4 (Or.inr ⟨(own_w18 hw), rfl, hnm⟩) (own_w5 hw) (ty := (.object "java/lang/Object")) (by decide) rfl rfl (g := (mkF m 11 #[.val (.ref a1), .val (.ref a2), .val .null, .val .null, .val (.int p3)] [.null, (.ref a1)])) rfl rfl (hb hby d2_11)
  have KC7 : Keep h0 h6 [a1] := KC3.wr W6 (Or.inl (List.mem_of_getElem? (i := 0) rfl))
  have Fw6 := c5.same W6
  have N6 := Fr.snoc X6 N2 g_a1
  have c8 := c4.wr W6
  have c9 := F_a1_name.other W2 (Or.inr (slot_ne (C := "com/example/referent/referent/RelativeResult") (Or.inr (own_w20 hw)) (Or.inr (own_w16 hw)) (by decide) (t := (.object "java/lang/String")) (t' := (.object "com/example/referent/referent/RelativeResult$Kind")) (by decide) (by decide)))
  have c10 := c9.other W6 (Or.inr (slot_ne (C := "com/example/referent/referent/RelativeResult") (Or.inr (own_w20 hw)) (Or.inr (own_w18 hw)) (by decide) (t := (.object "java/lang/String")) (t' := (.object "java/lang/Object")) (by decide) (by decide)))
  obtain ⟨T11, h11, X11, e11, W11, st11⟩ := putF X6 hx hZ hown (host := "") (Or.inl (own_w19 hw)) Via.refl e6 c10 c8 (Or.inr ⟨(own_w20 hw), rfl, hnm⟩) (own_w5 hw) (ty := (.object "java/lang/String")) (by decide) rfl rfl (g := (mkF m 16 #[.val (.ref a1), .val (.ref a2), .val .null, .val .null, .val (.int p3)] [.null, (.ref a1)])) rfl rfl (hb hby d2_16)
  have KC12 : Keep h0 h11 [a1] := KC7.wr W11 (Or.inl (List.mem_of_getElem? (i := 0) rfl))
  have Fw11 := c10.same W11
  have N11 := Fr.snoc X11 N6 g_a1
  have c13 := c8.wr W11
  have c14 := F_a1_index.other W2 (Or.inr (slot_ne (C := "com/example/referent/referent/RelativeResult") (Or.inr (own_w22 hw)) (Or.inr (own_w16 hw)) (by decide) (t := .int) (t' := (.object "com/example/referent/referent/RelativeResult$Kind")) (by decide) (by decide)))
  have c15 := c14.other W6 (Or.inr (slot_ne (C := "com/example/referent/referent/RelativeResult") (Or.inr (own_w22 hw)) (Or.inr (own_w18 hw)) (by decide) (t := .int) (t' := (.object "java/lang/Object")) (by decide) (by decide)))
  have c16 := c15.other W11 (Or.inr (slot_ne (C := "com/example/referent/referent/RelativeResult") (Or.inr (own_w22 hw)) (Or.inr (own_w20 hw)) (by decide) (t := .int) (t' := (.object "java/lang/String")) (by decide) (by decide)))
  obtain ⟨T17, h17, X17, e17, W17, st17⟩ := putF X11 hx hZ hown (host := "") (Or.inl (own_w21 hw)) Via.refl e11 c16 c13 (Or.inr ⟨(own_w22 hw), rfl, hnm⟩) (own_w5 hw) (ty := .int) (by decide) rfl rfl (g := (mkF m 22 #[.val (.ref a1), .val (.ref a2), .val .null, .val .null, .val (.int p3)] [(.int p3), (.ref a1)])) rfl rfl (hb hby d2_22)
  have KC18 : Keep h0 h17 [a1] := KC12.wr W17 (Or.inl (List.mem_of_getElem? (i := 0) rfl))
  have Fw17 := c16.same W17
  have N17 := Fr.snoc X17 N11 g_a1
  have c19 := c13.wr W17
  have c20 := Fw2.other W6 (Or.inr (slot_ne (C := "com/example/referent/referent/RelativeResult") (Or.inr (own_w16 hw)) (Or.inr (own_w18 hw)) (by decide) (t := (.object "com/example/referent/referent/RelativeResult$Kind")) (t' := (.object "java/lang/Object")) (by decide) (by decide)))
  have c21 := c20.other W11 (Or.inr (slot_ne (C := "com/example/referent/referent/RelativeResult") (Or.inr (own_w16 hw)) (Or.inr (own_w20 hw)) (by decide) (t := (.object "com/example/referent/referent/RelativeResult$Kind")) (t' := (.object "java/lang/String")) (by decide) (by decide)))
  have c22 := c21.other W17 (Or.inr (slot_ne (C := "com/example/referent/referent/RelativeResult") (Or.inr (own_w16 hw)) (Or.inr (own_w22 hw)) (by decide) (t := (.object "com/example/referent/referent/RelativeResult$Kind")) (t' := .int) (by decide) (by decide)))
  have c23 := Fw6.other W11 (Or.inr (slot_ne (C := "com/example/referent/referent/RelativeResult") (Or.inr (own_w18 hw)) (Or.inr (own_w20 hw)) (by decide) (t := (.object "java/lang/Object")) (t' := (.object "java/lang/String")) (by decide) (by decide)))
  have c24 := c23.other W17 (Or.inr (slot_ne (C := "com/example/referent/referent/RelativeResult") (Or.inr (own_w18 hw)) (Or.inr (own_w22 hw)) (by decide) (t := (.object "java/lang/Object")) (t' := .int) (by decide) (by decide)))
  have c25 := Fw11.other W17 (Or.inr (slot_ne (C := "com/example/referent/referent/RelativeResult") (Or.inr (own_w20 hw)) (Or.inr (own_w22 hw)) (by decide) (t := (.object "java/lang/String")) (t' := .int) (by decide) (by decide)))
  obtain ⟨fs, hr, hrun, hended, hW, hsame⟩ := X17.leave (v := none) (fun _ => rfl)
  refine ⟨_, _, pre0 _ ?_, hrun, hended, _, _, rfl, ?_, ⟨_, rfl⟩, hW, hsame.mono (by decide) (by decide)⟩
  · show Steps p.tables e below (s₁.setTop (mkF m 0 #[.val (.ref a1), .val (.ref a2), .val .null, .val .null, .val (.int p3)] [])) _
    refine XS.aloadN X0.here hx rfl (hb hby d2_0) rfl rfl ?_
    show Steps p.tables e below (s₁.setTop (mkF m 1 #[.val (.ref a1), .val (.ref a2), .val .null, .val .null, .val (.int p3)] [(.ref a1)])) _
    refine st1 _ ?_
    show Steps p.tables e below (T1.setTop (mkF m 4 #[.val (.ref a1), .val (.ref a2), .val .null, .val .null, .val (.int p3)] [])) _
    refine XS.aloadN X1.here hx rfl (hb hby d2_4) rfl rfl ?_
    show Steps p.tables e below (T1.setTop (mkF m 5 #[.val (.ref a1), .val (.ref a2), .val .null, .val .null, .val (.int p3)] [(.ref a1)])) _
    refine XS.aloadN X1.here hx rfl (hb hby d2_5) rfl rfl ?_
    show Steps p.tables e below (T1.setTop (mkF m 6 #[.val (.ref a1), .val (.ref a2), .val .null, .val .null, .val (.int p3)] [(.ref a2), (.ref a1)])) _
    refine st2 _ ?_
    show Steps p.tables e below (T2.setTop (mkF m 9 #[.val (.ref a1), .val (.ref a2), .val .null, .val .null, .val (.int p3)] [])) _
    refine XS.aloadN X2.here hx rfl (hb hby d2_9) rfl rfl ?_
    show Steps p.tables e below (T2.setTop (mkF m 10 #[.val (.ref a1), .val (.ref a2), .val .null, .val .null, .val (.int p3)] [(.ref a1)])) _
    refine XS.aloadN X2.here hx rfl (hb hby d2_10) rfl rfl ?_
    show Steps p.tables e below (T2.setTop (mkF m 11 #[.val (.ref a1), .val (.ref a2), .val .null, .val .null, .val (.int p3)] [.null, (.ref a1)])) _
    refine st6 _ ?_
    show Steps p.tables e below (T6.setTop (mkF m 14 #[.val (.ref a1), .val (.ref a2), .val .null, .val .null, .val (.int p3)] [])) _
    refine XS.aloadN X6.here hx rfl (hb hby d2_14) rfl rfl ?_
    show Steps p.tables e below (T6.setTop (mkF m 15 #[.val (.ref a1), .val (.ref a2), .val .null, .val .null, .val (.int p3)] [(.ref a1)])) _
    refine XS.aloadN X6.here hx rfl (hb hby d2_15) rfl rfl ?_
    show Steps p.tables e below (T6.setTop (mkF m 16 #[.val (.ref a1), .val (.ref a2), .val .null, .val .null, .val (.int p3)] [.null, (.ref a1)])) _
    refine st11 _ ?_
    show Steps p.tables e below (T11.setTop (mkF m 19 #[.val (.ref a1), .val (.ref a2), .val .null, .val .null, .val (.int p3)] [])) _
    refine XS.aloadN X11.here hx rfl (hb hby d2_19) rfl rfl ?_
    show Steps p.tables e below (T11.setTop (mkF m 20 #[.val (.ref a1), .val (.ref a2), .val .null, .val .null, .val (.int p3)] [(.ref a1)])) _
    refine XS.iload X11.here hx rfl (hb hby d2_20) rfl ?_
    show Steps p.tables e below (T11.setTop (mkF m 22 #[.val (.ref a1), .val (.ref a2), .val .null, .val .null, .val (.int p3)] [(.int p3), (.ref a1)])) _
    refine st17 _ ?_
    show Steps p.tables e below (T17.setTop (mkF m 25 #[.val (.ref a1), .val (.ref a2), .val .null, .val .null, .val (.int p3)] [])) _
    exact X17.returnOut hx Bd.returns (hb hby d2_25) hr
  · show Q2_1 Z a1 a2 p3 h0 n0 _ T17.heap _
    rw [e17]
    exact ⟨rfl, N17, KC18, c19, c22, c24, c25, Fw17⟩
theorem ef1_2 (m : MethodId) (p1 : Int32) : entryFrame m #[(.int p1)] 1 = mkF m 0 #[.val (.int p1)] [] := by first | (simp [entryFrame, mkF, argsToLocals, Value.category]; done) | rfl
def Q1_2 (Z : State) (p1 : Int32) (a2 : Addr) (h0 : Heap) (n0 : Nat) (v : Option Value) (h : Heap) (L : List Loc) : Prop := ∃ b1 : Addr, v = some (.ref b1) ∧ Fr n0 L ∧ Keep h0 h [] ∧ h0.size ≤ b1 ∧ Exa Z h b1 "com/example/referent/referent/RelativeResult" ∧ Fld Z h b1 "com/example/referent/referent/RelativeResult" "kind" "Lcom/example/referent/referent/RelativeResult$Kind;" (.ref a2) ∧ Fld Z h b1 "com/example/referent/referent/RelativeResult" "node" "Ljava/lang/Object;" .null ∧ Fld Z h b1 "com/example/referent/referent/RelativeResult" "name" "Ljava/lang/String;" .null ∧ Fld Z h b1 "com/example/referent/referent/RelativeResult" "index" "I" (.int p1)
set_option maxRecDepth 65536 in
set_option maxHeartbeats 40000000 in
theorem rm1_2 (l : Launch) (Z : State) (a0 : Array Value) (hw : ∀ d ∈ tables_1, d.before a0 Z = true) (ws : List Jvm.Cond) (p1 : Int32) (a2 : Addr) (h0 : Heap) (n0 : Nat) (Z0 : n0 ≤ h0.size) (S_RelativeResult_Kind_INDEX : Sta Z h0 "com/example/referent/referent/RelativeResult$Kind" "INDEX" "Lcom/example/referent/referent/RelativeResult$Kind;" (.ref a2)) :
    MetFree l (⟨"com/example/referent/referent/RelativeResult", "ofIndex", "(I)Lcom/example/referent/referent/RelativeResult;"⟩ : MethodName) (head1 (Jvm.Cond.code (⟨"com/example/referent/referent/RelativeResult", "ofIndex", "(I)Lcom/example/referent/referent/RelativeResult;"⟩ : MethodName) prog_19_method_4_code 1 (some (.object "com/example/referent/referent/RelativeResult")) :: ws) ({ frames := 2, cells := 1, slots := 4, locals := 29 } : Room)) (fun a U => a = #[(.int p1)] ∧ Z.Warmed39 U.vm ∧ U.heap = h0) (fun _ _ _ _ _ => True) (fun _ U o U' => ∃ v L, o = .returned v ∧ Q1_2 Z p1 a2 h0 n0 v U'.heap L ∧ FrameEnd U o U' L ({ frames := 2, cells := 1, slots := 4, locals := 29 } : Room).cells ({ frames := 2, cells := 1, slots := 4, locals := 29 } : Room).slots) := by
  refine MetFree.of_bodySF (plainFor_of_name pn_com_example_referent_referent_RelativeResult) hisR ?_
  intro p e s m args below meth c s₁ Bd hml0 hP hK
  obtain ⟨rfl, hZ, hh⟩ := hP
  have hx := Bd.exec
  have hby := Bd.bytes
  have hml : c.maxLocals = 1 := hml0
  have hown : s.vm.findClass "com/example/referent/referent/RelativeResult" = some m.cls := findClass_of_methodNamed Bd.named
  have hnm := (name_of_methodNamed Bd.named Bd.method).1
  have X0 : Stand p l e ({ frames := 2, cells := 1, slots := 4, locals := 29 } : Room) s m #[(.int p1)] below meth c s₁ [] 0 0 := Stand.of_body Bd
  have e0 : s₁.heap = h0 := by rw [← hh, Bd.state]; rfl
  have N0 := Fr.nil n0
  have pre0 : ∀ t, Steps p.tables e below (s₁.setTop (mkF m 0 #[.val (.int p1)] [])) t → Steps p.tables e below (s₁.setTop (entryFrame m #[(.int p1)] 1)) t := fun t k => castTop (ef1_2 m p1) k
  obtain ⟨T1, h1, X1, e1, E1, A1, D1, -, st1⟩ := newO X0 hx hZ hown (own_w4 hw) (own_w5 hw) (own_w2 hw) e0 (g := (mkF m 0 #[.val (.int p1)] [])) rfl (hb hby d1_0) (by decide) (by decide)
  obtain ⟨b1, q1⟩ : ∃ z, z = h0.size := ⟨_, rfl⟩
  rw [← q1] at A1 D1 st1
  have sz_b1 : h0.size ≤ b1 := Nat.le_of_eq q1.symm
  have sz0_b1 : h0.size ≤ b1 := sz_b1
  have g_b1 : n0 ≤ b1 := Nat.le_trans Z0 sz0_b1
  have KC2 : Keep h0 h1 [] := (Keep.refl h0 []).ext E1
  have F1_kind : Fld Z h1 b1 "com/example/referent/referent/RelativeResult" "kind" "Lcom/example/referent/referent/RelativeResult$Kind;" .null := D1 (Or.inr (own_w16 hw)) (ty := (.object "com/example/referent/referent/RelativeResult$Kind")) (by decide)
  have F1_node : Fld Z h1 b1 "com/example/referent/referent/RelativeResult" "node" "Ljava/lang/Object;" .null := D1 (Or.inr (own_w18 hw)) (ty := (.object "java/lang/Object")) (by decide)
  have F1_name : Fld Z h1 b1 "com/example/referent/referent/RelativeResult" "name" "Ljava/lang/String;" .null := D1 (Or.inr (own_w20 hw)) (ty := (.object "java/lang/String")) (by decide)
  have F1_index : Fld Z h1 b1 "com/example/referent/referent/RelativeResult" "index" "I" (.int (0 : Int32)) := D1 (Or.inr (own_w22 hw)) (ty := .int) (by decide)
  have c3 := S_RelativeResult_Kind_INDEX.ext E1
  obtain ⟨T4, X4, e4, st4⟩ := getS2 X1 hx hZ hown (host := "") (Or.inl (own_w6 hw)) Via.refl e1 c3 (g := (mkF m 4 #[.val (.int p1)] [(.ref b1), (.ref b1)])) rfl (hb hby d1_4)
  obtain ⟨_, _, ⟨T5, L5, k5, n5⟩, -, X5, ⟨Lc5, hQ5, l5, y5, z5⟩, st5⟩ := X4.specialBack hx (y := (⟨"com/example/referent/referent/RelativeResult", "<init>", "(Lcom/example/referent/referent/RelativeResult$Kind;Ljava/lang/Object;Ljava/lang/String;I)V"⟩ : MethodName)) rfl hown (mvT hZ (own_w9 hw)) (mvT hZ (own_w10 hw)) (mvT hZ (own_w11 hw)) (by decide) (backOf (W := 1) (rm2_1 l Z a0 hw [] b1 a2 p1 h1 n0 (Nat.le_trans Z0 KC2.1) A1 F1_kind g_b1 F1_node F1_name F1_index) hZ (own_w11 hw) (own_w2 hw) (by decide) (by decide)) (g := (mkF m 10 #[.val (.int p1)] [(.int p1), .null, .null, (.ref a2), (.ref b1), (.ref b1)])) rfl (by rw [hml]; rfl) (Steps.refl _) (a := b1) (argsL := [(.ref a2), .null, .null, (.int p1)]) (rest := [(.ref b1)]) (lenOf pd__Lcom_example_referent_referent_RelativeResult_Kind_Ljava_lang_Object_Ljava_lang_String_I_V rfl) rfl (by show 2 * 0 + _ ≤ _; exact Nat.le_of_eq rfl) (hb hby d1_10) (fun _ _ => ⟨rfl, e4, (by decide : 1 + 0 ≤ _), (by decide : 4 + 0 ≤ _)⟩)
  dsimp only [Pt.U, Pt.locs, Pt.cells, Pt.slots] at X5 l5 y5 z5 st5 hQ5
  subst l5 y5 z5
  obtain ⟨rfl, N5q, K5, f5_0, f5_1, f5_2, f5_3, f5_4⟩ := hQ5
  have N5 := Fr.app N0 N5q
  have KC6 : Keep h0 T5.heap [] := KC2.trans K5 (allS (Or.inr sz0_b1) all0)
  obtain ⟨fs, hr, hrun, hended, hW, hsame⟩ := X5.leave (v := some (.ref b1)) (fun h => by rw [Bd.returns] at h; cases h)
  refine ⟨_, _, pre0 _ ?_, hrun, hended, _, _, rfl, ?_, ⟨_, rfl⟩, hW, hsame.mono (by decide) (by decide)⟩
  · show Steps p.tables e below (s₁.setTop (mkF m 0 #[.val (.int p1)] [])) _
    refine st1 _ ?_
    show Steps p.tables e below (T1.setTop (mkF m 3 #[.val (.int p1)] [(.ref b1)])) _
    refine XS.dup X1.here hx rfl (hb hby d1_3) rfl rfl ?_
    show Steps p.tables e below (T1.setTop (mkF m 4 #[.val (.int p1)] [(.ref b1), (.ref b1)])) _
    refine st4 _ ?_
    show Steps p.tables e below (T4.setTop (mkF m 7 #[.val (.int p1)] [(.ref a2), (.ref b1), (.ref b1)])) _
    refine XS.aconstNull X4.here hx rfl (hb hby d1_7) ?_
    show Steps p.tables e below (T4.setTop (mkF m 8 #[.val (.int p1)] [.null, (.ref a2), (.ref b1), (.ref b1)])) _
    refine XS.aconstNull X4.here hx rfl (hb hby d1_8) ?_
    show Steps p.tables e below (T4.setTop (mkF m 9 #[.val (.int p1)] [.null, .null, (.ref a2), (.ref b1), (.ref b1)])) _
    refine XS.iloadN X4.here hx rfl (hb hby d1_9) rfl ?_
    show Steps p.tables e below (T4.setTop (mkF m 10 #[.val (.int p1)] [(.int p1), .null, .null, (.ref a2), (.ref b1), (.ref b1)])) _
    refine st5.trans ?_
    show Steps p.tables e below (T5.setTop (mkF m 13 #[.val (.int p1)] [(.ref b1)])) _
    exact retOut X5 hx Bd.returns rfl (Or.inr (Or.inr (Or.inr (Or.inr ⟨rfl, rfl, rfl⟩)))) (hb hby d1_13) hr
  · show Q1_2 Z p1 a2 h0 n0 _ T5.heap _
    exact ⟨b1, rfl, N5, KC6, sz0_b1, f5_0, f5_1, f5_2, f5_3, f5_4⟩
theorem ef4_3 (m : MethodId) (a1 : Addr) : entryFrame m #[(.ref a1)] 1 = mkF m 0 #[.val (.ref a1)] [] := by first | (simp [entryFrame, mkF, argsToLocals, Value.category]; done) | rfl
def Q4_3 (Z : State) (a1 : Addr) (a2 : Addr) (h0 : Heap) (n0 : Nat) (v : Option Value) (h : Heap) (L : List Loc) : Prop := v = some (.ref a2) ∧ Fr n0 L ∧ h = h0
set_option maxRecDepth 65536 in
set_option maxHeartbeats 40000000 in
theorem rm4_3 (l : Launch) (Z : State) (a0 : Array Value) (hw : ∀ d ∈ tables_1, d.before a0 Z = true) (ws : List Jvm.Cond) (a1 : Addr) (a2 : Addr) (h0 : Heap) (n0 : Nat) (Z0 : n0 ≤ h0.size) (F_a1_kind : Fld Z h0 a1 "com/example/referent/referent/RelativeResult" "kind" "Lcom/example/referent/referent/RelativeResult$Kind;" (.ref a2)) :
    MetFree l (⟨"com/example/referent/referent/RelativeResult", "kind", "()Lcom/example/referent/referent/RelativeResult$Kind;"⟩ : MethodName) (head1 (Jvm.Cond.code (⟨"com/example/referent/referent/RelativeResult", "kind", "()Lcom/example/referent/referent/RelativeResult$Kind;"⟩ : MethodName) prog_19_method_5_code 1 (some (.object "com/example/referent/referent/RelativeResult$Kind")) :: ws) ({ frames := 0, cells := 0, slots := 0, locals := 0 } : Room)) (fun a U => a = #[(.ref a1)] ∧ Z.Warmed39 U.vm ∧ U.heap = h0) (fun _ _ _ _ _ => True) (fun _ U o U' => ∃ v L, o = .returned v ∧ Q4_3 Z a1 a2 h0 n0 v U'.heap L ∧ FrameEnd U o U' L ({ frames := 0, cells := 0, slots := 0, locals := 0 } : Room).cells ({ frames := 0, cells := 0, slots := 0, locals := 0 } : Room).slots) := by
  refine MetFree.of_bodySF (plainFor_of_name pn_com_example_referent_referent_RelativeResult) hisR ?_
  intro p e s m args below meth c s₁ Bd hml0 hP hK
  obtain ⟨rfl, hZ, hh⟩ := hP
  have hx := Bd.exec
  have hby := Bd.bytes
  have hml : c.maxLocals = 1 := hml0
  have hown : s.vm.findClass "com/example/referent/referent/RelativeResult" = some m.cls := findClass_of_methodNamed Bd.named
  have hnm := (name_of_methodNamed Bd.named Bd.method).1
  have X0 : Stand p l e ({ frames := 0, cells := 0, slots := 0, locals := 0 } : Room) s m #[(.ref a1)] below meth c s₁ [] 0 0 := Stand.of_body Bd
  have e0 : s₁.heap = h0 := by rw [← hh, Bd.state]; rfl
  have N0 := Fr.nil n0
  have pre0 : ∀ t, Steps p.tables e below (s₁.setTop (mkF m 0 #[.val (.ref a1)] [])) t → Steps p.tables e below (s₁.setTop (entryFrame m #[(.ref a1)] 1)) t := fun t k => castTop (ef4_3 m a1) k
  obtain ⟨T1, X1, e1, st1⟩ := getF X0 hx hZ hown (host := "") (Or.inl (own_w15 hw)) Via.refl e0 F_a1_kind (g := (mkF m 1 #[.val (.ref a1)] [(.ref a1)])) rfl rfl (hb hby d4_1)
  obtain ⟨fs, hr, hrun, hended, hW, hsame⟩ := X1.leave (v := some (.ref a2)) (fun h => by rw [Bd.returns] at h; cases h)
  refine ⟨_, _, pre0 _ ?_, hrun, hended, _, _, rfl, ?_, ⟨_, rfl⟩, hW, hsame.mono (by decide) (by decide)⟩
  · show Steps p.tables e below (s₁.setTop (mkF m 0 #[.val (.ref a1)] [])) _
    refine XS.aloadN X0.here hx rfl (hb hby d4_0) rfl rfl ?_
    show Steps p.tables e below (s₁.setTop (mkF m 1 #[.val (.ref a1)] [(.ref a1)])) _
    refine st1 _ ?_
    show Steps p.tables e below (T1.setTop (mkF m 4 #[.val (.ref a1)] [(.ref a2)])) _
    exact retOut X1 hx Bd.returns rfl (Or.inr (Or.inr (Or.inr (Or.inr ⟨rfl, rfl, rfl⟩)))) (hb hby d4_4) hr
  · show Q4_3 Z a1 a2 h0 n0 _ T1.heap _
    rw [e1]
    exact ⟨rfl, N0, rfl⟩
theorem ef5_4 (m : MethodId) (a1 : Addr) : entryFrame m #[(.ref a1)] 1 = mkF m 0 #[.val (.ref a1)] [] := by first | (simp [entryFrame, mkF, argsToLocals, Value.category]; done) | rfl
def Q5_4 (Z : State) (a1 : Addr) (p2 : Int32) (h0 : Heap) (n0 : Nat) (v : Option Value) (h : Heap) (L : List Loc) : Prop := v = some (.int p2) ∧ Fr n0 L ∧ h = h0
set_option maxRecDepth 65536 in
set_option maxHeartbeats 40000000 in
theorem rm5_4 (l : Launch) (Z : State) (a0 : Array Value) (hw : ∀ d ∈ tables_1, d.before a0 Z = true) (ws : List Jvm.Cond) (a1 : Addr) (p2 : Int32) (h0 : Heap) (n0 : Nat) (Z0 : n0 ≤ h0.size) (F_a1_index : Fld Z h0 a1 "com/example/referent/referent/RelativeResult" "index" "I" (.int p2)) :
    MetFree l (⟨"com/example/referent/referent/RelativeResult", "index", "()I"⟩ : MethodName) (head1 (Jvm.Cond.code (⟨"com/example/referent/referent/RelativeResult", "index", "()I"⟩ : MethodName) prog_19_method_8_code 1 (some .int) :: ws) ({ frames := 0, cells := 0, slots := 0, locals := 0 } : Room)) (fun a U => a = #[(.ref a1)] ∧ Z.Warmed39 U.vm ∧ U.heap = h0) (fun _ _ _ _ _ => True) (fun _ U o U' => ∃ v L, o = .returned v ∧ Q5_4 Z a1 p2 h0 n0 v U'.heap L ∧ FrameEnd U o U' L ({ frames := 0, cells := 0, slots := 0, locals := 0 } : Room).cells ({ frames := 0, cells := 0, slots := 0, locals := 0 } : Room).slots) := by
  refine MetFree.of_bodySF (plainFor_of_name pn_com_example_referent_referent_RelativeResult) hisR ?_
  intro p e s m args below meth c s₁ Bd hml0 hP hK
  obtain ⟨rfl, hZ, hh⟩ := hP
  have hx := Bd.exec
  have hby := Bd.bytes
  have hml : c.maxLocals = 1 := hml0
  have hown : s.vm.findClass "com/example/referent/referent/RelativeResult" = some m.cls := findClass_of_methodNamed Bd.named
  have hnm := (name_of_methodNamed Bd.named Bd.method).1
  have X0 : Stand p l e ({ frames := 0, cells := 0, slots := 0, locals := 0 } : Room) s m #[(.ref a1)] below meth c s₁ [] 0 0 := Stand.of_body Bd
  have e0 : s₁.heap = h0 := by rw [← hh, Bd.state]; rfl
  have N0 := Fr.nil n0
  have pre0 : ∀ t, Steps p.tables e below (s₁.setTop (mkF m 0 #[.val (.ref a1)] [])) t → Steps p.tables e below (s₁.setTop (entryFrame m #[(.ref a1)] 1)) t := fun t k => castTop (ef5_4 m a1) k
  obtain ⟨T1, X1, e1, st1⟩ := getF X0 hx hZ hown (host := "") (Or.inl (own_w21 hw)) Via.refl e0 F_a1_index (g := (mkF m 1 #[.val (.ref a1)] [(.ref a1)])) rfl rfl (hb hby d5_1)
  obtain ⟨fs, hr, hrun, hended, hW, hsame⟩ := X1.leave (v := some (.int p2)) (fun h => by rw [Bd.returns] at h; cases h)
  refine ⟨_, _, pre0 _ ?_, hrun, hended, _, _, rfl, ?_, ⟨_, rfl⟩, hW, hsame.mono (by decide) (by decide)⟩
  · show Steps p.tables e below (s₁.setTop (mkF m 0 #[.val (.ref a1)] [])) _
    refine XS.aloadN X0.here hx rfl (hb hby d5_0) rfl rfl ?_
    show Steps p.tables e below (s₁.setTop (mkF m 1 #[.val (.ref a1)] [(.ref a1)])) _
    refine st1 _ ?_
    show Steps p.tables e below (T1.setTop (mkF m 4 #[.val (.ref a1)] [(.int p2)])) _
    exact retI X1 hx Bd.returns (hb hby d5_4) hr
  · show Q5_4 Z a1 p2 h0 n0 _ T1.heap _
    rw [e1]
    exact ⟨rfl, N0, rfl⟩
theorem ef6_5 (m : MethodId) (a1 : Addr) : entryFrame m #[(.ref a1)] 1 = mkF m 0 #[.val (.ref a1)] [] := by first | (simp [entryFrame, mkF, argsToLocals, Value.category]; done) | rfl
def Q6_5 (Z : State) (a1 : Addr) (h0 : Heap) (n0 : Nat) (v : Option Value) (h : Heap) (L : List Loc) : Prop := v = some .null ∧ Fr n0 L ∧ h = h0
set_option maxRecDepth 65536 in
set_option maxHeartbeats 40000000 in
theorem rm6_5 (l : Launch) (Z : State) (a0 : Array Value) (hw : ∀ d ∈ tables_1, d.before a0 Z = true) (ws : List Jvm.Cond) (a1 : Addr) (h0 : Heap) (n0 : Nat) (Z0 : n0 ≤ h0.size) (F_a1_name : Fld Z h0 a1 "com/example/referent/referent/RelativeResult" "name" "Ljava/lang/String;" .null) :
    MetFree l (⟨"com/example/referent/referent/RelativeResult", "name", "()Ljava/lang/String;"⟩ : MethodName) (head1 (Jvm.Cond.code (⟨"com/example/referent/referent/RelativeResult", "name", "()Ljava/lang/String;"⟩ : MethodName) prog_19_method_7_code 1 (some (.object "java/lang/String")) :: ws) ({ frames := 0, cells := 0, slots := 0, locals := 0 } : Room)) (fun a U => a = #[(.ref a1)] ∧ Z.Warmed39 U.vm ∧ U.heap = h0) (fun _ _ _ _ _ => True) (fun _ U o U' => ∃ v L, o = .returned v ∧ Q6_5 Z a1 h0 n0 v U'.heap L ∧ FrameEnd U o U' L ({ frames := 0, cells := 0, slots := 0, locals := 0 } : Room).cells ({ frames := 0, cells := 0, slots := 0, locals := 0 } : Room).slots) := by
  refine MetFree.of_bodySF (plainFor_of_name pn_com_example_referent_referent_RelativeResult) hisR ?_
  intro p e s m args below meth c s₁ Bd hml0 hP hK
  obtain ⟨rfl, hZ, hh⟩ := hP
  have hx := Bd.exec
  have hby := Bd.bytes
  have hml : c.maxLocals = 1 := hml0
  have hown : s.vm.findClass "com/example/referent/referent/RelativeResult" = some m.cls := findClass_of_methodNamed Bd.named
  have hnm := (name_of_methodNamed Bd.named Bd.method).1
  have X0 : Stand p l e ({ frames := 0, cells := 0, slots := 0, locals := 0 } : Room) s m #[(.ref a1)] below meth c s₁ [] 0 0 := Stand.of_body Bd
  have e0 : s₁.heap = h0 := by rw [← hh, Bd.state]; rfl
  have N0 := Fr.nil n0
  have pre0 : ∀ t, Steps p.tables e below (s₁.setTop (mkF m 0 #[.val (.ref a1)] [])) t → Steps p.tables e below (s₁.setTop (entryFrame m #[(.ref a1)] 1)) t := fun t k => castTop (ef6_5 m a1) k
  obtain ⟨T1, X1, e1, st1⟩ := getF X0 hx hZ hown (host := "") (Or.inl (own_w19 hw)) Via.refl e0 F_a1_name (g := (mkF m 1 #[.val (.ref a1)] [(.ref a1)])) rfl rfl (hb hby d6_1)
  obtain ⟨fs, hr, hrun, hended, hW, hsame⟩ := X1.leave (v := some .null) (fun h => by rw [Bd.returns] at h; cases h)
  refine ⟨_, _, pre0 _ ?_, hrun, hended, _, _, rfl, ?_, ⟨_, rfl⟩, hW, hsame.mono (by decide) (by decide)⟩
  · show Steps p.tables e below (s₁.setTop (mkF m 0 #[.val (.ref a1)] [])) _
    refine XS.aloadN X0.here hx rfl (hb hby d6_0) rfl rfl ?_
    show Steps p.tables e below (s₁.setTop (mkF m 1 #[.val (.ref a1)] [(.ref a1)])) _
    refine st1 _ ?_
    show Steps p.tables e below (T1.setTop (mkF m 4 #[.val (.ref a1)] [.null])) _
    exact retOut X1 hx Bd.returns rfl (Or.inr (Or.inr (Or.inr (Or.inr ⟨rfl, rfl, rfl⟩)))) (hb hby d6_4) hr
  · show Q6_5 Z a1 h0 n0 _ T1.heap _
    rw [e1]
    exact ⟨rfl, N0, rfl⟩
theorem ef7_6 (m : MethodId) (a1 : Addr) : entryFrame m #[(.ref a1)] 1 = mkF m 0 #[.val (.ref a1)] [] := by first | (simp [entryFrame, mkF, argsToLocals, Value.category]; done) | rfl
def Q7_6 (Z : State) (a1 : Addr) (h0 : Heap) (n0 : Nat) (v : Option Value) (h : Heap) (L : List Loc) : Prop := v = some .null ∧ Fr n0 L ∧ h = h0
set_option maxRecDepth 65536 in
set_option maxHeartbeats 40000000 in
theorem rm7_6 (l : Launch) (Z : State) (a0 : Array Value) (hw : ∀ d ∈ tables_1, d.before a0 Z = true) (ws : List Jvm.Cond) (a1 : Addr) (h0 : Heap) (n0 : Nat) (Z0 : n0 ≤ h0.size) (F_a1_node : Fld Z h0 a1 "com/example/referent/referent/RelativeResult" "node" "Ljava/lang/Object;" .null) :
    MetFree l (⟨"com/example/referent/referent/RelativeResult", "node", "()Ljava/lang/Object;"⟩ : MethodName) (head1 (Jvm.Cond.code (⟨"com/example/referent/referent/RelativeResult", "node", "()Ljava/lang/Object;"⟩ : MethodName) prog_19_method_6_code 1 (some (.object "java/lang/Object")) :: ws) ({ frames := 0, cells := 0, slots := 0, locals := 0 } : Room)) (fun a U => a = #[(.ref a1)] ∧ Z.Warmed39 U.vm ∧ U.heap = h0) (fun _ _ _ _ _ => True) (fun _ U o U' => ∃ v L, o = .returned v ∧ Q7_6 Z a1 h0 n0 v U'.heap L ∧ FrameEnd U o U' L ({ frames := 0, cells := 0, slots := 0, locals := 0 } : Room).cells ({ frames := 0, cells := 0, slots := 0, locals := 0 } : Room).slots) := by
  refine MetFree.of_bodySF (plainFor_of_name pn_com_example_referent_referent_RelativeResult) hisR ?_
  intro p e s m args below meth c s₁ Bd hml0 hP hK
  obtain ⟨rfl, hZ, hh⟩ := hP
  have hx := Bd.exec
  have hby := Bd.bytes
  have hml : c.maxLocals = 1 := hml0
  have hown : s.vm.findClass "com/example/referent/referent/RelativeResult" = some m.cls := findClass_of_methodNamed Bd.named
  have hnm := (name_of_methodNamed Bd.named Bd.method).1
  have X0 : Stand p l e ({ frames := 0, cells := 0, slots := 0, locals := 0 } : Room) s m #[(.ref a1)] below meth c s₁ [] 0 0 := Stand.of_body Bd
  have e0 : s₁.heap = h0 := by rw [← hh, Bd.state]; rfl
  have N0 := Fr.nil n0
  have pre0 : ∀ t, Steps p.tables e below (s₁.setTop (mkF m 0 #[.val (.ref a1)] [])) t → Steps p.tables e below (s₁.setTop (entryFrame m #[(.ref a1)] 1)) t := fun t k => castTop (ef7_6 m a1) k
  obtain ⟨T1, X1, e1, st1⟩ := getF X0 hx hZ hown (host := "") (Or.inl (own_w17 hw)) Via.refl e0 F_a1_node (g := (mkF m 1 #[.val (.ref a1)] [(.ref a1)])) rfl rfl (hb hby d7_1)
  obtain ⟨fs, hr, hrun, hended, hW, hsame⟩ := X1.leave (v := some .null) (fun h => by rw [Bd.returns] at h; cases h)
  refine ⟨_, _, pre0 _ ?_, hrun, hended, _, _, rfl, ?_, ⟨_, rfl⟩, hW, hsame.mono (by decide) (by decide)⟩
  · show Steps p.tables e below (s₁.setTop (mkF m 0 #[.val (.ref a1)] [])) _
    refine XS.aloadN X0.here hx rfl (hb hby d7_0) rfl rfl ?_
    show Steps p.tables e below (s₁.setTop (mkF m 1 #[.val (.ref a1)] [(.ref a1)])) _
    refine st1 _ ?_
    show Steps p.tables e below (T1.setTop (mkF m 4 #[.val (.ref a1)] [.null])) _
    exact retOut X1 hx Bd.returns rfl (Or.inr (Or.inr (Or.inr (Or.inr ⟨rfl, rfl, rfl⟩)))) (hb hby d7_4) hr
  · show Q7_6 Z a1 h0 n0 _ T1.heap _
    rw [e1]
    exact ⟨rfl, N0, rfl⟩
theorem ef9_7 (m : MethodId) : entryFrame m #[.null, .null] 2 = mkF m 0 #[.val .null, .val .null] [] := by first | (simp [entryFrame, mkF, argsToLocals, Value.category]; done) | rfl
def Q9_7 (Z : State) (h0 : Heap) (n0 : Nat) (v : Option Value) (h : Heap) (L : List Loc) : Prop := v = some (.int (1 : Int32)) ∧ Fr n0 L ∧ h = h0
set_option maxRecDepth 65536 in
set_option maxHeartbeats 40000000 in
theorem rm9_7 (l : Launch) (Z : State) (a0 : Array Value) (hw : ∀ d ∈ tables_1, d.before a0 Z = true) (ws : List Jvm.Cond) (h0 : Heap) (n0 : Nat) (Z0 : n0 ≤ h0.size) :
    MetFree l (⟨"java/util/Objects", "equals", "(Ljava/lang/Object;Ljava/lang/Object;)Z"⟩ : MethodName) (head1 (Jvm.Cond.code (⟨"java/util/Objects", "equals", "(Ljava/lang/Object;Ljava/lang/Object;)Z"⟩ : MethodName) jdk_31_method_2_code 2 (some .boolean) :: ws) ({ frames := 0, cells := 0, slots := 0, locals := 0 } : Room)) (fun a U => a = #[.null, .null] ∧ Z.Warmed39 U.vm ∧ U.heap = h0) (fun _ _ _ _ _ => True) (fun _ U o U' => ∃ v L, o = .returned v ∧ Q9_7 Z h0 n0 v U'.heap L ∧ FrameEnd U o U' L ({ frames := 0, cells := 0, slots := 0, locals := 0 } : Room).cells ({ frames := 0, cells := 0, slots := 0, locals := 0 } : Room).slots) := by
  refine MetFree.of_bodySF (plainFor_of_name pn_java_util_Objects) hisR ?_
  intro p e s m args below meth c s₁ Bd hml0 hP hK
  obtain ⟨rfl, hZ, hh⟩ := hP
  have hx := Bd.exec
  have hby := Bd.bytes
  have hml : c.maxLocals = 2 := hml0
  have hown : s.vm.findClass "java/util/Objects" = some m.cls := findClass_of_methodNamed Bd.named
  have hnm := (name_of_methodNamed Bd.named Bd.method).1
  have X0 : Stand p l e ({ frames := 0, cells := 0, slots := 0, locals := 0 } : Room) s m #[.null, .null] below meth c s₁ [] 0 0 := Stand.of_body Bd
  have e0 : s₁.heap = h0 := by rw [← hh, Bd.state]; rfl
  have N0 := Fr.nil n0
  have pre0 : ∀ t, Steps p.tables e below (s₁.setTop (mkF m 0 #[.val .null, .val .null] [])) t → Steps p.tables e below (s₁.setTop (entryFrame m #[.null, .null] 2)) t := fun t k => castTop (ef9_7 m) k
  obtain ⟨fs, hr, hrun, hended, hW, hsame⟩ := X0.leave (v := some (.int (1 : Int32))) (fun h => by rw [Bd.returns] at h; cases h)
  refine ⟨_, _, pre0 _ ?_, hrun, hended, _, _, rfl, ?_, ⟨_, rfl⟩, hW, hsame.mono (by decide) (by decide)⟩
  · show Steps p.tables e below (s₁.setTop (mkF m 0 #[.val .null, .val .null] [])) _
    refine XS.aloadN X0.here hx rfl (hb hby d9_0) rfl rfl ?_
    show Steps p.tables e below (s₁.setTop (mkF m 1 #[.val .null, .val .null] [.null])) _
    refine XS.aloadN X0.here hx rfl (hb hby d9_1) rfl rfl ?_
    show Steps p.tables e below (s₁.setTop (mkF m 2 #[.val .null, .val .null] [.null, .null])) _
    refine Jvm.RoadKit.acmp (g := (mkF m 2 #[.val .null, .val .null] [.null, .null])) X0 hx rfl rfl rfl (pc0 := 2) (pc' := 17) (same := true) rfl (hb hby d9_2) rfl (decide_eq_true rfl) (by decide) (by decide) ?_
    show Steps p.tables e below (s₁.setTop (mkF m 17 #[.val .null, .val .null] [])) _
    refine XS.iconst X0.here hx rfl (hb hby d9_17) ?_
    show Steps p.tables e below (s₁.setTop (mkF m 18 #[.val .null, .val .null] [(.int (1 : Int32))])) _
    refine XS.goto X0.here hx rfl (pc0 := 18) (pc' := 22) rfl (hb hby d9_18) (by decide) (by decide) ?_
    show Steps p.tables e below (s₁.setTop (mkF m 22 #[.val .null, .val .null] [(.int (1 : Int32))])) _
    exact retN X0 hx (t := .boolean) Bd.returns (by simp) (hb hby d9_22) hr
  · show Q9_7 Z h0 n0 _ s₁.heap _
    rw [e0]
    exact ⟨rfl, N0, rfl⟩
theorem ef8_8 (m : MethodId) (a1 : Addr) (a2 : Addr) : entryFrame m #[(.ref a1), (.ref a2)] 3 = mkF m 0 #[.val (.ref a1), .val (.ref a2), .unset] [] := by first | (simp [entryFrame, mkF, argsToLocals, Value.category]; done) | rfl
def Q8_8 (Z : State) (a1 : Addr) (a2 : Addr) (a3 : Addr) (p4 : Int32) (h0 : Heap) (n0 : Nat) (v : Option Value) (h : Heap) (L : List Loc) : Prop := v = some (.int (1 : Int32)) ∧ Fr n0 L ∧ h = h0
set_option maxRecDepth 65536 in
set_option maxHeartbeats 40000000 in
theorem rm8_8 (l : Launch) (Z : State) (a0 : Array Value) (hw : ∀ d ∈ tables_1, d.before a0 Z = true) (ws : List Jvm.Cond) (a1 : Addr) (a2 : Addr) (a3 : Addr) (p4 : Int32) (h0 : Heap) (n0 : Nat) (Z0 : n0 ≤ h0.size) (E_a2 : Exa Z h0 a2 "com/example/referent/referent/RelativeResult") (F_a1_kind : Fld Z h0 a1 "com/example/referent/referent/RelativeResult" "kind" "Lcom/example/referent/referent/RelativeResult$Kind;" (.ref a3)) (F_a2_kind : Fld Z h0 a2 "com/example/referent/referent/RelativeResult" "kind" "Lcom/example/referent/referent/RelativeResult$Kind;" (.ref a3)) (F_a1_index : Fld Z h0 a1 "com/example/referent/referent/RelativeResult" "index" "I" (.int p4)) (F_a2_index : Fld Z h0 a2 "com/example/referent/referent/RelativeResult" "index" "I" (.int p4)) (F_a1_name : Fld Z h0 a1 "com/example/referent/referent/RelativeResult" "name" "Ljava/lang/String;" .null) (F_a2_name : Fld Z h0 a2 "com/example/referent/referent/RelativeResult" "name" "Ljava/lang/String;" .null) (F_a1_node : Fld Z h0 a1 "com/example/referent/referent/RelativeResult" "node" "Ljava/lang/Object;" .null) (F_a2_node : Fld Z h0 a2 "com/example/referent/referent/RelativeResult" "node" "Ljava/lang/Object;" .null) :
    MetFree l (⟨"com/example/referent/referent/RelativeResult", "equals", "(Ljava/lang/Object;)Z"⟩ : MethodName) (head1 (Jvm.Cond.code (⟨"com/example/referent/referent/RelativeResult", "equals", "(Ljava/lang/Object;)Z"⟩ : MethodName) prog_19_method_9_code 3 (some .boolean) :: ws) ({ frames := 1, cells := 0, slots := 0, locals := 13 } : Room)) (fun a U => a = #[(.ref a1), (.ref a2)] ∧ Z.Warmed39 U.vm ∧ U.heap = h0) (fun _ _ _ _ _ => True) (fun _ U o U' => ∃ v L, o = .returned v ∧ Q8_8 Z a1 a2 a3 p4 h0 n0 v U'.heap L ∧ FrameEnd U o U' L ({ frames := 1, cells := 0, slots := 0, locals := 13 } : Room).cells ({ frames := 1, cells := 0, slots := 0, locals := 13 } : Room).slots) := by
  refine MetFree.of_bodySF (plainFor_of_name pn_com_example_referent_referent_RelativeResult) hisR ?_
  intro p e s m args below meth c s₁ Bd hml0 hP hK
  obtain ⟨rfl, hZ, hh⟩ := hP
  have hx := Bd.exec
  have hby := Bd.bytes
  have hml : c.maxLocals = 3 := hml0
  have hown : s.vm.findClass "com/example/referent/referent/RelativeResult" = some m.cls := findClass_of_methodNamed Bd.named
  have hnm := (name_of_methodNamed Bd.named Bd.method).1
  have X0 : Stand p l e ({ frames := 1, cells := 0, slots := 0, locals := 13 } : Room) s m #[(.ref a1), (.ref a2)] below meth c s₁ [] 0 0 := Stand.of_body Bd
  have e0 : s₁.heap = h0 := by rw [← hh, Bd.state]; rfl
  have N0 := Fr.nil n0
  have pre0 : ∀ t, Steps p.tables e below (s₁.setTop (mkF m 0 #[.val (.ref a1), .val (.ref a2), .unset] [])) t → Steps p.tables e below (s₁.setTop (entryFrame m #[(.ref a1), (.ref a2)] 3)) t := fun t k => castTop (ef8_8 m a1 a2) k
  obtain ⟨T1, X1, e1, st1⟩ := instY X0 hx hZ hown (own_w4 hw) e0 (Ins.self E_a2) (g := (mkF m 1 #[.val (.ref a1), .val (.ref a2), .unset] [(.ref a2)])) rfl rfl (hb hby d8_1)
  obtain ⟨T2, X2, e2, st2⟩ := castY X1 hx hZ hown (own_w4 hw) e1 (Ins.self E_a2) (g := (mkF m 8 #[.val (.ref a1), .val (.ref a2), .unset] [(.ref a2)])) rfl rfl (hb hby d8_8)
  obtain ⟨T3, X3, e3, st3⟩ := getF X2 hx hZ hown (host := "") (Or.inl (own_w15 hw)) Via.refl e2 F_a1_kind (g := (mkF m 13 #[.val (.ref a1), .val (.ref a2), .val (.ref a2)] [(.ref a1)])) rfl rfl (hb hby d8_13)
  obtain ⟨T4, X4, e4, st4⟩ := getF X3 hx hZ hown (host := "") (Or.inl (own_w15 hw)) Via.refl e3 F_a2_kind (g := (mkF m 17 #[.val (.ref a1), .val (.ref a2), .val (.ref a2)] [(.ref a2), (.ref a3)])) rfl rfl (hb hby d8_17)
  obtain ⟨T5, X5, e5, st5⟩ := getF X4 hx hZ hown (host := "") (Or.inl (own_w21 hw)) Via.refl e4 F_a1_index (g := (mkF m 24 #[.val (.ref a1), .val (.ref a2), .val (.ref a2)] [(.ref a1)])) rfl rfl (hb hby d8_24)
  obtain ⟨T6, X6, e6, st6⟩ := getF X5 hx hZ hown (host := "") (Or.inl (own_w21 hw)) Via.refl e5 F_a2_index (g := (mkF m 28 #[.val (.ref a1), .val (.ref a2), .val (.ref a2)] [(.ref a2), (.int p4)])) rfl rfl (hb hby d8_28)
  obtain ⟨T7, X7, e7, st7⟩ := getF X6 hx hZ hown (host := "") (Or.inl (own_w19 hw)) Via.refl e6 F_a1_name (g := (mkF m 35 #[.val (.ref a1), .val (.ref a2), .val (.ref a2)] [(.ref a1)])) rfl rfl (hb hby d8_35)
  obtain ⟨T8, X8, e8, st8⟩ := getF X7 hx hZ hown (host := "") (Or.inl (own_w19 hw)) Via.refl e7 F_a2_name (g := (mkF m 39 #[.val (.ref a1), .val (.ref a2), .val (.ref a2)] [(.ref a2), .null])) rfl rfl (hb hby d8_39)
  obtain ⟨_, _, ⟨T9, L9, k9, n9⟩, -, X9, ⟨Lc9, hQ9, l9, y9, z9⟩, st9⟩ := Jvm.LawKit.callS X8 hx (y := (⟨"java/util/Objects", "equals", "(Ljava/lang/Object;Ljava/lang/Object;)Z"⟩ : MethodName)) hown (mvT hZ (own_w50 hw)) (mvT hZ (own_w51 hw)) (mvT hZ (own_w52 hw)) (mvT hZ (own_w53 hw)) (by decide) (backOf (W := 0) (rm9_7 l Z a0 hw []  h0 n0 Z0 ) hZ (own_w53 hw) (own_w52 hw) (by decide) (by decide)) (g := (mkF m 42 #[.val (.ref a1), .val (.ref a2), .val (.ref a2)] [.null, .null])) rfl (by rw [hml]; rfl) (argsL := [.null, .null]) (rest := []) (lenOf pd__Ljava_lang_Object_Ljava_lang_Object__Z rfl) rfl (by show 2 * 0 + _ ≤ _; exact Nat.le_of_eq rfl) (hb hby d8_42) (fun _ _ => ⟨rfl, e8, (by decide : 0 + 0 ≤ _), (by decide : 0 + 0 ≤ _)⟩)
  dsimp only [Pt.U, Pt.locs, Pt.cells, Pt.slots] at X9 l9 y9 z9 st9 hQ9
  subst l9 y9 z9
  obtain ⟨rfl, N9q, e9⟩ := hQ9
  have N9 := Fr.app N0 N9q
  obtain ⟨T10, X10, e10, st10⟩ := getF X9 hx hZ hown (host := "") (Or.inl (own_w17 hw)) Via.refl e9 F_a1_node (g := (mkF m 49 #[.val (.ref a1), .val (.ref a2), .val (.ref a2)] [(.ref a1)])) rfl rfl (hb hby d8_49)
  obtain ⟨T11, X11, e11, st11⟩ := getF X10 hx hZ hown (host := "") (Or.inl (own_w17 hw)) Via.refl e10 F_a2_node (g := (mkF m 53 #[.val (.ref a1), .val (.ref a2), .val (.ref a2)] [(.ref a2), .null])) rfl rfl (hb hby d8_53)
  obtain ⟨_, _, ⟨T12, L12, k12, n12⟩, -, X12, ⟨Lc12, hQ12, l12, y12, z12⟩, st12⟩ := Jvm.LawKit.callS X11 hx (y := (⟨"java/util/Objects", "equals", "(Ljava/lang/Object;Ljava/lang/Object;)Z"⟩ : MethodName)) hown (mvT hZ (own_w50 hw)) (mvT hZ (own_w51 hw)) (mvT hZ (own_w52 hw)) (mvT hZ (own_w53 hw)) (by decide) (backOf (W := 0) (rm9_7 l Z a0 hw []  h0 n0 Z0 ) hZ (own_w53 hw) (own_w52 hw) (by decide) (by decide)) (g := (mkF m 56 #[.val (.ref a1), .val (.ref a2), .val (.ref a2)] [.null, .null])) rfl (by rw [hml]; rfl) (argsL := [.null, .null]) (rest := []) (lenOf pd__Ljava_lang_Object_Ljava_lang_Object__Z rfl) rfl (by show 2 * 0 + _ ≤ _; exact Nat.le_of_eq rfl) (hb hby d8_56) (fun _ _ => ⟨rfl, e11, (by decide : 0 + 0 ≤ _), (by decide : 0 + 0 ≤ _)⟩)
  dsimp only [Pt.U, Pt.locs, Pt.cells, Pt.slots] at X12 l12 y12 z12 st12 hQ12
  subst l12 y12 z12
  obtain ⟨rfl, N12q, e12⟩ := hQ12
  have N12 := Fr.app N9 N12q
  obtain ⟨fs, hr, hrun, hended, hW, hsame⟩ := X12.leave (v := some (.int (1 : Int32))) (fun h => by rw [Bd.returns] at h; cases h)
  refine ⟨_, _, pre0 _ ?_, hrun, hended, _, _, rfl, ?_, ⟨_, rfl⟩, hW, hsame.mono (by decide) (by decide)⟩
  · show Steps p.tables e below (s₁.setTop (mkF m 0 #[.val (.ref a1), .val (.ref a2), .unset] [])) _
    refine XS.aloadN X0.here hx rfl (hb hby d8_0) rfl rfl ?_
    show Steps p.tables e below (s₁.setTop (mkF m 1 #[.val (.ref a1), .val (.ref a2), .unset] [(.ref a2)])) _
    refine st1 _ ?_
    show Steps p.tables e below (T1.setTop (mkF m 4 #[.val (.ref a1), .val (.ref a2), .unset] [(.int (1 : Int32))])) _
    refine XS.ifNo X1.here hx rfl (hb hby d8_4) rfl ((if0 _ _).trans (feq (by decide : ¬ ((1 : Int32) = (0 : Int32)))).1) ?_
    show Steps p.tables e below (T1.setTop (mkF m 7 #[.val (.ref a1), .val (.ref a2), .unset] [])) _
    refine XS.aloadN X1.here hx rfl (hb hby d8_7) rfl rfl ?_
    show Steps p.tables e below (T1.setTop (mkF m 8 #[.val (.ref a1), .val (.ref a2), .unset] [(.ref a2)])) _
    refine st2 _ ?_
    show Steps p.tables e below (T2.setTop (mkF m 11 #[.val (.ref a1), .val (.ref a2), .unset] [(.ref a2)])) _
    refine XS.astoreN X2.here hx rfl (hb hby d8_11) rfl rfl (l' := #[.val (.ref a1), .val (.ref a2), .val (.ref a2)]) rfl ?_
    show Steps p.tables e below (T2.setTop (mkF m 12 #[.val (.ref a1), .val (.ref a2), .val (.ref a2)] [])) _
    refine XS.aloadN X2.here hx rfl (hb hby d8_12) rfl rfl ?_
    show Steps p.tables e below (T2.setTop (mkF m 13 #[.val (.ref a1), .val (.ref a2), .val (.ref a2)] [(.ref a1)])) _
    refine st3 _ ?_
    show Steps p.tables e below (T3.setTop (mkF m 16 #[.val (.ref a1), .val (.ref a2), .val (.ref a2)] [(.ref a3)])) _
    refine XS.aloadN X3.here hx rfl (hb hby d8_16) rfl rfl ?_
    show Steps p.tables e below (T3.setTop (mkF m 17 #[.val (.ref a1), .val (.ref a2), .val (.ref a2)] [(.ref a2), (.ref a3)])) _
    refine st4 _ ?_
    show Steps p.tables e below (T4.setTop (mkF m 20 #[.val (.ref a1), .val (.ref a2), .val (.ref a2)] [(.ref a3), (.ref a3)])) _
    refine Jvm.RoadKit.acmp (g := (mkF m 20 #[.val (.ref a1), .val (.ref a2), .val (.ref a2)] [(.ref a3), (.ref a3)])) X4 hx rfl rfl rfl (pc0 := 20) (pc' := 23) (same := true) rfl (hb hby d8_20) rfl (decide_eq_true rfl) (by decide) (by decide) ?_
    show Steps p.tables e below (T4.setTop (mkF m 23 #[.val (.ref a1), .val (.ref a2), .val (.ref a2)] [])) _
    refine XS.aloadN X4.here hx rfl (hb hby d8_23) rfl rfl ?_
    show Steps p.tables e below (T4.setTop (mkF m 24 #[.val (.ref a1), .val (.ref a2), .val (.ref a2)] [(.ref a1)])) _
    refine st5 _ ?_
    show Steps p.tables e below (T5.setTop (mkF m 27 #[.val (.ref a1), .val (.ref a2), .val (.ref a2)] [(.int p4)])) _
    refine XS.aloadN X5.here hx rfl (hb hby d8_27) rfl rfl ?_
    show Steps p.tables e below (T5.setTop (mkF m 28 #[.val (.ref a1), .val (.ref a2), .val (.ref a2)] [(.ref a2), (.int p4)])) _
    refine st6 _ ?_
    show Steps p.tables e below (T6.setTop (mkF m 31 #[.val (.ref a1), .val (.ref a2), .val (.ref a2)] [(.int p4), (.int p4)])) _
    refine XS.icmpNo X6.here hx rfl (hb hby d8_31) rfl (teq (rfl : p4 = p4)).2 ?_
    show Steps p.tables e below (T6.setTop (mkF m 34 #[.val (.ref a1), .val (.ref a2), .val (.ref a2)] [])) _
    refine XS.aloadN X6.here hx rfl (hb hby d8_34) rfl rfl ?_
    show Steps p.tables e below (T6.setTop (mkF m 35 #[.val (.ref a1), .val (.ref a2), .val (.ref a2)] [(.ref a1)])) _
    refine st7 _ ?_
    show Steps p.tables e below (T7.setTop (mkF m 38 #[.val (.ref a1), .val (.ref a2), .val (.ref a2)] [.null])) _
    refine XS.aloadN X7.here hx rfl (hb hby d8_38) rfl rfl ?_
    show Steps p.tables e below (T7.setTop (mkF m 39 #[.val (.ref a1), .val (.ref a2), .val (.ref a2)] [(.ref a2), .null])) _
    refine st8 _ ?_
    show Steps p.tables e below (T8.setTop (mkF m 42 #[.val (.ref a1), .val (.ref a2), .val (.ref a2)] [.null, .null])) _
    refine st9 _ ?_
    show Steps p.tables e below (T9.setTop (mkF m 45 #[.val (.ref a1), .val (.ref a2), .val (.ref a2)] [(.int (1 : Int32))])) _
    refine XS.ifNo X9.here hx rfl (hb hby d8_45) rfl ((if0 _ _).trans (feq (by decide : ¬ ((1 : Int32) = (0 : Int32)))).1) ?_
    show Steps p.tables e below (T9.setTop (mkF m 48 #[.val (.ref a1), .val (.ref a2), .val (.ref a2)] [])) _
    refine XS.aloadN X9.here hx rfl (hb hby d8_48) rfl rfl ?_
    show Steps p.tables e below (T9.setTop (mkF m 49 #[.val (.ref a1), .val (.ref a2), .val (.ref a2)] [(.ref a1)])) _
    refine st10 _ ?_
    show Steps p.tables e below (T10.setTop (mkF m 52 #[.val (.ref a1), .val (.ref a2), .val (.ref a2)] [.null])) _
    refine XS.aloadN X10.here hx rfl (hb hby d8_52) rfl rfl ?_
    show Steps p.tables e below (T10.setTop (mkF m 53 #[.val (.ref a1), .val (.ref a2), .val (.ref a2)] [(.ref a2), .null])) _
    refine st11 _ ?_
    show Steps p.tables e below (T11.setTop (mkF m 56 #[.val (.ref a1), .val (.ref a2), .val (.ref a2)] [.null, .null])) _
    refine st12 _ ?_
    show Steps p.tables e below (T12.setTop (mkF m 59 #[.val (.ref a1), .val (.ref a2), .val (.ref a2)] [(.int (1 : Int32))])) _
    refine XS.ifNo X12.here hx rfl (hb hby d8_59) rfl ((if0 _ _).trans (feq (by decide : ¬ ((1 : Int32) = (0 : Int32)))).1) ?_
    show Steps p.tables e below (T12.setTop (mkF m 62 #[.val (.ref a1), .val (.ref a2), .val (.ref a2)] [])) _
    refine XS.iconst X12.here hx rfl (hb hby d8_62) ?_
    show Steps p.tables e below (T12.setTop (mkF m 63 #[.val (.ref a1), .val (.ref a2), .val (.ref a2)] [(.int (1 : Int32))])) _
    refine XS.goto X12.here hx rfl (pc0 := 63) (pc' := 67) rfl (hb hby d8_63) (by decide) (by decide) ?_
    show Steps p.tables e below (T12.setTop (mkF m 67 #[.val (.ref a1), .val (.ref a2), .val (.ref a2)] [(.int (1 : Int32))])) _
    exact retN X12 hx (t := .boolean) Bd.returns (by simp) (hb hby d8_67) hr
  · show Q8_8 Z a1 a2 a3 p4 h0 n0 _ T12.heap _
    rw [e12]
    exact ⟨rfl, N12, rfl⟩
theorem ef8_9 (m : MethodId) (a1 : Addr) (a2 : Addr) : entryFrame m #[(.ref a1), (.ref a2)] 3 = mkF m 0 #[.val (.ref a1), .val (.ref a2), .unset] [] := by first | (simp [entryFrame, mkF, argsToLocals, Value.category]; done) | rfl
def Q8_9 (Z : State) (a1 : Addr) (a2 : Addr) (a3 : Addr) (p4 : Int32) (p5 : Int32) (h0 : Heap) (n0 : Nat) (v : Option Value) (h : Heap) (L : List Loc) : Prop := v = some (.int (1 : Int32)) ∧ Fr n0 L ∧ h = h0
set_option maxRecDepth 65536 in
set_option maxHeartbeats 40000000 in
theorem rm8_9 (l : Launch) (Z : State) (a0 : Array Value) (hw : ∀ d ∈ tables_1, d.before a0 Z = true) (ws : List Jvm.Cond) (a1 : Addr) (a2 : Addr) (a3 : Addr) (p4 : Int32) (p5 : Int32) (h0 : Heap) (n0 : Nat) (Z0 : n0 ≤ h0.size) (E_a2 : Exa Z h0 a2 "com/example/referent/referent/RelativeResult") (F_a1_kind : Fld Z h0 a1 "com/example/referent/referent/RelativeResult" "kind" "Lcom/example/referent/referent/RelativeResult$Kind;" (.ref a3)) (F_a2_kind : Fld Z h0 a2 "com/example/referent/referent/RelativeResult" "kind" "Lcom/example/referent/referent/RelativeResult$Kind;" (.ref a3)) (F_a1_index : Fld Z h0 a1 "com/example/referent/referent/RelativeResult" "index" "I" (.int p4)) (F_a2_index : Fld Z h0 a2 "com/example/referent/referent/RelativeResult" "index" "I" (.int p5)) (hc5 : p4 = p5) (F_a1_name : Fld Z h0 a1 "com/example/referent/referent/RelativeResult" "name" "Ljava/lang/String;" .null) (F_a2_name : Fld Z h0 a2 "com/example/referent/referent/RelativeResult" "name" "Ljava/lang/String;" .null) (F_a1_node : Fld Z h0 a1 "com/example/referent/referent/RelativeResult" "node" "Ljava/lang/Object;" .null) (F_a2_node : Fld Z h0 a2 "com/example/referent/referent/RelativeResult" "node" "Ljava/lang/Object;" .null) :
    MetFree l (⟨"com/example/referent/referent/RelativeResult", "equals", "(Ljava/lang/Object;)Z"⟩ : MethodName) (head1 (Jvm.Cond.code (⟨"com/example/referent/referent/RelativeResult", "equals", "(Ljava/lang/Object;)Z"⟩ : MethodName) prog_19_method_9_code 3 (some .boolean) :: ws) ({ frames := 1, cells := 0, slots := 0, locals := 13 } : Room)) (fun a U => a = #[(.ref a1), (.ref a2)] ∧ Z.Warmed39 U.vm ∧ U.heap = h0) (fun _ _ _ _ _ => True) (fun _ U o U' => ∃ v L, o = .returned v ∧ Q8_9 Z a1 a2 a3 p4 p5 h0 n0 v U'.heap L ∧ FrameEnd U o U' L ({ frames := 1, cells := 0, slots := 0, locals := 13 } : Room).cells ({ frames := 1, cells := 0, slots := 0, locals := 13 } : Room).slots) := by
  refine MetFree.of_bodySF (plainFor_of_name pn_com_example_referent_referent_RelativeResult) hisR ?_
  intro p e s m args below meth c s₁ Bd hml0 hP hK
  obtain ⟨rfl, hZ, hh⟩ := hP
  have hx := Bd.exec
  have hby := Bd.bytes
  have hml : c.maxLocals = 3 := hml0
  have hown : s.vm.findClass "com/example/referent/referent/RelativeResult" = some m.cls := findClass_of_methodNamed Bd.named
  have hnm := (name_of_methodNamed Bd.named Bd.method).1
  have X0 : Stand p l e ({ frames := 1, cells := 0, slots := 0, locals := 13 } : Room) s m #[(.ref a1), (.ref a2)] below meth c s₁ [] 0 0 := Stand.of_body Bd
  have e0 : s₁.heap = h0 := by rw [← hh, Bd.state]; rfl
  have N0 := Fr.nil n0
  have pre0 : ∀ t, Steps p.tables e below (s₁.setTop (mkF m 0 #[.val (.ref a1), .val (.ref a2), .unset] [])) t → Steps p.tables e below (s₁.setTop (entryFrame m #[(.ref a1), (.ref a2)] 3)) t := fun t k => castTop (ef8_9 m a1 a2) k
  obtain ⟨T1, X1, e1, st1⟩ := instY X0 hx hZ hown (own_w4 hw) e0 (Ins.self E_a2) (g := (mkF m 1 #[.val (.ref a1), .val (.ref a2), .unset] [(.ref a2)])) rfl rfl (hb hby d8_1)
  obtain ⟨T2, X2, e2, st2⟩ := castY X1 hx hZ hown (own_w4 hw) e1 (Ins.self E_a2) (g := (mkF m 8 #[.val (.ref a1), .val (.ref a2), .unset] [(.ref a2)])) rfl rfl (hb hby d8_8)
  obtain ⟨T3, X3, e3, st3⟩ := getF X2 hx hZ hown (host := "") (Or.inl (own_w15 hw)) Via.refl e2 F_a1_kind (g := (mkF m 13 #[.val (.ref a1), .val (.ref a2), .val (.ref a2)] [(.ref a1)])) rfl rfl (hb hby d8_13)
  obtain ⟨T4, X4, e4, st4⟩ := getF X3 hx hZ hown (host := "") (Or.inl (own_w15 hw)) Via.refl e3 F_a2_kind (g := (mkF m 17 #[.val (.ref a1), .val (.ref a2), .val (.ref a2)] [(.ref a2), (.ref a3)])) rfl rfl (hb hby d8_17)
  obtain ⟨T5, X5, e5, st5⟩ := getF X4 hx hZ hown (host := "") (Or.inl (own_w21 hw)) Via.refl e4 F_a1_index (g := (mkF m 24 #[.val (.ref a1), .val (.ref a2), .val (.ref a2)] [(.ref a1)])) rfl rfl (hb hby d8_24)
  obtain ⟨T6, X6, e6, st6⟩ := getF X5 hx hZ hown (host := "") (Or.inl (own_w21 hw)) Via.refl e5 F_a2_index (g := (mkF m 28 #[.val (.ref a1), .val (.ref a2), .val (.ref a2)] [(.ref a2), (.int p4)])) rfl rfl (hb hby d8_28)
  obtain ⟨T7, X7, e7, st7⟩ := getF X6 hx hZ hown (host := "") (Or.inl (own_w19 hw)) Via.refl e6 F_a1_name (g := (mkF m 35 #[.val (.ref a1), .val (.ref a2), .val (.ref a2)] [(.ref a1)])) rfl rfl (hb hby d8_35)
  obtain ⟨T8, X8, e8, st8⟩ := getF X7 hx hZ hown (host := "") (Or.inl (own_w19 hw)) Via.refl e7 F_a2_name (g := (mkF m 39 #[.val (.ref a1), .val (.ref a2), .val (.ref a2)] [(.ref a2), .null])) rfl rfl (hb hby d8_39)
  obtain ⟨_, _, ⟨T9, L9, k9, n9⟩, -, X9, ⟨Lc9, hQ9, l9, y9, z9⟩, st9⟩ := Jvm.LawKit.callS X8 hx (y := (⟨"java/util/Objects", "equals", "(Ljava/lang/Object;Ljava/lang/Object;)Z"⟩ : MethodName)) hown (mvT hZ (own_w50 hw)) (mvT hZ (own_w51 hw)) (mvT hZ (own_w52 hw)) (mvT hZ (own_w53 hw)) (by decide) (backOf (W := 0) (rm9_7 l Z a0 hw []  h0 n0 Z0 ) hZ (own_w53 hw) (own_w52 hw) (by decide) (by decide)) (g := (mkF m 42 #[.val (.ref a1), .val (.ref a2), .val (.ref a2)] [.null, .null])) rfl (by rw [hml]; rfl) (argsL := [.null, .null]) (rest := []) (lenOf pd__Ljava_lang_Object_Ljava_lang_Object__Z rfl) rfl (by show 2 * 0 + _ ≤ _; exact Nat.le_of_eq rfl) (hb hby d8_42) (fun _ _ => ⟨rfl, e8, (by decide : 0 + 0 ≤ _), (by decide : 0 + 0 ≤ _)⟩)
  dsimp only [Pt.U, Pt.locs, Pt.cells, Pt.slots] at X9 l9 y9 z9 st9 hQ9
  subst l9 y9 z9
  obtain ⟨rfl, N9q, e9⟩ := hQ9
  have N9 := Fr.app N0 N9q
  obtain ⟨T10, X10, e10, st10⟩ := getF X9 hx hZ hown (host := "") (Or.inl (own_w17 hw)) Via.refl e9 F_a1_node (g := (mkF m 49 #[.val (.ref a1), .val (.ref a2), .val (.ref a2)] [(.ref a1)])) rfl rfl (hb hby d8_49)
  obtain ⟨T11, X11, e11, st11⟩ := getF X10 hx hZ hown (host := "") (Or.inl (own_w17 hw)) Via.refl e10 F_a2_node (g := (mkF m 53 #[.val (.ref a1), .val (.ref a2), .val (.ref a2)] [(.ref a2), .null])) rfl rfl (hb hby d8_53)
  obtain ⟨_, _, ⟨T12, L12, k12, n12⟩, -, X12, ⟨Lc12, hQ12, l12, y12, z12⟩, st12⟩ := Jvm.LawKit.callS X11 hx (y := (⟨"java/util/Objects", "equals", "(Ljava/lang/Object;Ljava/lang/Object;)Z"⟩ : MethodName)) hown (mvT hZ (own_w50 hw)) (mvT hZ (own_w51 hw)) (mvT hZ (own_w52 hw)) (mvT hZ (own_w53 hw)) (by decide) (backOf (W := 0) (rm9_7 l Z a0 hw []  h0 n0 Z0 ) hZ (own_w53 hw) (own_w52 hw) (by decide) (by decide)) (g := (mkF m 56 #[.val (.ref a1), .val (.ref a2), .val (.ref a2)] [.null, .null])) rfl (by rw [hml]; rfl) (argsL := [.null, .null]) (rest := []) (lenOf pd__Ljava_lang_Object_Ljava_lang_Object__Z rfl) rfl (by show 2 * 0 + _ ≤ _; exact Nat.le_of_eq rfl) (hb hby d8_56) (fun _ _ => ⟨rfl, e11, (by decide : 0 + 0 ≤ _), (by decide : 0 + 0 ≤ _)⟩)
  dsimp only [Pt.U, Pt.locs, Pt.cells, Pt.slots] at X12 l12 y12 z12 st12 hQ12
  subst l12 y12 z12
  obtain ⟨rfl, N12q, e12⟩ := hQ12
  have N12 := Fr.app N9 N12q
  obtain ⟨fs, hr, hrun, hended, hW, hsame⟩ := X12.leave (v := some (.int (1 : Int32))) (fun h => by rw [Bd.returns] at h; cases h)
  refine ⟨_, _, pre0 _ ?_, hrun, hended, _, _, rfl, ?_, ⟨_, rfl⟩, hW, hsame.mono (by decide) (by decide)⟩
  · show Steps p.tables e below (s₁.setTop (mkF m 0 #[.val (.ref a1), .val (.ref a2), .unset] [])) _
    refine XS.aloadN X0.here hx rfl (hb hby d8_0) rfl rfl ?_
    show Steps p.tables e below (s₁.setTop (mkF m 1 #[.val (.ref a1), .val (.ref a2), .unset] [(.ref a2)])) _
    refine st1 _ ?_
    show Steps p.tables e below (T1.setTop (mkF m 4 #[.val (.ref a1), .val (.ref a2), .unset] [(.int (1 : Int32))])) _
    refine XS.ifNo X1.here hx rfl (hb hby d8_4) rfl ((if0 _ _).trans (feq (by decide : ¬ ((1 : Int32) = (0 : Int32)))).1) ?_
    show Steps p.tables e below (T1.setTop (mkF m 7 #[.val (.ref a1), .val (.ref a2), .unset] [])) _
    refine XS.aloadN X1.here hx rfl (hb hby d8_7) rfl rfl ?_
    show Steps p.tables e below (T1.setTop (mkF m 8 #[.val (.ref a1), .val (.ref a2), .unset] [(.ref a2)])) _
    refine st2 _ ?_
    show Steps p.tables e below (T2.setTop (mkF m 11 #[.val (.ref a1), .val (.ref a2), .unset] [(.ref a2)])) _
    refine XS.astoreN X2.here hx rfl (hb hby d8_11) rfl rfl (l' := #[.val (.ref a1), .val (.ref a2), .val (.ref a2)]) rfl ?_
    show Steps p.tables e below (T2.setTop (mkF m 12 #[.val (.ref a1), .val (.ref a2), .val (.ref a2)] [])) _
    refine XS.aloadN X2.here hx rfl (hb hby d8_12) rfl rfl ?_
    show Steps p.tables e below (T2.setTop (mkF m 13 #[.val (.ref a1), .val (.ref a2), .val (.ref a2)] [(.ref a1)])) _
    refine st3 _ ?_
    show Steps p.tables e below (T3.setTop (mkF m 16 #[.val (.ref a1), .val (.ref a2), .val (.ref a2)] [(.ref a3)])) _
    refine XS.aloadN X3.here hx rfl (hb hby d8_16) rfl rfl ?_
    show Steps p.tables e below (T3.setTop (mkF m 17 #[.val (.ref a1), .val (.ref a2), .val (.ref a2)] [(.ref a2), (.ref a3)])) _
    refine st4 _ ?_
    show Steps p.tables e below (T4.setTop (mkF m 20 #[.val (.ref a1), .val (.ref a2), .val (.ref a2)] [(.ref a3), (.ref a3)])) _
    refine Jvm.RoadKit.acmp (g := (mkF m 20 #[.val (.ref a1), .val (.ref a2), .val (.ref a2)] [(.ref a3), (.ref a3)])) X4 hx rfl rfl rfl (pc0 := 20) (pc' := 23) (same := true) rfl (hb hby d8_20) rfl (decide_eq_true rfl) (by decide) (by decide) ?_
    show Steps p.tables e below (T4.setTop (mkF m 23 #[.val (.ref a1), .val (.ref a2), .val (.ref a2)] [])) _
    refine XS.aloadN X4.here hx rfl (hb hby d8_23) rfl rfl ?_
    show Steps p.tables e below (T4.setTop (mkF m 24 #[.val (.ref a1), .val (.ref a2), .val (.ref a2)] [(.ref a1)])) _
    refine st5 _ ?_
    show Steps p.tables e below (T5.setTop (mkF m 27 #[.val (.ref a1), .val (.ref a2), .val (.ref a2)] [(.int p4)])) _
    refine XS.aloadN X5.here hx rfl (hb hby d8_27) rfl rfl ?_
    show Steps p.tables e below (T5.setTop (mkF m 28 #[.val (.ref a1), .val (.ref a2), .val (.ref a2)] [(.ref a2), (.int p4)])) _
    refine st6 _ ?_
    show Steps p.tables e below (T6.setTop (mkF m 31 #[.val (.ref a1), .val (.ref a2), .val (.ref a2)] [(.int p5), (.int p4)])) _
    refine XS.icmpNo X6.here hx rfl (hb hby d8_31) rfl (teq hc5).2 ?_
    show Steps p.tables e below (T6.setTop (mkF m 34 #[.val (.ref a1), .val (.ref a2), .val (.ref a2)] [])) _
    refine XS.aloadN X6.here hx rfl (hb hby d8_34) rfl rfl ?_
    show Steps p.tables e below (T6.setTop (mkF m 35 #[.val (.ref a1), .val (.ref a2), .val (.ref a2)] [(.ref a1)])) _
    refine st7 _ ?_
    show Steps p.tables e below (T7.setTop (mkF m 38 #[.val (.ref a1), .val (.ref a2), .val (.ref a2)] [.null])) _
    refine XS.aloadN X7.here hx rfl (hb hby d8_38) rfl rfl ?_
    show Steps p.tables e below (T7.setTop (mkF m 39 #[.val (.ref a1), .val (.ref a2), .val (.ref a2)] [(.ref a2), .null])) _
    refine st8 _ ?_
    show Steps p.tables e below (T8.setTop (mkF m 42 #[.val (.ref a1), .val (.ref a2), .val (.ref a2)] [.null, .null])) _
    refine st9 _ ?_
    show Steps p.tables e below (T9.setTop (mkF m 45 #[.val (.ref a1), .val (.ref a2), .val (.ref a2)] [(.int (1 : Int32))])) _
    refine XS.ifNo X9.here hx rfl (hb hby d8_45) rfl ((if0 _ _).trans (feq (by decide : ¬ ((1 : Int32) = (0 : Int32)))).1) ?_
    show Steps p.tables e below (T9.setTop (mkF m 48 #[.val (.ref a1), .val (.ref a2), .val (.ref a2)] [])) _
    refine XS.aloadN X9.here hx rfl (hb hby d8_48) rfl rfl ?_
    show Steps p.tables e below (T9.setTop (mkF m 49 #[.val (.ref a1), .val (.ref a2), .val (.ref a2)] [(.ref a1)])) _
    refine st10 _ ?_
    show Steps p.tables e below (T10.setTop (mkF m 52 #[.val (.ref a1), .val (.ref a2), .val (.ref a2)] [.null])) _
    refine XS.aloadN X10.here hx rfl (hb hby d8_52) rfl rfl ?_
    show Steps p.tables e below (T10.setTop (mkF m 53 #[.val (.ref a1), .val (.ref a2), .val (.ref a2)] [(.ref a2), .null])) _
    refine st11 _ ?_
    show Steps p.tables e below (T11.setTop (mkF m 56 #[.val (.ref a1), .val (.ref a2), .val (.ref a2)] [.null, .null])) _
    refine st12 _ ?_
    show Steps p.tables e below (T12.setTop (mkF m 59 #[.val (.ref a1), .val (.ref a2), .val (.ref a2)] [(.int (1 : Int32))])) _
    refine XS.ifNo X12.here hx rfl (hb hby d8_59) rfl ((if0 _ _).trans (feq (by decide : ¬ ((1 : Int32) = (0 : Int32)))).1) ?_
    show Steps p.tables e below (T12.setTop (mkF m 62 #[.val (.ref a1), .val (.ref a2), .val (.ref a2)] [])) _
    refine XS.iconst X12.here hx rfl (hb hby d8_62) ?_
    show Steps p.tables e below (T12.setTop (mkF m 63 #[.val (.ref a1), .val (.ref a2), .val (.ref a2)] [(.int (1 : Int32))])) _
    refine XS.goto X12.here hx rfl (pc0 := 63) (pc' := 67) rfl (hb hby d8_63) (by decide) (by decide) ?_
    show Steps p.tables e below (T12.setTop (mkF m 67 #[.val (.ref a1), .val (.ref a2), .val (.ref a2)] [(.int (1 : Int32))])) _
    exact retN X12 hx (t := .boolean) Bd.returns (by simp) (hb hby d8_67) hr
  · show Q8_9 Z a1 a2 a3 p4 p5 h0 n0 _ T12.heap _
    rw [e12]
    exact ⟨rfl, N12, rfl⟩
theorem ef8_10 (m : MethodId) (a1 : Addr) (a2 : Addr) : entryFrame m #[(.ref a1), (.ref a2)] 3 = mkF m 0 #[.val (.ref a1), .val (.ref a2), .unset] [] := by first | (simp [entryFrame, mkF, argsToLocals, Value.category]; done) | rfl
def Q8_10 (Z : State) (a1 : Addr) (a2 : Addr) (a3 : Addr) (p4 : Int32) (p5 : Int32) (h0 : Heap) (n0 : Nat) (v : Option Value) (h : Heap) (L : List Loc) : Prop := v = some (.int (0 : Int32)) ∧ Fr n0 L ∧ h = h0
set_option maxRecDepth 65536 in
set_option maxHeartbeats 40000000 in
theorem rm8_10 (l : Launch) (Z : State) (a0 : Array Value) (hw : ∀ d ∈ tables_1, d.before a0 Z = true) (ws : List Jvm.Cond) (a1 : Addr) (a2 : Addr) (a3 : Addr) (p4 : Int32) (p5 : Int32) (h0 : Heap) (n0 : Nat) (Z0 : n0 ≤ h0.size) (E_a2 : Exa Z h0 a2 "com/example/referent/referent/RelativeResult") (F_a1_kind : Fld Z h0 a1 "com/example/referent/referent/RelativeResult" "kind" "Lcom/example/referent/referent/RelativeResult$Kind;" (.ref a3)) (F_a2_kind : Fld Z h0 a2 "com/example/referent/referent/RelativeResult" "kind" "Lcom/example/referent/referent/RelativeResult$Kind;" (.ref a3)) (F_a1_index : Fld Z h0 a1 "com/example/referent/referent/RelativeResult" "index" "I" (.int p4)) (F_a2_index : Fld Z h0 a2 "com/example/referent/referent/RelativeResult" "index" "I" (.int p5)) (hc5 : ¬ (p4 = p5)) :
    MetFree l (⟨"com/example/referent/referent/RelativeResult", "equals", "(Ljava/lang/Object;)Z"⟩ : MethodName) (head1 (Jvm.Cond.code (⟨"com/example/referent/referent/RelativeResult", "equals", "(Ljava/lang/Object;)Z"⟩ : MethodName) prog_19_method_9_code 3 (some .boolean) :: ws) ({ frames := 0, cells := 0, slots := 0, locals := 0 } : Room)) (fun a U => a = #[(.ref a1), (.ref a2)] ∧ Z.Warmed39 U.vm ∧ U.heap = h0) (fun _ _ _ _ _ => True) (fun _ U o U' => ∃ v L, o = .returned v ∧ Q8_10 Z a1 a2 a3 p4 p5 h0 n0 v U'.heap L ∧ FrameEnd U o U' L ({ frames := 0, cells := 0, slots := 0, locals := 0 } : Room).cells ({ frames := 0, cells := 0, slots := 0, locals := 0 } : Room).slots) := by
  refine MetFree.of_bodySF (plainFor_of_name pn_com_example_referent_referent_RelativeResult) hisR ?_
  intro p e s m args below meth c s₁ Bd hml0 hP hK
  obtain ⟨rfl, hZ, hh⟩ := hP
  have hx := Bd.exec
  have hby := Bd.bytes
  have hml : c.maxLocals = 3 := hml0
  have hown : s.vm.findClass "com/example/referent/referent/RelativeResult" = some m.cls := findClass_of_methodNamed Bd.named
  have hnm := (name_of_methodNamed Bd.named Bd.method).1
  have X0 : Stand p l e ({ frames := 0, cells := 0, slots := 0, locals := 0 } : Room) s m #[(.ref a1), (.ref a2)] below meth c s₁ [] 0 0 := Stand.of_body Bd
  have e0 : s₁.heap = h0 := by rw [← hh, Bd.state]; rfl
  have N0 := Fr.nil n0
  have pre0 : ∀ t, Steps p.tables e below (s₁.setTop (mkF m 0 #[.val (.ref a1), .val (.ref a2), .unset] [])) t → Steps p.tables e below (s₁.setTop (entryFrame m #[(.ref a1), (.ref a2)] 3)) t := fun t k => castTop (ef8_10 m a1 a2) k
  obtain ⟨T1, X1, e1, st1⟩ := instY X0 hx hZ hown (own_w4 hw) e0 (Ins.self E_a2) (g := (mkF m 1 #[.val (.ref a1), .val (.ref a2), .unset] [(.ref a2)])) rfl rfl (hb hby d8_1)
  obtain ⟨T2, X2, e2, st2⟩ := castY X1 hx hZ hown (own_w4 hw) e1 (Ins.self E_a2) (g := (mkF m 8 #[.val (.ref a1), .val (.ref a2), .unset] [(.ref a2)])) rfl rfl (hb hby d8_8)
  obtain ⟨T3, X3, e3, st3⟩ := getF X2 hx hZ hown (host := "") (Or.inl (own_w15 hw)) Via.refl e2 F_a1_kind (g := (mkF m 13 #[.val (.ref a1), .val (.ref a2), .val (.ref a2)] [(.ref a1)])) rfl rfl (hb hby d8_13)
  obtain ⟨T4, X4, e4, st4⟩ := getF X3 hx hZ hown (host := "") (Or.inl (own_w15 hw)) Via.refl e3 F_a2_kind (g := (mkF m 17 #[.val (.ref a1), .val (.ref a2), .val (.ref a2)] [(.ref a2), (.ref a3)])) rfl rfl (hb hby d8_17)
  obtain ⟨T5, X5, e5, st5⟩ := getF X4 hx hZ hown (host := "") (Or.inl (own_w21 hw)) Via.refl e4 F_a1_index (g := (mkF m 24 #[.val (.ref a1), .val (.ref a2), .val (.ref a2)] [(.ref a1)])) rfl rfl (hb hby d8_24)
  obtain ⟨T6, X6, e6, st6⟩ := getF X5 hx hZ hown (host := "") (Or.inl (own_w21 hw)) Via.refl e5 F_a2_index (g := (mkF m 28 #[.val (.ref a1), .val (.ref a2), .val (.ref a2)] [(.ref a2), (.int p4)])) rfl rfl (hb hby d8_28)
  obtain ⟨fs, hr, hrun, hended, hW, hsame⟩ := X6.leave (v := some (.int (0 : Int32))) (fun h => by rw [Bd.returns] at h; cases h)
  refine ⟨_, _, pre0 _ ?_, hrun, hended, _, _, rfl, ?_, ⟨_, rfl⟩, hW, hsame.mono (by decide) (by decide)⟩
  · show Steps p.tables e below (s₁.setTop (mkF m 0 #[.val (.ref a1), .val (.ref a2), .unset] [])) _
    refine XS.aloadN X0.here hx rfl (hb hby d8_0) rfl rfl ?_
    show Steps p.tables e below (s₁.setTop (mkF m 1 #[.val (.ref a1), .val (.ref a2), .unset] [(.ref a2)])) _
    refine st1 _ ?_
    show Steps p.tables e below (T1.setTop (mkF m 4 #[.val (.ref a1), .val (.ref a2), .unset] [(.int (1 : Int32))])) _
    refine XS.ifNo X1.here hx rfl (hb hby d8_4) rfl ((if0 _ _).trans (feq (by decide : ¬ ((1 : Int32) = (0 : Int32)))).1) ?_
    show Steps p.tables e below (T1.setTop (mkF m 7 #[.val (.ref a1), .val (.ref a2), .unset] [])) _
    refine XS.aloadN X1.here hx rfl (hb hby d8_7) rfl rfl ?_
    show Steps p.tables e below (T1.setTop (mkF m 8 #[.val (.ref a1), .val (.ref a2), .unset] [(.ref a2)])) _
    refine st2 _ ?_
    show Steps p.tables e below (T2.setTop (mkF m 11 #[.val (.ref a1), .val (.ref a2), .unset] [(.ref a2)])) _
    refine XS.astoreN X2.here hx rfl (hb hby d8_11) rfl rfl (l' := #[.val (.ref a1), .val (.ref a2), .val (.ref a2)]) rfl ?_
    show Steps p.tables e below (T2.setTop (mkF m 12 #[.val (.ref a1), .val (.ref a2), .val (.ref a2)] [])) _
    refine XS.aloadN X2.here hx rfl (hb hby d8_12) rfl rfl ?_
    show Steps p.tables e below (T2.setTop (mkF m 13 #[.val (.ref a1), .val (.ref a2), .val (.ref a2)] [(.ref a1)])) _
    refine st3 _ ?_
    show Steps p.tables e below (T3.setTop (mkF m 16 #[.val (.ref a1), .val (.ref a2), .val (.ref a2)] [(.ref a3)])) _
    refine XS.aloadN X3.here hx rfl (hb hby d8_16) rfl rfl ?_
    show Steps p.tables e below (T3.setTop (mkF m 17 #[.val (.ref a1), .val (.ref a2), .val (.ref a2)] [(.ref a2), (.ref a3)])) _
    refine st4 _ ?_
    show Steps p.tables e below (T4.setTop (mkF m 20 #[.val (.ref a1), .val (.ref a2), .val (.ref a2)] [(.ref a3), (.ref a3)])) _
    refine Jvm.RoadKit.acmp (g := (mkF m 20 #[.val (.ref a1), .val (.ref a2), .val (.ref a2)] [(.ref a3), (.ref a3)])) X4 hx rfl rfl rfl (pc0 := 20) (pc' := 23) (same := true) rfl (hb hby d8_20) rfl (decide_eq_true rfl) (by decide) (by decide) ?_
    show Steps p.tables e below (T4.setTop (mkF m 23 #[.val (.ref a1), .val (.ref a2), .val (.ref a2)] [])) _
    refine XS.aloadN X4.here hx rfl (hb hby d8_23) rfl rfl ?_
    show Steps p.tables e below (T4.setTop (mkF m 24 #[.val (.ref a1), .val (.ref a2), .val (.ref a2)] [(.ref a1)])) _
    refine st5 _ ?_
    show Steps p.tables e below (T5.setTop (mkF m 27 #[.val (.ref a1), .val (.ref a2), .val (.ref a2)] [(.int p4)])) _
    refine XS.aloadN X5.here hx rfl (hb hby d8_27) rfl rfl ?_
    show Steps p.tables e below (T5.setTop (mkF m 28 #[.val (.ref a1), .val (.ref a2), .val (.ref a2)] [(.ref a2), (.int p4)])) _
    refine st6 _ ?_
    show Steps p.tables e below (T6.setTop (mkF m 31 #[.val (.ref a1), .val (.ref a2), .val (.ref a2)] [(.int p5), (.int p4)])) _
    refine XS.icmpYes X6.here hx rfl (pc0 := 31) (pc' := 66) rfl (hb hby d8_31) rfl (feq hc5).2 (by decide) (by decide) ?_
    show Steps p.tables e below (T6.setTop (mkF m 66 #[.val (.ref a1), .val (.ref a2), .val (.ref a2)] [])) _
    refine XS.iconst X6.here hx rfl (hb hby d8_66) ?_
    show Steps p.tables e below (T6.setTop (mkF m 67 #[.val (.ref a1), .val (.ref a2), .val (.ref a2)] [(.int (0 : Int32))])) _
    exact retN X6 hx (t := .boolean) Bd.returns (by simp) (hb hby d8_67) hr
  · show Q8_10 Z a1 a2 a3 p4 p5 h0 n0 _ T6.heap _
    rw [e6]
    exact ⟨rfl, N0, rfl⟩
theorem ef0 (m : MethodId) (i0 : Int32) (i1 : Int32) (i2 : Int32) : entryFrame m #[(.int i0), (.int i1), (.int i2)] maxLocals = mkF m 0 #[.val (.int i0), .val (.int i1), .val (.int i2), .unset, .unset, .unset, .unset, .unset, .unset, .unset] [] := by first | (simp [entryFrame, mkF, argsToLocals, Value.category, maxLocals]; done) | rfl
set_option maxRecDepth 65536 in
set_option maxHeartbeats 400000000 in
theorem rm0 (l : Launch) (Z : State) (a0 : Array Value) (hw : ∀ d ∈ tables_1, d.before a0 Z = true) (ws : List Jvm.Cond) (i0 : Int32) (i1 : Int32) (i2 : Int32) (o_INDEX : Addr) (h0 : Heap) (n0 : Nat) (Z0 : n0 ≤ h0.size) (S_o_INDEX : Sta Z h0 "com/example/referent/referent/RelativeResult$Kind" "INDEX" "Lcom/example/referent/referent/RelativeResult$Kind;" (.ref o_INDEX)) (E_o_INDEX : Exa Z h0 o_INDEX "com/example/referent/referent/RelativeResult$Kind") :
    MetFree l x (head1 (Jvm.Cond.code x code maxLocals ret :: ws) room_1) (fun a U => a = #[(.int i0), (.int i1), (.int i2)] ∧ Z.Warmed39 U.vm ∧ U.heap = h0) (fun _ _ _ _ _ => True) (fun _ U o U' => ∃ v L, o = .returned v ∧ (v = some (.int (1 : Int32)) ∧ Fr n0 L) ∧ FrameEnd U o U' L room_1.cells room_1.slots) := by
  refine MetFree.of_bodySF (plainFor_of_name pn_com_example_referent_referent_RelativeResultOfIndexPinLaw) hisR ?_
  intro p e s m args below meth c s₁ Bd hml0 hP hK
  obtain ⟨rfl, hZ, hh⟩ := hP
  have hx := Bd.exec
  have hby := Bd.bytes
  have hml : c.maxLocals = 10 := hml0
  have hown : s.vm.findClass "com/example/referent/referent/RelativeResultOfIndexPinLaw" = some m.cls := findClass_of_methodNamed Bd.named
  have hnm := (name_of_methodNamed Bd.named Bd.method).1
  have X0 : Stand p l e room_1 s m #[(.int i0), (.int i1), (.int i2)] below meth c s₁ [] 0 0 := Stand.of_body Bd
  have e0 : s₁.heap = h0 := by rw [← hh, Bd.state]; rfl
  have N0 := Fr.nil n0
  have pre0 : ∀ t, Steps p.tables e below (s₁.setTop (mkF m 0 #[.val (.int i0), .val (.int i1), .val (.int i2), .unset, .unset, .unset, .unset, .unset, .unset, .unset] [])) t → Steps p.tables e below (s₁.setTop (entryFrame m #[(.int i0), (.int i1), (.int i2)] maxLocals)) t := fun t k => castTop (ef0 m i0 i1 i2) k
  have pre1 : ∀ t, Steps p.tables e below (s₁.setTop (mkF m 3 #[.val (.int i0), .val (.int i1), .val (.int i2), .unset, .unset, .unset, .unset, .unset, .unset, .unset] [(.int (i2 &&& (1 : Int32)))])) t → Steps p.tables e below (s₁.setTop (entryFrame m #[(.int i0), (.int i1), (.int i2)] maxLocals)) t := fun t kk => pre0 t (by
    show Steps p.tables e below (s₁.setTop (mkF m 0 #[.val (.int i0), .val (.int i1), .val (.int i2), .unset, .unset, .unset, .unset, .unset, .unset, .unset] [])) _
    refine XS.iloadN X0.here hx rfl (hb hby at_0) rfl ?_
    show Steps p.tables e below (s₁.setTop (mkF m 1 #[.val (.int i0), .val (.int i1), .val (.int i2), .unset, .unset, .unset, .unset, .unset, .unset, .unset] [(.int i2)])) _
    refine XS.iconst X0.here hx rfl (hb hby at_1) ?_
    show Steps p.tables e below (s₁.setTop (mkF m 2 #[.val (.int i0), .val (.int i1), .val (.int i2), .unset, .unset, .unset, .unset, .unset, .unset, .unset] [(.int (1 : Int32)), (.int i2)])) _
    refine XS.iand X0.here hx rfl (hb hby at_2) rfl ?_
    show Steps p.tables e below (s₁.setTop (mkF m 3 #[.val (.int i0), .val (.int i1), .val (.int i2), .unset, .unset, .unset, .unset, .unset, .unset, .unset] [(.int (i2 &&& (1 : Int32)))])) _
    exact kk)
  rcases own_bit i2 with he0 | he0
  · obtain ⟨_, _, ⟨T1, L1, k1, n1⟩, -, X1, ⟨Lc1, hQ1, l1, y1, z1⟩, st1⟩ := Jvm.LawKit.callS X0 hx (y := (⟨"com/example/referent/referent/RelativeResult", "ofIndex", "(I)Lcom/example/referent/referent/RelativeResult;"⟩ : MethodName)) hown (mvT hZ (own_w0 hw)) (mvT hZ (own_w1 hw)) (mvT hZ (own_w2 hw)) (mvT hZ (own_w3 hw)) (by decide) (backOf (W := 0) (rm1_2 l Z a0 hw [] i0 o_INDEX h0 n0 Z0 S_o_INDEX) hZ (own_w3 hw) (own_w2 hw) (by decide) (by decide)) (g := (mkF m 13 #[.val (.int i0), .val (.int i1), .val (.int i2), .val (.int i1), .unset, .unset, .unset, .unset, .unset, .unset] [(.int i0)])) rfl (by rw [hml]; rfl) (argsL := [(.int i0)]) (rest := []) (lenOf pd__I_Lcom_example_referent_referent_RelativeResult_ rfl) rfl (by show 2 * 0 + _ ≤ _; exact Nat.le_of_eq rfl) (hb hby at_13) (fun _ _ => ⟨rfl, e0, (by decide : 0 + 1 ≤ _), (by decide : 0 + 4 ≤ _)⟩)
    dsimp only [Pt.U, Pt.locs, Pt.cells, Pt.slots] at X1 l1 y1 z1 st1 hQ1
    subst l1 y1 z1
    obtain ⟨b1_0, rfl, N1q, K1, sq1_0, f1_0, f1_1, f1_2, f1_3, f1_4⟩ := hQ1
    have N1 := Fr.app N0 N1q
    have sz_b1_0 : h0.size ≤ b1_0 := sq1_0
    have sz0_b1_0 : h0.size ≤ b1_0 := sz_b1_0
    have g_b1_0 : n0 ≤ b1_0 := Nat.le_trans Z0 sz0_b1_0
    have KC2 : Keep h0 T1.heap [] := (Keep.refl h0 []).trans K1 all0
    have c3 := own_sta_keep S_o_INDEX K1 own_ns0
    obtain ⟨_, _, ⟨T4, L4, k4, n4⟩, -, X4, ⟨Lc4, hQ4, l4, y4, z4⟩, st4⟩ := Jvm.LawKit.callS X1 hx (y := (⟨"com/example/referent/referent/RelativeResult", "ofIndex", "(I)Lcom/example/referent/referent/RelativeResult;"⟩ : MethodName)) hown (mvT hZ (own_w0 hw)) (mvT hZ (own_w1 hw)) (mvT hZ (own_w2 hw)) (mvT hZ (own_w3 hw)) (by decide) (backOf (W := 0) (rm1_2 l Z a0 hw [] i1 o_INDEX T1.heap n0 (Nat.le_trans Z0 KC2.1) c3) hZ (own_w3 hw) (own_w2 hw) (by decide) (by decide)) (g := (mkF m 19 #[.val (.int i0), .val (.int i1), .val (.int i2), .val (.int i1), .val (.ref b1_0), .unset, .unset, .unset, .unset, .unset] [(.int i1)])) rfl (by rw [hml]; rfl) (argsL := [(.int i1)]) (rest := []) (lenOf pd__I_Lcom_example_referent_referent_RelativeResult_ rfl) rfl (by show 2 * 0 + _ ≤ _; exact Nat.le_of_eq rfl) (hb hby at_19) (fun _ _ => ⟨rfl, rfl, (by decide : 1 + 1 ≤ _), (by decide : 4 + 4 ≤ _)⟩)
    dsimp only [Pt.U, Pt.locs, Pt.cells, Pt.slots] at X4 l4 y4 z4 st4 hQ4
    subst l4 y4 z4
    obtain ⟨b4_0, rfl, N4q, K4, sq4_0, f4_0, f4_1, f4_2, f4_3, f4_4⟩ := hQ4
    have N4 := Fr.app N1 N4q
    have sz_b4_0 : T1.heap.size ≤ b4_0 := sq4_0
    have sz0_b4_0 : h0.size ≤ b4_0 := Nat.le_trans KC2.1 sz_b4_0
    have g_b4_0 : n0 ≤ b4_0 := Nat.le_trans Z0 sz0_b4_0
    have KC5 : Keep h0 T4.heap [] := KC2.trans K4 all0
    have c6 := own_sta_keep c3 K4 own_ns0
    obtain ⟨_, _, ⟨T7, L7, k7, n7⟩, -, X7, ⟨Lc7, hQ7, l7, y7, z7⟩, st7⟩ := Jvm.LawKit.callS X4 hx (y := (⟨"com/example/referent/referent/RelativeResult", "ofIndex", "(I)Lcom/example/referent/referent/RelativeResult;"⟩ : MethodName)) hown (mvT hZ (own_w0 hw)) (mvT hZ (own_w1 hw)) (mvT hZ (own_w2 hw)) (mvT hZ (own_w3 hw)) (by decide) (backOf (W := 0) (rm1_2 l Z a0 hw [] i0 o_INDEX T4.heap n0 (Nat.le_trans Z0 KC5.1) c6) hZ (own_w3 hw) (own_w2 hw) (by decide) (by decide)) (g := (mkF m 25 #[.val (.int i0), .val (.int i1), .val (.int i2), .val (.int i1), .val (.ref b1_0), .val (.ref b4_0), .unset, .unset, .unset, .unset] [(.int i0)])) rfl (by rw [hml]; rfl) (argsL := [(.int i0)]) (rest := []) (lenOf pd__I_Lcom_example_referent_referent_RelativeResult_ rfl) rfl (by show 2 * 0 + _ ≤ _; exact Nat.le_of_eq rfl) (hb hby at_25) (fun _ _ => ⟨rfl, rfl, (by decide : 2 + 1 ≤ _), (by decide : 8 + 4 ≤ _)⟩)
    dsimp only [Pt.U, Pt.locs, Pt.cells, Pt.slots] at X7 l7 y7 z7 st7 hQ7
    subst l7 y7 z7
    obtain ⟨b7_0, rfl, N7q, K7, sq7_0, f7_0, f7_1, f7_2, f7_3, f7_4⟩ := hQ7
    have N7 := Fr.app N4 N7q
    have sz_b7_0 : T4.heap.size ≤ b7_0 := sq7_0
    have sz0_b7_0 : h0.size ≤ b7_0 := Nat.le_trans KC5.1 sz_b7_0
    have g_b7_0 : n0 ≤ b7_0 := Nat.le_trans Z0 sz0_b7_0
    have KC8 : Keep h0 T7.heap [] := KC5.trans K7 all0
    have c9 := f1_0.keep K4
    have c10 := c9.keep K7
    have c11 := f1_1.keep K4 nin0
    have c12 := c11.keep K7 nin0
    obtain ⟨cq13, kq13, q13a, q13b, q13c⟩ := isOf hZ rfl c10
    obtain ⟨_, _, ⟨T13, L13, k13, n13⟩, -, X13, ⟨Lc13, hQ13, l13, y13, z13⟩, st13⟩ := X7.virtualBack hx (y := (⟨"com/example/referent/referent/RelativeResult", "kind", "()Lcom/example/referent/referent/RelativeResult$Kind;"⟩ : MethodName)) (z := (⟨"com/example/referent/referent/RelativeResult", "kind", "()Lcom/example/referent/referent/RelativeResult$Kind;"⟩ : MethodName)) hown (mvT hZ (own_w23 hw)) (mvT hZ (own_w24 hw)) (notFace_of_selects (args := #[]) (mvT hZ (own_w26 hw))) (mvT hZ (own_w26 hw)) (mvT hZ (own_w25 hw)) (by decide) (backOf (W := 0) (rm4_3 l Z a0 hw [] b1_0 o_INDEX T7.heap n0 (Nat.le_trans Z0 KC8.1) c12) hZ (own_w27 hw) (own_w2 hw) (by decide) (by decide)) q13a q13c (g := (mkF m 32 #[.val (.int i0), .val (.int i1), .val (.int i2), .val (.int i1), .val (.ref b1_0), .val (.ref b4_0), .val (.ref b7_0), .unset, .unset, .unset] [(.ref b1_0)])) rfl (by rw [hml]; rfl) (Steps.refl _) (argsL := []) (rest := []) (lenOf pd___Lcom_example_referent_referent_RelativeResult_Kind_ rfl) rfl (by show 2 * 0 + _ ≤ _; exact Nat.le_of_eq rfl) (hb hby at_32) (fun _ _ => ⟨rfl, rfl, (by decide : 3 + 0 ≤ _), (by decide : 12 + 0 ≤ _)⟩)
    dsimp only [Pt.U, Pt.locs, Pt.cells, Pt.slots] at X13 l13 y13 z13 st13 hQ13
    subst l13 y13 z13
    obtain ⟨rfl, N13q, e13⟩ := hQ13
    have N13 := Fr.app N7 N13q
    have c14 := own_sta_keep c6 K7 own_ns0
    obtain ⟨T15, X15, e15, st15⟩ := getS2 X13 hx hZ hown (host := "") (Or.inl (own_w28 hw)) Via.refl e13 c14 (g := (mkF m 35 #[.val (.int i0), .val (.int i1), .val (.int i2), .val (.int i1), .val (.ref b1_0), .val (.ref b4_0), .val (.ref b7_0), .unset, .unset, .unset] [(.ref o_INDEX)])) rfl (hb hby at_35)
    have c16 := f1_4.keep K4 nin0
    have c17 := c16.keep K7 nin0
    obtain ⟨cq18, kq18, q18a, q18b, q18c⟩ := isOf hZ e15 c10
    obtain ⟨_, _, ⟨T18, L18, k18, n18⟩, -, X18, ⟨Lc18, hQ18, l18, y18, z18⟩, st18⟩ := X15.virtualBack hx (y := (⟨"com/example/referent/referent/RelativeResult", "index", "()I"⟩ : MethodName)) (z := (⟨"com/example/referent/referent/RelativeResult", "index", "()I"⟩ : MethodName)) hown (mvT hZ (own_w29 hw)) (mvT hZ (own_w30 hw)) (notFace_of_selects (args := #[]) (mvT hZ (own_w32 hw))) (mvT hZ (own_w32 hw)) (mvT hZ (own_w31 hw)) (by decide) (backOf (W := 0) (rm5_4 l Z a0 hw [] b1_0 i0 T7.heap n0 (Nat.le_trans Z0 KC8.1) c17) hZ (own_w33 hw) (own_w2 hw) (by decide) (by decide)) q18a q18c (g := (mkF m 43 #[.val (.int i0), .val (.int i1), .val (.int i2), .val (.int i1), .val (.ref b1_0), .val (.ref b4_0), .val (.ref b7_0), .unset, .unset, .unset] [(.ref b1_0)])) rfl (by rw [hml]; rfl) (Steps.refl _) (argsL := []) (rest := []) (lenOf pd___I rfl) rfl (by show 2 * 0 + _ ≤ _; exact Nat.le_of_eq rfl) (hb hby at_43) (fun _ _ => ⟨rfl, e15, (by decide : 3 + 0 ≤ _), (by decide : 12 + 0 ≤ _)⟩)
    dsimp only [Pt.U, Pt.locs, Pt.cells, Pt.slots] at X18 l18 y18 z18 st18 hQ18
    subst l18 y18 z18
    obtain ⟨rfl, N18q, e18⟩ := hQ18
    have N18 := Fr.app N13 N18q
    have c19 := f1_3.keep K4 nin0
    have c20 := c19.keep K7 nin0
    obtain ⟨cq21, kq21, q21a, q21b, q21c⟩ := isOf hZ e18 c10
    obtain ⟨_, _, ⟨T21, L21, k21, n21⟩, -, X21, ⟨Lc21, hQ21, l21, y21, z21⟩, st21⟩ := X18.virtualBack hx (y := (⟨"com/example/referent/referent/RelativeResult", "name", "()Ljava/lang/String;"⟩ : MethodName)) (z := (⟨"com/example/referent/referent/RelativeResult", "name", "()Ljava/lang/String;"⟩ : MethodName)) hown (mvT hZ (own_w34 hw)) (mvT hZ (own_w35 hw)) (notFace_of_selects (args := #[]) (mvT hZ (own_w37 hw))) (mvT hZ (own_w37 hw)) (mvT hZ (own_w36 hw)) (by decide) (backOf (W := 0) (rm6_5 l Z a0 hw [] b1_0 T7.heap n0 (Nat.le_trans Z0 KC8.1) c20) hZ (own_w38 hw) (own_w2 hw) (by decide) (by decide)) q21a q21c (g := (mkF m 52 #[.val (.int i0), .val (.int i1), .val (.int i2), .val (.int i1), .val (.ref b1_0), .val (.ref b4_0), .val (.ref b7_0), .unset, .unset, .unset] [(.ref b1_0)])) rfl (by rw [hml]; rfl) (Steps.refl _) (argsL := []) (rest := []) (lenOf pd___Ljava_lang_String_ rfl) rfl (by show 2 * 0 + _ ≤ _; exact Nat.le_of_eq rfl) (hb hby at_52) (fun _ _ => ⟨rfl, e18, (by decide : 3 + 0 ≤ _), (by decide : 12 + 0 ≤ _)⟩)
    dsimp only [Pt.U, Pt.locs, Pt.cells, Pt.slots] at X21 l21 y21 z21 st21 hQ21
    subst l21 y21 z21
    obtain ⟨rfl, N21q, e21⟩ := hQ21
    have N21 := Fr.app N18 N21q
    have c22 := f1_2.keep K4 nin0
    have c23 := c22.keep K7 nin0
    obtain ⟨cq24, kq24, q24a, q24b, q24c⟩ := isOf hZ e21 c10
    obtain ⟨_, _, ⟨T24, L24, k24, n24⟩, -, X24, ⟨Lc24, hQ24, l24, y24, z24⟩, st24⟩ := X21.virtualBack hx (y := (⟨"com/example/referent/referent/RelativeResult", "node", "()Ljava/lang/Object;"⟩ : MethodName)) (z := (⟨"com/example/referent/referent/RelativeResult", "node", "()Ljava/lang/Object;"⟩ : MethodName)) hown (mvT hZ (own_w39 hw)) (mvT hZ (own_w40 hw)) (notFace_of_selects (args := #[]) (mvT hZ (own_w42 hw))) (mvT hZ (own_w42 hw)) (mvT hZ (own_w41 hw)) (by decide) (backOf (W := 0) (rm7_6 l Z a0 hw [] b1_0 T7.heap n0 (Nat.le_trans Z0 KC8.1) c23) hZ (own_w43 hw) (own_w2 hw) (by decide) (by decide)) q24a q24c (g := (mkF m 60 #[.val (.int i0), .val (.int i1), .val (.int i2), .val (.int i1), .val (.ref b1_0), .val (.ref b4_0), .val (.ref b7_0), .unset, .unset, .unset] [(.ref b1_0)])) rfl (by rw [hml]; rfl) (Steps.refl _) (argsL := []) (rest := []) (lenOf pd___Ljava_lang_Object_ rfl) rfl (by show 2 * 0 + _ ≤ _; exact Nat.le_of_eq rfl) (hb hby at_60) (fun _ _ => ⟨rfl, e21, (by decide : 3 + 0 ≤ _), (by decide : 12 + 0 ≤ _)⟩)
    dsimp only [Pt.U, Pt.locs, Pt.cells, Pt.slots] at X24 l24 y24 z24 st24 hQ24
    subst l24 y24 z24
    obtain ⟨rfl, N24q, e24⟩ := hQ24
    have N24 := Fr.app N21 N24q
    obtain ⟨cq25, kq25, q25a, q25b, q25c⟩ := isOf hZ e24 c10
    obtain ⟨_, _, ⟨T25, L25, k25, n25⟩, -, X25, ⟨Lc25, hQ25, l25, y25, z25⟩, st25⟩ := X24.virtualBack hx (y := (⟨"com/example/referent/referent/RelativeResult", "equals", "(Ljava/lang/Object;)Z"⟩ : MethodName)) (z := (⟨"com/example/referent/referent/RelativeResult", "equals", "(Ljava/lang/Object;)Z"⟩ : MethodName)) hown (mvT hZ (own_w44 hw)) (mvT hZ (own_w45 hw)) (notFace_of_selects (args := #[]) (mvT hZ (own_w47 hw))) (mvT hZ (own_w47 hw)) (mvT hZ (own_w46 hw)) (by decide) (backOf (W := 0) (rm8_8 l Z a0 hw [] b1_0 b7_0 o_INDEX i0 T7.heap n0 (Nat.le_trans Z0 KC8.1) f7_0 c12 f7_1 c17 f7_4 c20 f7_3 c23 f7_2) hZ (own_w48 hw) (own_w2 hw) (by decide) (by decide)) q25a q25c (g := (mkF m 77 #[.val (.int i0), .val (.int i1), .val (.int i2), .val (.int i1), .val (.ref b1_0), .val (.ref b4_0), .val (.ref b7_0), .val (.int (1 : Int32)), .unset, .unset] [(.ref b7_0), (.ref b1_0)])) rfl (by rw [hml]; rfl) (Steps.refl _) (argsL := [(.ref b7_0)]) (rest := []) (lenOf pd__Ljava_lang_Object__Z rfl) rfl (by show 2 * 0 + _ ≤ _; exact Nat.le_of_eq rfl) (hb hby at_77) (fun _ _ => ⟨rfl, e24, (by decide : 3 + 0 ≤ _), (by decide : 12 + 0 ≤ _)⟩)
    dsimp only [Pt.U, Pt.locs, Pt.cells, Pt.slots] at X25 l25 y25 z25 st25 hQ25
    subst l25 y25 z25
    obtain ⟨rfl, N25q, e25⟩ := hQ25
    have N25 := Fr.app N24 N25q
    have c26 := f4_0.keep K7
    have c27 := f4_1.keep K7 nin0
    have c28 := f4_4.keep K7 nin0
    have pre2 : ∀ t, Steps p.tables e below (T25.setTop (mkF m 86 #[.val (.int i0), .val (.int i1), .val (.int i2), .val (.int i1), .val (.ref b1_0), .val (.ref b4_0), .val (.ref b7_0), .val (.int (1 : Int32)), .val (.int (1 : Int32)), .unset] [(.ref b4_0), (.ref b1_0)])) t → Steps p.tables e below (s₁.setTop (entryFrame m #[(.int i0), (.int i1), (.int i2)] maxLocals)) t := fun t kk => pre1 t (by
      show Steps p.tables e below (s₁.setTop (mkF m 3 #[.val (.int i0), .val (.int i1), .val (.int i2), .unset, .unset, .unset, .unset, .unset, .unset, .unset] [(.int (i2 &&& (1 : Int32)))])) _
      rw [he0]
      show Steps p.tables e below (s₁.setTop (mkF m 3 #[.val (.int i0), .val (.int i1), .val (.int i2), .unset, .unset, .unset, .unset, .unset, .unset, .unset] [(.int (0 : Int32))])) _
      refine XS.ifYes X0.here hx rfl (pc0 := 3) (pc' := 10) rfl (hb hby at_3) rfl ((if0 _ _).trans (teq (by decide : (0 : Int32) = (0 : Int32))).1) (by decide) (by decide) ?_
      show Steps p.tables e below (s₁.setTop (mkF m 10 #[.val (.int i0), .val (.int i1), .val (.int i2), .unset, .unset, .unset, .unset, .unset, .unset, .unset] [])) _
      refine XS.iloadN X0.here hx rfl (hb hby at_10) rfl ?_
      show Steps p.tables e below (s₁.setTop (mkF m 11 #[.val (.int i0), .val (.int i1), .val (.int i2), .unset, .unset, .unset, .unset, .unset, .unset, .unset] [(.int i1)])) _
      refine XS.istoreN X0.here hx rfl (hb hby at_11) rfl (l' := #[.val (.int i0), .val (.int i1), .val (.int i2), .val (.int i1), .unset, .unset, .unset, .unset, .unset, .unset]) rfl ?_
      show Steps p.tables e below (s₁.setTop (mkF m 12 #[.val (.int i0), .val (.int i1), .val (.int i2), .val (.int i1), .unset, .unset, .unset, .unset, .unset, .unset] [])) _
      refine XS.iloadN X0.here hx rfl (hb hby at_12) rfl ?_
      show Steps p.tables e below (s₁.setTop (mkF m 13 #[.val (.int i0), .val (.int i1), .val (.int i2), .val (.int i1), .unset, .unset, .unset, .unset, .unset, .unset] [(.int i0)])) _
      refine st1 _ ?_
      show Steps p.tables e below (T1.setTop (mkF m 16 #[.val (.int i0), .val (.int i1), .val (.int i2), .val (.int i1), .unset, .unset, .unset, .unset, .unset, .unset] [(.ref b1_0)])) _
      refine XS.astore X1.here hx rfl (hb hby at_16) rfl rfl (l' := #[.val (.int i0), .val (.int i1), .val (.int i2), .val (.int i1), .val (.ref b1_0), .unset, .unset, .unset, .unset, .unset]) rfl ?_
      show Steps p.tables e below (T1.setTop (mkF m 18 #[.val (.int i0), .val (.int i1), .val (.int i2), .val (.int i1), .val (.ref b1_0), .unset, .unset, .unset, .unset, .unset] [])) _
      refine XS.iloadN X1.here hx rfl (hb hby at_18) rfl ?_
      show Steps p.tables e below (T1.setTop (mkF m 19 #[.val (.int i0), .val (.int i1), .val (.int i2), .val (.int i1), .val (.ref b1_0), .unset, .unset, .unset, .unset, .unset] [(.int i1)])) _
      refine st4 _ ?_
      show Steps p.tables e below (T4.setTop (mkF m 22 #[.val (.int i0), .val (.int i1), .val (.int i2), .val (.int i1), .val (.ref b1_0), .unset, .unset, .unset, .unset, .unset] [(.ref b4_0)])) _
      refine XS.astore X4.here hx rfl (hb hby at_22) rfl rfl (l' := #[.val (.int i0), .val (.int i1), .val (.int i2), .val (.int i1), .val (.ref b1_0), .val (.ref b4_0), .unset, .unset, .unset, .unset]) rfl ?_
      show Steps p.tables e below (T4.setTop (mkF m 24 #[.val (.int i0), .val (.int i1), .val (.int i2), .val (.int i1), .val (.ref b1_0), .val (.ref b4_0), .unset, .unset, .unset, .unset] [])) _
      refine XS.iloadN X4.here hx rfl (hb hby at_24) rfl ?_
      show Steps p.tables e below (T4.setTop (mkF m 25 #[.val (.int i0), .val (.int i1), .val (.int i2), .val (.int i1), .val (.ref b1_0), .val (.ref b4_0), .unset, .unset, .unset, .unset] [(.int i0)])) _
      refine st7 _ ?_
      show Steps p.tables e below (T7.setTop (mkF m 28 #[.val (.int i0), .val (.int i1), .val (.int i2), .val (.int i1), .val (.ref b1_0), .val (.ref b4_0), .unset, .unset, .unset, .unset] [(.ref b7_0)])) _
      refine XS.astore X7.here hx rfl (hb hby at_28) rfl rfl (l' := #[.val (.int i0), .val (.int i1), .val (.int i2), .val (.int i1), .val (.ref b1_0), .val (.ref b4_0), .val (.ref b7_0), .unset, .unset, .unset]) rfl ?_
      show Steps p.tables e below (T7.setTop (mkF m 30 #[.val (.int i0), .val (.int i1), .val (.int i2), .val (.int i1), .val (.ref b1_0), .val (.ref b4_0), .val (.ref b7_0), .unset, .unset, .unset] [])) _
      refine XS.aload X7.here hx rfl (hb hby at_30) rfl rfl ?_
      show Steps p.tables e below (T7.setTop (mkF m 32 #[.val (.int i0), .val (.int i1), .val (.int i2), .val (.int i1), .val (.ref b1_0), .val (.ref b4_0), .val (.ref b7_0), .unset, .unset, .unset] [(.ref b1_0)])) _
      refine st13.trans ?_
      show Steps p.tables e below (T13.setTop (mkF m 35 #[.val (.int i0), .val (.int i1), .val (.int i2), .val (.int i1), .val (.ref b1_0), .val (.ref b4_0), .val (.ref b7_0), .unset, .unset, .unset] [(.ref o_INDEX)])) _
      refine st15 _ ?_
      show Steps p.tables e below (T15.setTop (mkF m 38 #[.val (.int i0), .val (.int i1), .val (.int i2), .val (.int i1), .val (.ref b1_0), .val (.ref b4_0), .val (.ref b7_0), .unset, .unset, .unset] [(.ref o_INDEX), (.ref o_INDEX)])) _
      refine Jvm.RoadKit.acmp (g := (mkF m 38 #[.val (.int i0), .val (.int i1), .val (.int i2), .val (.int i1), .val (.ref b1_0), .val (.ref b4_0), .val (.ref b7_0), .unset, .unset, .unset] [(.ref o_INDEX), (.ref o_INDEX)])) X15 hx rfl rfl rfl (pc0 := 38) (pc' := 41) (same := true) rfl (hb hby at_38) rfl (decide_eq_true rfl) (by decide) (by decide) ?_
      show Steps p.tables e below (T15.setTop (mkF m 41 #[.val (.int i0), .val (.int i1), .val (.int i2), .val (.int i1), .val (.ref b1_0), .val (.ref b4_0), .val (.ref b7_0), .unset, .unset, .unset] [])) _
      refine XS.aload X15.here hx rfl (hb hby at_41) rfl rfl ?_
      show Steps p.tables e below (T15.setTop (mkF m 43 #[.val (.int i0), .val (.int i1), .val (.int i2), .val (.int i1), .val (.ref b1_0), .val (.ref b4_0), .val (.ref b7_0), .unset, .unset, .unset] [(.ref b1_0)])) _
      refine st18.trans ?_
      show Steps p.tables e below (T18.setTop (mkF m 46 #[.val (.int i0), .val (.int i1), .val (.int i2), .val (.int i1), .val (.ref b1_0), .val (.ref b4_0), .val (.ref b7_0), .unset, .unset, .unset] [(.int i0)])) _
      refine XS.iloadN X18.here hx rfl (hb hby at_46) rfl ?_
      show Steps p.tables e below (T18.setTop (mkF m 47 #[.val (.int i0), .val (.int i1), .val (.int i2), .val (.int i1), .val (.ref b1_0), .val (.ref b4_0), .val (.ref b7_0), .unset, .unset, .unset] [(.int i0), (.int i0)])) _
      refine XS.icmpNo X18.here hx rfl (hb hby at_47) rfl (teq (rfl : i0 = i0)).2 ?_
      show Steps p.tables e below (T18.setTop (mkF m 50 #[.val (.int i0), .val (.int i1), .val (.int i2), .val (.int i1), .val (.ref b1_0), .val (.ref b4_0), .val (.ref b7_0), .unset, .unset, .unset] [])) _
      refine XS.aload X18.here hx rfl (hb hby at_50) rfl rfl ?_
      show Steps p.tables e below (T18.setTop (mkF m 52 #[.val (.int i0), .val (.int i1), .val (.int i2), .val (.int i1), .val (.ref b1_0), .val (.ref b4_0), .val (.ref b7_0), .unset, .unset, .unset] [(.ref b1_0)])) _
      refine st21.trans ?_
      show Steps p.tables e below (T21.setTop (mkF m 55 #[.val (.int i0), .val (.int i1), .val (.int i2), .val (.int i1), .val (.ref b1_0), .val (.ref b4_0), .val (.ref b7_0), .unset, .unset, .unset] [.null])) _
      refine XS.ifnonnullNo X21.here hx rfl (hb hby at_55) rfl ?_
      show Steps p.tables e below (T21.setTop (mkF m 58 #[.val (.int i0), .val (.int i1), .val (.int i2), .val (.int i1), .val (.ref b1_0), .val (.ref b4_0), .val (.ref b7_0), .unset, .unset, .unset] [])) _
      refine XS.aload X21.here hx rfl (hb hby at_58) rfl rfl ?_
      show Steps p.tables e below (T21.setTop (mkF m 60 #[.val (.int i0), .val (.int i1), .val (.int i2), .val (.int i1), .val (.ref b1_0), .val (.ref b4_0), .val (.ref b7_0), .unset, .unset, .unset] [(.ref b1_0)])) _
      refine st24.trans ?_
      show Steps p.tables e below (T24.setTop (mkF m 63 #[.val (.int i0), .val (.int i1), .val (.int i2), .val (.int i1), .val (.ref b1_0), .val (.ref b4_0), .val (.ref b7_0), .unset, .unset, .unset] [.null])) _
      refine XS.ifnonnullNo X24.here hx rfl (hb hby at_63) rfl ?_
      show Steps p.tables e below (T24.setTop (mkF m 66 #[.val (.int i0), .val (.int i1), .val (.int i2), .val (.int i1), .val (.ref b1_0), .val (.ref b4_0), .val (.ref b7_0), .unset, .unset, .unset] [])) _
      refine XS.iconst X24.here hx rfl (hb hby at_66) ?_
      show Steps p.tables e below (T24.setTop (mkF m 67 #[.val (.int i0), .val (.int i1), .val (.int i2), .val (.int i1), .val (.ref b1_0), .val (.ref b4_0), .val (.ref b7_0), .unset, .unset, .unset] [(.int (1 : Int32))])) _
      refine XS.goto X24.here hx rfl (pc0 := 67) (pc' := 71) rfl (hb hby at_67) (by decide) (by decide) ?_
      show Steps p.tables e below (T24.setTop (mkF m 71 #[.val (.int i0), .val (.int i1), .val (.int i2), .val (.int i1), .val (.ref b1_0), .val (.ref b4_0), .val (.ref b7_0), .unset, .unset, .unset] [(.int (1 : Int32))])) _
      refine XS.istore X24.here hx rfl (hb hby at_71) rfl (l' := #[.val (.int i0), .val (.int i1), .val (.int i2), .val (.int i1), .val (.ref b1_0), .val (.ref b4_0), .val (.ref b7_0), .val (.int (1 : Int32)), .unset, .unset]) rfl ?_
      show Steps p.tables e below (T24.setTop (mkF m 73 #[.val (.int i0), .val (.int i1), .val (.int i2), .val (.int i1), .val (.ref b1_0), .val (.ref b4_0), .val (.ref b7_0), .val (.int (1 : Int32)), .unset, .unset] [])) _
      refine XS.aload X24.here hx rfl (hb hby at_73) rfl rfl ?_
      show Steps p.tables e below (T24.setTop (mkF m 75 #[.val (.int i0), .val (.int i1), .val (.int i2), .val (.int i1), .val (.ref b1_0), .val (.ref b4_0), .val (.ref b7_0), .val (.int (1 : Int32)), .unset, .unset] [(.ref b1_0)])) _
      refine XS.aload X24.here hx rfl (hb hby at_75) rfl rfl ?_
      show Steps p.tables e below (T24.setTop (mkF m 77 #[.val (.int i0), .val (.int i1), .val (.int i2), .val (.int i1), .val (.ref b1_0), .val (.ref b4_0), .val (.ref b7_0), .val (.int (1 : Int32)), .unset, .unset] [(.ref b7_0), (.ref b1_0)])) _
      refine st25.trans ?_
      show Steps p.tables e below (T25.setTop (mkF m 80 #[.val (.int i0), .val (.int i1), .val (.int i2), .val (.int i1), .val (.ref b1_0), .val (.ref b4_0), .val (.ref b7_0), .val (.int (1 : Int32)), .unset, .unset] [(.int (1 : Int32))])) _
      refine XS.istore X25.here hx rfl (hb hby at_80) rfl (l' := #[.val (.int i0), .val (.int i1), .val (.int i2), .val (.int i1), .val (.ref b1_0), .val (.ref b4_0), .val (.ref b7_0), .val (.int (1 : Int32)), .val (.int (1 : Int32)), .unset]) rfl ?_
      show Steps p.tables e below (T25.setTop (mkF m 82 #[.val (.int i0), .val (.int i1), .val (.int i2), .val (.int i1), .val (.ref b1_0), .val (.ref b4_0), .val (.ref b7_0), .val (.int (1 : Int32)), .val (.int (1 : Int32)), .unset] [])) _
      refine XS.aload X25.here hx rfl (hb hby at_82) rfl rfl ?_
      show Steps p.tables e below (T25.setTop (mkF m 84 #[.val (.int i0), .val (.int i1), .val (.int i2), .val (.int i1), .val (.ref b1_0), .val (.ref b4_0), .val (.ref b7_0), .val (.int (1 : Int32)), .val (.int (1 : Int32)), .unset] [(.ref b1_0)])) _
      refine XS.aload X25.here hx rfl (hb hby at_84) rfl rfl ?_
      show Steps p.tables e below (T25.setTop (mkF m 86 #[.val (.int i0), .val (.int i1), .val (.int i2), .val (.int i1), .val (.ref b1_0), .val (.ref b4_0), .val (.ref b7_0), .val (.int (1 : Int32)), .val (.int (1 : Int32)), .unset] [(.ref b4_0), (.ref b1_0)])) _
      exact kk)
    by_cases hs1 : i0 = i1
    · have c29 := f4_3.keep K7 nin0
      have c30 := f4_2.keep K7 nin0
      obtain ⟨cq31, kq31, q31a, q31b, q31c⟩ := isOf hZ e25 c10
      obtain ⟨_, _, ⟨T31, L31, k31, n31⟩, -, X31, ⟨Lc31, hQ31, l31, y31, z31⟩, st31⟩ := X25.virtualBack hx (y := (⟨"com/example/referent/referent/RelativeResult", "equals", "(Ljava/lang/Object;)Z"⟩ : MethodName)) (z := (⟨"com/example/referent/referent/RelativeResult", "equals", "(Ljava/lang/Object;)Z"⟩ : MethodName)) hown (mvT hZ (own_w44 hw)) (mvT hZ (own_w45 hw)) (notFace_of_selects (args := #[]) (mvT hZ (own_w47 hw))) (mvT hZ (own_w47 hw)) (mvT hZ (own_w46 hw)) (by decide) (backOf (W := 0) (rm8_9 l Z a0 hw [] b1_0 b4_0 o_INDEX i0 i1 T7.heap n0 (Nat.le_trans Z0 KC8.1) c26 c12 c27 c17 c28 hs1 c20 c29 c23 c30) hZ (own_w48 hw) (own_w2 hw) (by decide) (by decide)) q31a q31c (g := (mkF m 86 #[.val (.int i0), .val (.int i1), .val (.int i2), .val (.int i1), .val (.ref b1_0), .val (.ref b4_0), .val (.ref b7_0), .val (.int (1 : Int32)), .val (.int (1 : Int32)), .unset] [(.ref b4_0), (.ref b1_0)])) rfl (by rw [hml]; rfl) (Steps.refl _) (argsL := [(.ref b4_0)]) (rest := []) (lenOf pd__Ljava_lang_Object__Z rfl) rfl (by show 2 * 0 + _ ≤ _; exact Nat.le_of_eq rfl) (hb hby at_86) (fun _ _ => ⟨rfl, e25, (by decide : 3 + 0 ≤ _), (by decide : 12 + 0 ≤ _)⟩)
      dsimp only [Pt.U, Pt.locs, Pt.cells, Pt.slots] at X31 l31 y31 z31 st31 hQ31
      subst l31 y31 z31
      obtain ⟨rfl, N31q, e31⟩ := hQ31
      have N31 := Fr.app N25 N31q
      obtain ⟨fs, hr, hrun, hended, hW, hsame⟩ := X31.leave (v := some (.int (1 : Int32))) (fun h => by rw [Bd.returns] at h; cases h)
      refine ⟨_, _, pre2 _ ?_, hrun, hended, _, _, rfl, ⟨rfl, N31⟩, ⟨_, rfl⟩, hW, hsame.mono (by decide) (by decide)⟩
      show Steps p.tables e below (T25.setTop (mkF m 86 #[.val (.int i0), .val (.int i1), .val (.int i2), .val (.int i1), .val (.ref b1_0), .val (.ref b4_0), .val (.ref b7_0), .val (.int (1 : Int32)), .val (.int (1 : Int32)), .unset] [(.ref b4_0), (.ref b1_0)])) _
      refine st31.trans ?_
      show Steps p.tables e below (T31.setTop (mkF m 89 #[.val (.int i0), .val (.int i1), .val (.int i2), .val (.int i1), .val (.ref b1_0), .val (.ref b4_0), .val (.ref b7_0), .val (.int (1 : Int32)), .val (.int (1 : Int32)), .unset] [(.int (1 : Int32))])) _
      refine XS.iloadN X31.here hx rfl (hb hby at_89) rfl ?_
      show Steps p.tables e below (T31.setTop (mkF m 90 #[.val (.int i0), .val (.int i1), .val (.int i2), .val (.int i1), .val (.ref b1_0), .val (.ref b4_0), .val (.ref b7_0), .val (.int (1 : Int32)), .val (.int (1 : Int32)), .unset] [(.int i0), (.int (1 : Int32))])) _
      refine XS.iloadN X31.here hx rfl (hb hby at_90) rfl ?_
      show Steps p.tables e below (T31.setTop (mkF m 91 #[.val (.int i0), .val (.int i1), .val (.int i2), .val (.int i1), .val (.ref b1_0), .val (.ref b4_0), .val (.ref b7_0), .val (.int (1 : Int32)), .val (.int (1 : Int32)), .unset] [(.int i1), (.int i0), (.int (1 : Int32))])) _
      refine XS.icmpNo X31.here hx rfl (hb hby at_91) rfl (teq hs1).2 ?_
      show Steps p.tables e below (T31.setTop (mkF m 94 #[.val (.int i0), .val (.int i1), .val (.int i2), .val (.int i1), .val (.ref b1_0), .val (.ref b4_0), .val (.ref b7_0), .val (.int (1 : Int32)), .val (.int (1 : Int32)), .unset] [(.int (1 : Int32))])) _
      refine XS.iconst X31.here hx rfl (hb hby at_94) ?_
      show Steps p.tables e below (T31.setTop (mkF m 95 #[.val (.int i0), .val (.int i1), .val (.int i2), .val (.int i1), .val (.ref b1_0), .val (.ref b4_0), .val (.ref b7_0), .val (.int (1 : Int32)), .val (.int (1 : Int32)), .unset] [(.int (1 : Int32)), (.int (1 : Int32))])) _
      refine XS.goto X31.here hx rfl (pc0 := 95) (pc' := 99) rfl (hb hby at_95) (by decide) (by decide) ?_
      show Steps p.tables e below (T31.setTop (mkF m 99 #[.val (.int i0), .val (.int i1), .val (.int i2), .val (.int i1), .val (.ref b1_0), .val (.ref b4_0), .val (.ref b7_0), .val (.int (1 : Int32)), .val (.int (1 : Int32)), .unset] [(.int (1 : Int32)), (.int (1 : Int32))])) _
      refine XS.icmpNo X31.here hx rfl (hb hby at_99) rfl (teq (by decide : (1 : Int32) = (1 : Int32))).2 ?_
      show Steps p.tables e below (T31.setTop (mkF m 102 #[.val (.int i0), .val (.int i1), .val (.int i2), .val (.int i1), .val (.ref b1_0), .val (.ref b4_0), .val (.ref b7_0), .val (.int (1 : Int32)), .val (.int (1 : Int32)), .unset] [])) _
      refine XS.iconst X31.here hx rfl (hb hby at_102) ?_
      show Steps p.tables e below (T31.setTop (mkF m 103 #[.val (.int i0), .val (.int i1), .val (.int i2), .val (.int i1), .val (.ref b1_0), .val (.ref b4_0), .val (.ref b7_0), .val (.int (1 : Int32)), .val (.int (1 : Int32)), .unset] [(.int (1 : Int32))])) _
      refine XS.goto X31.here hx rfl (pc0 := 103) (pc' := 107) rfl (hb hby at_103) (by decide) (by decide) ?_
      show Steps p.tables e below (T31.setTop (mkF m 107 #[.val (.int i0), .val (.int i1), .val (.int i2), .val (.int i1), .val (.ref b1_0), .val (.ref b4_0), .val (.ref b7_0), .val (.int (1 : Int32)), .val (.int (1 : Int32)), .unset] [(.int (1 : Int32))])) _
      refine XS.istore X31.here hx rfl (hb hby at_107) rfl (l' := #[.val (.int i0), .val (.int i1), .val (.int i2), .val (.int i1), .val (.ref b1_0), .val (.ref b4_0), .val (.ref b7_0), .val (.int (1 : Int32)), .val (.int (1 : Int32)), .val (.int (1 : Int32))]) rfl ?_
      show Steps p.tables e below (T31.setTop (mkF m 109 #[.val (.int i0), .val (.int i1), .val (.int i2), .val (.int i1), .val (.ref b1_0), .val (.ref b4_0), .val (.ref b7_0), .val (.int (1 : Int32)), .val (.int (1 : Int32)), .val (.int (1 : Int32))] [])) _
      refine XS.iload X31.here hx rfl (hb hby at_109) rfl ?_
      show Steps p.tables e below (T31.setTop (mkF m 111 #[.val (.int i0), .val (.int i1), .val (.int i2), .val (.int i1), .val (.ref b1_0), .val (.ref b4_0), .val (.ref b7_0), .val (.int (1 : Int32)), .val (.int (1 : Int32)), .val (.int (1 : Int32))] [(.int (1 : Int32))])) _
      refine XS.ifNo X31.here hx rfl (hb hby at_111) rfl ((if0 _ _).trans (feq (by decide : ¬ ((1 : Int32) = (0 : Int32)))).1) ?_
      show Steps p.tables e below (T31.setTop (mkF m 114 #[.val (.int i0), .val (.int i1), .val (.int i2), .val (.int i1), .val (.ref b1_0), .val (.ref b4_0), .val (.ref b7_0), .val (.int (1 : Int32)), .val (.int (1 : Int32)), .val (.int (1 : Int32))] [])) _
      refine XS.iload X31.here hx rfl (hb hby at_114) rfl ?_
      show Steps p.tables e below (T31.setTop (mkF m 116 #[.val (.int i0), .val (.int i1), .val (.int i2), .val (.int i1), .val (.ref b1_0), .val (.ref b4_0), .val (.ref b7_0), .val (.int (1 : Int32)), .val (.int (1 : Int32)), .val (.int (1 : Int32))] [(.int (1 : Int32))])) _
      refine XS.ifNo X31.here hx rfl (hb hby at_116) rfl ((if0 _ _).trans (feq (by decide : ¬ ((1 : Int32) = (0 : Int32)))).1) ?_
      show Steps p.tables e below (T31.setTop (mkF m 119 #[.val (.int i0), .val (.int i1), .val (.int i2), .val (.int i1), .val (.ref b1_0), .val (.ref b4_0), .val (.ref b7_0), .val (.int (1 : Int32)), .val (.int (1 : Int32)), .val (.int (1 : Int32))] [])) _
      refine XS.iload X31.here hx rfl (hb hby at_119) rfl ?_
      show Steps p.tables e below (T31.setTop (mkF m 121 #[.val (.int i0), .val (.int i1), .val (.int i2), .val (.int i1), .val (.ref b1_0), .val (.ref b4_0), .val (.ref b7_0), .val (.int (1 : Int32)), .val (.int (1 : Int32)), .val (.int (1 : Int32))] [(.int (1 : Int32))])) _
      refine XS.ifNo X31.here hx rfl (hb hby at_121) rfl ((if0 _ _).trans (feq (by decide : ¬ ((1 : Int32) = (0 : Int32)))).1) ?_
      show Steps p.tables e below (T31.setTop (mkF m 124 #[.val (.int i0), .val (.int i1), .val (.int i2), .val (.int i1), .val (.ref b1_0), .val (.ref b4_0), .val (.ref b7_0), .val (.int (1 : Int32)), .val (.int (1 : Int32)), .val (.int (1 : Int32))] [])) _
      refine XS.iconst X31.here hx rfl (hb hby at_124) ?_
      show Steps p.tables e below (T31.setTop (mkF m 125 #[.val (.int i0), .val (.int i1), .val (.int i2), .val (.int i1), .val (.ref b1_0), .val (.ref b4_0), .val (.ref b7_0), .val (.int (1 : Int32)), .val (.int (1 : Int32)), .val (.int (1 : Int32))] [(.int (1 : Int32))])) _
      refine XS.goto X31.here hx rfl (pc0 := 125) (pc' := 129) rfl (hb hby at_125) (by decide) (by decide) ?_
      show Steps p.tables e below (T31.setTop (mkF m 129 #[.val (.int i0), .val (.int i1), .val (.int i2), .val (.int i1), .val (.ref b1_0), .val (.ref b4_0), .val (.ref b7_0), .val (.int (1 : Int32)), .val (.int (1 : Int32)), .val (.int (1 : Int32))] [(.int (1 : Int32))])) _
      exact retN X31 hx (t := .boolean) Bd.returns (by simp) (hb hby at_129) hr
    · obtain ⟨cq29, kq29, q29a, q29b, q29c⟩ := isOf hZ e25 c10
      obtain ⟨_, _, ⟨T29, L29, k29, n29⟩, -, X29, ⟨Lc29, hQ29, l29, y29, z29⟩, st29⟩ := X25.virtualBack hx (y := (⟨"com/example/referent/referent/RelativeResult", "equals", "(Ljava/lang/Object;)Z"⟩ : MethodName)) (z := (⟨"com/example/referent/referent/RelativeResult", "equals", "(Ljava/lang/Object;)Z"⟩ : MethodName)) hown (mvT hZ (own_w44 hw)) (mvT hZ (own_w45 hw)) (notFace_of_selects (args := #[]) (mvT hZ (own_w47 hw))) (mvT hZ (own_w47 hw)) (mvT hZ (own_w46 hw)) (by decide) (backOf (W := 0) (rm8_10 l Z a0 hw [] b1_0 b4_0 o_INDEX i0 i1 T7.heap n0 (Nat.le_trans Z0 KC8.1) c26 c12 c27 c17 c28 hs1) hZ (own_w48 hw) (own_w2 hw) (by decide) (by decide)) q29a q29c (g := (mkF m 86 #[.val (.int i0), .val (.int i1), .val (.int i2), .val (.int i1), .val (.ref b1_0), .val (.ref b4_0), .val (.ref b7_0), .val (.int (1 : Int32)), .val (.int (1 : Int32)), .unset] [(.ref b4_0), (.ref b1_0)])) rfl (by rw [hml]; rfl) (Steps.refl _) (argsL := [(.ref b4_0)]) (rest := []) (lenOf pd__Ljava_lang_Object__Z rfl) rfl (by show 2 * 0 + _ ≤ _; exact Nat.le_of_eq rfl) (hb hby at_86) (fun _ _ => ⟨rfl, e25, (by decide : 3 + 0 ≤ _), (by decide : 12 + 0 ≤ _)⟩)
      dsimp only [Pt.U, Pt.locs, Pt.cells, Pt.slots] at X29 l29 y29 z29 st29 hQ29
      subst l29 y29 z29
      obtain ⟨rfl, N29q, e29⟩ := hQ29
      have N29 := Fr.app N25 N29q
      obtain ⟨fs, hr, hrun, hended, hW, hsame⟩ := X29.leave (v := some (.int (1 : Int32))) (fun h => by rw [Bd.returns] at h; cases h)
      refine ⟨_, _, pre2 _ ?_, hrun, hended, _, _, rfl, ⟨rfl, N29⟩, ⟨_, rfl⟩, hW, hsame.mono (by decide) (by decide)⟩
      show Steps p.tables e below (T25.setTop (mkF m 86 #[.val (.int i0), .val (.int i1), .val (.int i2), .val (.int i1), .val (.ref b1_0), .val (.ref b4_0), .val (.ref b7_0), .val (.int (1 : Int32)), .val (.int (1 : Int32)), .unset] [(.ref b4_0), (.ref b1_0)])) _
      refine st29.trans ?_
      show Steps p.tables e below (T29.setTop (mkF m 89 #[.val (.int i0), .val (.int i1), .val (.int i2), .val (.int i1), .val (.ref b1_0), .val (.ref b4_0), .val (.ref b7_0), .val (.int (1 : Int32)), .val (.int (1 : Int32)), .unset] [(.int (0 : Int32))])) _
      refine XS.iloadN X29.here hx rfl (hb hby at_89) rfl ?_
      show Steps p.tables e below (T29.setTop (mkF m 90 #[.val (.int i0), .val (.int i1), .val (.int i2), .val (.int i1), .val (.ref b1_0), .val (.ref b4_0), .val (.ref b7_0), .val (.int (1 : Int32)), .val (.int (1 : Int32)), .unset] [(.int i0), (.int (0 : Int32))])) _
      refine XS.iloadN X29.here hx rfl (hb hby at_90) rfl ?_
      show Steps p.tables e below (T29.setTop (mkF m 91 #[.val (.int i0), .val (.int i1), .val (.int i2), .val (.int i1), .val (.ref b1_0), .val (.ref b4_0), .val (.ref b7_0), .val (.int (1 : Int32)), .val (.int (1 : Int32)), .unset] [(.int i1), (.int i0), (.int (0 : Int32))])) _
      refine XS.icmpYes X29.here hx rfl (pc0 := 91) (pc' := 98) rfl (hb hby at_91) rfl (feq hs1).2 (by decide) (by decide) ?_
      show Steps p.tables e below (T29.setTop (mkF m 98 #[.val (.int i0), .val (.int i1), .val (.int i2), .val (.int i1), .val (.ref b1_0), .val (.ref b4_0), .val (.ref b7_0), .val (.int (1 : Int32)), .val (.int (1 : Int32)), .unset] [(.int (0 : Int32))])) _
      refine XS.iconst X29.here hx rfl (hb hby at_98) ?_
      show Steps p.tables e below (T29.setTop (mkF m 99 #[.val (.int i0), .val (.int i1), .val (.int i2), .val (.int i1), .val (.ref b1_0), .val (.ref b4_0), .val (.ref b7_0), .val (.int (1 : Int32)), .val (.int (1 : Int32)), .unset] [(.int (0 : Int32)), (.int (0 : Int32))])) _
      refine XS.icmpNo X29.here hx rfl (hb hby at_99) rfl (teq (by decide : (0 : Int32) = (0 : Int32))).2 ?_
      show Steps p.tables e below (T29.setTop (mkF m 102 #[.val (.int i0), .val (.int i1), .val (.int i2), .val (.int i1), .val (.ref b1_0), .val (.ref b4_0), .val (.ref b7_0), .val (.int (1 : Int32)), .val (.int (1 : Int32)), .unset] [])) _
      refine XS.iconst X29.here hx rfl (hb hby at_102) ?_
      show Steps p.tables e below (T29.setTop (mkF m 103 #[.val (.int i0), .val (.int i1), .val (.int i2), .val (.int i1), .val (.ref b1_0), .val (.ref b4_0), .val (.ref b7_0), .val (.int (1 : Int32)), .val (.int (1 : Int32)), .unset] [(.int (1 : Int32))])) _
      refine XS.goto X29.here hx rfl (pc0 := 103) (pc' := 107) rfl (hb hby at_103) (by decide) (by decide) ?_
      show Steps p.tables e below (T29.setTop (mkF m 107 #[.val (.int i0), .val (.int i1), .val (.int i2), .val (.int i1), .val (.ref b1_0), .val (.ref b4_0), .val (.ref b7_0), .val (.int (1 : Int32)), .val (.int (1 : Int32)), .unset] [(.int (1 : Int32))])) _
      refine XS.istore X29.here hx rfl (hb hby at_107) rfl (l' := #[.val (.int i0), .val (.int i1), .val (.int i2), .val (.int i1), .val (.ref b1_0), .val (.ref b4_0), .val (.ref b7_0), .val (.int (1 : Int32)), .val (.int (1 : Int32)), .val (.int (1 : Int32))]) rfl ?_
      show Steps p.tables e below (T29.setTop (mkF m 109 #[.val (.int i0), .val (.int i1), .val (.int i2), .val (.int i1), .val (.ref b1_0), .val (.ref b4_0), .val (.ref b7_0), .val (.int (1 : Int32)), .val (.int (1 : Int32)), .val (.int (1 : Int32))] [])) _
      refine XS.iload X29.here hx rfl (hb hby at_109) rfl ?_
      show Steps p.tables e below (T29.setTop (mkF m 111 #[.val (.int i0), .val (.int i1), .val (.int i2), .val (.int i1), .val (.ref b1_0), .val (.ref b4_0), .val (.ref b7_0), .val (.int (1 : Int32)), .val (.int (1 : Int32)), .val (.int (1 : Int32))] [(.int (1 : Int32))])) _
      refine XS.ifNo X29.here hx rfl (hb hby at_111) rfl ((if0 _ _).trans (feq (by decide : ¬ ((1 : Int32) = (0 : Int32)))).1) ?_
      show Steps p.tables e below (T29.setTop (mkF m 114 #[.val (.int i0), .val (.int i1), .val (.int i2), .val (.int i1), .val (.ref b1_0), .val (.ref b4_0), .val (.ref b7_0), .val (.int (1 : Int32)), .val (.int (1 : Int32)), .val (.int (1 : Int32))] [])) _
      refine XS.iload X29.here hx rfl (hb hby at_114) rfl ?_
      show Steps p.tables e below (T29.setTop (mkF m 116 #[.val (.int i0), .val (.int i1), .val (.int i2), .val (.int i1), .val (.ref b1_0), .val (.ref b4_0), .val (.ref b7_0), .val (.int (1 : Int32)), .val (.int (1 : Int32)), .val (.int (1 : Int32))] [(.int (1 : Int32))])) _
      refine XS.ifNo X29.here hx rfl (hb hby at_116) rfl ((if0 _ _).trans (feq (by decide : ¬ ((1 : Int32) = (0 : Int32)))).1) ?_
      show Steps p.tables e below (T29.setTop (mkF m 119 #[.val (.int i0), .val (.int i1), .val (.int i2), .val (.int i1), .val (.ref b1_0), .val (.ref b4_0), .val (.ref b7_0), .val (.int (1 : Int32)), .val (.int (1 : Int32)), .val (.int (1 : Int32))] [])) _
      refine XS.iload X29.here hx rfl (hb hby at_119) rfl ?_
      show Steps p.tables e below (T29.setTop (mkF m 121 #[.val (.int i0), .val (.int i1), .val (.int i2), .val (.int i1), .val (.ref b1_0), .val (.ref b4_0), .val (.ref b7_0), .val (.int (1 : Int32)), .val (.int (1 : Int32)), .val (.int (1 : Int32))] [(.int (1 : Int32))])) _
      refine XS.ifNo X29.here hx rfl (hb hby at_121) rfl ((if0 _ _).trans (feq (by decide : ¬ ((1 : Int32) = (0 : Int32)))).1) ?_
      show Steps p.tables e below (T29.setTop (mkF m 124 #[.val (.int i0), .val (.int i1), .val (.int i2), .val (.int i1), .val (.ref b1_0), .val (.ref b4_0), .val (.ref b7_0), .val (.int (1 : Int32)), .val (.int (1 : Int32)), .val (.int (1 : Int32))] [])) _
      refine XS.iconst X29.here hx rfl (hb hby at_124) ?_
      show Steps p.tables e below (T29.setTop (mkF m 125 #[.val (.int i0), .val (.int i1), .val (.int i2), .val (.int i1), .val (.ref b1_0), .val (.ref b4_0), .val (.ref b7_0), .val (.int (1 : Int32)), .val (.int (1 : Int32)), .val (.int (1 : Int32))] [(.int (1 : Int32))])) _
      refine XS.goto X29.here hx rfl (pc0 := 125) (pc' := 129) rfl (hb hby at_125) (by decide) (by decide) ?_
      show Steps p.tables e below (T29.setTop (mkF m 129 #[.val (.int i0), .val (.int i1), .val (.int i2), .val (.int i1), .val (.ref b1_0), .val (.ref b4_0), .val (.ref b7_0), .val (.int (1 : Int32)), .val (.int (1 : Int32)), .val (.int (1 : Int32))] [(.int (1 : Int32))])) _
      exact retN X29 hx (t := .boolean) Bd.returns (by simp) (hb hby at_129) hr
  · obtain ⟨_, _, ⟨T1, L1, k1, n1⟩, -, X1, ⟨Lc1, hQ1, l1, y1, z1⟩, st1⟩ := Jvm.LawKit.callS X0 hx (y := (⟨"com/example/referent/referent/RelativeResult", "ofIndex", "(I)Lcom/example/referent/referent/RelativeResult;"⟩ : MethodName)) hown (mvT hZ (own_w0 hw)) (mvT hZ (own_w1 hw)) (mvT hZ (own_w2 hw)) (mvT hZ (own_w3 hw)) (by decide) (backOf (W := 0) (rm1_2 l Z a0 hw [] i0 o_INDEX h0 n0 Z0 S_o_INDEX) hZ (own_w3 hw) (own_w2 hw) (by decide) (by decide)) (g := (mkF m 13 #[.val (.int i0), .val (.int i1), .val (.int i2), .val (.int i0), .unset, .unset, .unset, .unset, .unset, .unset] [(.int i0)])) rfl (by rw [hml]; rfl) (argsL := [(.int i0)]) (rest := []) (lenOf pd__I_Lcom_example_referent_referent_RelativeResult_ rfl) rfl (by show 2 * 0 + _ ≤ _; exact Nat.le_of_eq rfl) (hb hby at_13) (fun _ _ => ⟨rfl, e0, (by decide : 0 + 1 ≤ _), (by decide : 0 + 4 ≤ _)⟩)
    dsimp only [Pt.U, Pt.locs, Pt.cells, Pt.slots] at X1 l1 y1 z1 st1 hQ1
    subst l1 y1 z1
    obtain ⟨b1_0, rfl, N1q, K1, sq1_0, f1_0, f1_1, f1_2, f1_3, f1_4⟩ := hQ1
    have N1 := Fr.app N0 N1q
    have sz_b1_0 : h0.size ≤ b1_0 := sq1_0
    have sz0_b1_0 : h0.size ≤ b1_0 := sz_b1_0
    have g_b1_0 : n0 ≤ b1_0 := Nat.le_trans Z0 sz0_b1_0
    have KC2 : Keep h0 T1.heap [] := (Keep.refl h0 []).trans K1 all0
    have c3 := own_sta_keep S_o_INDEX K1 own_ns0
    obtain ⟨_, _, ⟨T4, L4, k4, n4⟩, -, X4, ⟨Lc4, hQ4, l4, y4, z4⟩, st4⟩ := Jvm.LawKit.callS X1 hx (y := (⟨"com/example/referent/referent/RelativeResult", "ofIndex", "(I)Lcom/example/referent/referent/RelativeResult;"⟩ : MethodName)) hown (mvT hZ (own_w0 hw)) (mvT hZ (own_w1 hw)) (mvT hZ (own_w2 hw)) (mvT hZ (own_w3 hw)) (by decide) (backOf (W := 0) (rm1_2 l Z a0 hw [] i0 o_INDEX T1.heap n0 (Nat.le_trans Z0 KC2.1) c3) hZ (own_w3 hw) (own_w2 hw) (by decide) (by decide)) (g := (mkF m 19 #[.val (.int i0), .val (.int i1), .val (.int i2), .val (.int i0), .val (.ref b1_0), .unset, .unset, .unset, .unset, .unset] [(.int i0)])) rfl (by rw [hml]; rfl) (argsL := [(.int i0)]) (rest := []) (lenOf pd__I_Lcom_example_referent_referent_RelativeResult_ rfl) rfl (by show 2 * 0 + _ ≤ _; exact Nat.le_of_eq rfl) (hb hby at_19) (fun _ _ => ⟨rfl, rfl, (by decide : 1 + 1 ≤ _), (by decide : 4 + 4 ≤ _)⟩)
    dsimp only [Pt.U, Pt.locs, Pt.cells, Pt.slots] at X4 l4 y4 z4 st4 hQ4
    subst l4 y4 z4
    obtain ⟨b4_0, rfl, N4q, K4, sq4_0, f4_0, f4_1, f4_2, f4_3, f4_4⟩ := hQ4
    have N4 := Fr.app N1 N4q
    have sz_b4_0 : T1.heap.size ≤ b4_0 := sq4_0
    have sz0_b4_0 : h0.size ≤ b4_0 := Nat.le_trans KC2.1 sz_b4_0
    have g_b4_0 : n0 ≤ b4_0 := Nat.le_trans Z0 sz0_b4_0
    have KC5 : Keep h0 T4.heap [] := KC2.trans K4 all0
    have c6 := own_sta_keep c3 K4 own_ns0
    obtain ⟨_, _, ⟨T7, L7, k7, n7⟩, -, X7, ⟨Lc7, hQ7, l7, y7, z7⟩, st7⟩ := Jvm.LawKit.callS X4 hx (y := (⟨"com/example/referent/referent/RelativeResult", "ofIndex", "(I)Lcom/example/referent/referent/RelativeResult;"⟩ : MethodName)) hown (mvT hZ (own_w0 hw)) (mvT hZ (own_w1 hw)) (mvT hZ (own_w2 hw)) (mvT hZ (own_w3 hw)) (by decide) (backOf (W := 0) (rm1_2 l Z a0 hw [] i0 o_INDEX T4.heap n0 (Nat.le_trans Z0 KC5.1) c6) hZ (own_w3 hw) (own_w2 hw) (by decide) (by decide)) (g := (mkF m 25 #[.val (.int i0), .val (.int i1), .val (.int i2), .val (.int i0), .val (.ref b1_0), .val (.ref b4_0), .unset, .unset, .unset, .unset] [(.int i0)])) rfl (by rw [hml]; rfl) (argsL := [(.int i0)]) (rest := []) (lenOf pd__I_Lcom_example_referent_referent_RelativeResult_ rfl) rfl (by show 2 * 0 + _ ≤ _; exact Nat.le_of_eq rfl) (hb hby at_25) (fun _ _ => ⟨rfl, rfl, (by decide : 2 + 1 ≤ _), (by decide : 8 + 4 ≤ _)⟩)
    dsimp only [Pt.U, Pt.locs, Pt.cells, Pt.slots] at X7 l7 y7 z7 st7 hQ7
    subst l7 y7 z7
    obtain ⟨b7_0, rfl, N7q, K7, sq7_0, f7_0, f7_1, f7_2, f7_3, f7_4⟩ := hQ7
    have N7 := Fr.app N4 N7q
    have sz_b7_0 : T4.heap.size ≤ b7_0 := sq7_0
    have sz0_b7_0 : h0.size ≤ b7_0 := Nat.le_trans KC5.1 sz_b7_0
    have g_b7_0 : n0 ≤ b7_0 := Nat.le_trans Z0 sz0_b7_0
    have KC8 : Keep h0 T7.heap [] := KC5.trans K7 all0
    have c9 := f1_0.keep K4
    have c10 := c9.keep K7
    have c11 := f1_1.keep K4 nin0
    have c12 := c11.keep K7 nin0
    obtain ⟨cq13, kq13, q13a, q13b, q13c⟩ := isOf hZ rfl c10
    obtain ⟨_, _, ⟨T13, L13, k13, n13⟩, -, X13, ⟨Lc13, hQ13, l13, y13, z13⟩, st13⟩ := X7.virtualBack hx (y := (⟨"com/example/referent/referent/RelativeResult", "kind", "()Lcom/example/referent/referent/RelativeResult$Kind;"⟩ : MethodName)) (z := (⟨"com/example/referent/referent/RelativeResult", "kind", "()Lcom/example/referent/referent/RelativeResult$Kind;"⟩ : MethodName)) hown (mvT hZ (own_w23 hw)) (mvT hZ (own_w24 hw)) (notFace_of_selects (args := #[]) (mvT hZ (own_w26 hw))) (mvT hZ (own_w26 hw)) (mvT hZ (own_w25 hw)) (by decide) (backOf (W := 0) (rm4_3 l Z a0 hw [] b1_0 o_INDEX T7.heap n0 (Nat.le_trans Z0 KC8.1) c12) hZ (own_w27 hw) (own_w2 hw) (by decide) (by decide)) q13a q13c (g := (mkF m 32 #[.val (.int i0), .val (.int i1), .val (.int i2), .val (.int i0), .val (.ref b1_0), .val (.ref b4_0), .val (.ref b7_0), .unset, .unset, .unset] [(.ref b1_0)])) rfl (by rw [hml]; rfl) (Steps.refl _) (argsL := []) (rest := []) (lenOf pd___Lcom_example_referent_referent_RelativeResult_Kind_ rfl) rfl (by show 2 * 0 + _ ≤ _; exact Nat.le_of_eq rfl) (hb hby at_32) (fun _ _ => ⟨rfl, rfl, (by decide : 3 + 0 ≤ _), (by decide : 12 + 0 ≤ _)⟩)
    dsimp only [Pt.U, Pt.locs, Pt.cells, Pt.slots] at X13 l13 y13 z13 st13 hQ13
    subst l13 y13 z13
    obtain ⟨rfl, N13q, e13⟩ := hQ13
    have N13 := Fr.app N7 N13q
    have c14 := own_sta_keep c6 K7 own_ns0
    obtain ⟨T15, X15, e15, st15⟩ := getS2 X13 hx hZ hown (host := "") (Or.inl (own_w28 hw)) Via.refl e13 c14 (g := (mkF m 35 #[.val (.int i0), .val (.int i1), .val (.int i2), .val (.int i0), .val (.ref b1_0), .val (.ref b4_0), .val (.ref b7_0), .unset, .unset, .unset] [(.ref o_INDEX)])) rfl (hb hby at_35)
    have c16 := f1_4.keep K4 nin0
    have c17 := c16.keep K7 nin0
    obtain ⟨cq18, kq18, q18a, q18b, q18c⟩ := isOf hZ e15 c10
    obtain ⟨_, _, ⟨T18, L18, k18, n18⟩, -, X18, ⟨Lc18, hQ18, l18, y18, z18⟩, st18⟩ := X15.virtualBack hx (y := (⟨"com/example/referent/referent/RelativeResult", "index", "()I"⟩ : MethodName)) (z := (⟨"com/example/referent/referent/RelativeResult", "index", "()I"⟩ : MethodName)) hown (mvT hZ (own_w29 hw)) (mvT hZ (own_w30 hw)) (notFace_of_selects (args := #[]) (mvT hZ (own_w32 hw))) (mvT hZ (own_w32 hw)) (mvT hZ (own_w31 hw)) (by decide) (backOf (W := 0) (rm5_4 l Z a0 hw [] b1_0 i0 T7.heap n0 (Nat.le_trans Z0 KC8.1) c17) hZ (own_w33 hw) (own_w2 hw) (by decide) (by decide)) q18a q18c (g := (mkF m 43 #[.val (.int i0), .val (.int i1), .val (.int i2), .val (.int i0), .val (.ref b1_0), .val (.ref b4_0), .val (.ref b7_0), .unset, .unset, .unset] [(.ref b1_0)])) rfl (by rw [hml]; rfl) (Steps.refl _) (argsL := []) (rest := []) (lenOf pd___I rfl) rfl (by show 2 * 0 + _ ≤ _; exact Nat.le_of_eq rfl) (hb hby at_43) (fun _ _ => ⟨rfl, e15, (by decide : 3 + 0 ≤ _), (by decide : 12 + 0 ≤ _)⟩)
    dsimp only [Pt.U, Pt.locs, Pt.cells, Pt.slots] at X18 l18 y18 z18 st18 hQ18
    subst l18 y18 z18
    obtain ⟨rfl, N18q, e18⟩ := hQ18
    have N18 := Fr.app N13 N18q
    have c19 := f1_3.keep K4 nin0
    have c20 := c19.keep K7 nin0
    obtain ⟨cq21, kq21, q21a, q21b, q21c⟩ := isOf hZ e18 c10
    obtain ⟨_, _, ⟨T21, L21, k21, n21⟩, -, X21, ⟨Lc21, hQ21, l21, y21, z21⟩, st21⟩ := X18.virtualBack hx (y := (⟨"com/example/referent/referent/RelativeResult", "name", "()Ljava/lang/String;"⟩ : MethodName)) (z := (⟨"com/example/referent/referent/RelativeResult", "name", "()Ljava/lang/String;"⟩ : MethodName)) hown (mvT hZ (own_w34 hw)) (mvT hZ (own_w35 hw)) (notFace_of_selects (args := #[]) (mvT hZ (own_w37 hw))) (mvT hZ (own_w37 hw)) (mvT hZ (own_w36 hw)) (by decide) (backOf (W := 0) (rm6_5 l Z a0 hw [] b1_0 T7.heap n0 (Nat.le_trans Z0 KC8.1) c20) hZ (own_w38 hw) (own_w2 hw) (by decide) (by decide)) q21a q21c (g := (mkF m 52 #[.val (.int i0), .val (.int i1), .val (.int i2), .val (.int i0), .val (.ref b1_0), .val (.ref b4_0), .val (.ref b7_0), .unset, .unset, .unset] [(.ref b1_0)])) rfl (by rw [hml]; rfl) (Steps.refl _) (argsL := []) (rest := []) (lenOf pd___Ljava_lang_String_ rfl) rfl (by show 2 * 0 + _ ≤ _; exact Nat.le_of_eq rfl) (hb hby at_52) (fun _ _ => ⟨rfl, e18, (by decide : 3 + 0 ≤ _), (by decide : 12 + 0 ≤ _)⟩)
    dsimp only [Pt.U, Pt.locs, Pt.cells, Pt.slots] at X21 l21 y21 z21 st21 hQ21
    subst l21 y21 z21
    obtain ⟨rfl, N21q, e21⟩ := hQ21
    have N21 := Fr.app N18 N21q
    have c22 := f1_2.keep K4 nin0
    have c23 := c22.keep K7 nin0
    obtain ⟨cq24, kq24, q24a, q24b, q24c⟩ := isOf hZ e21 c10
    obtain ⟨_, _, ⟨T24, L24, k24, n24⟩, -, X24, ⟨Lc24, hQ24, l24, y24, z24⟩, st24⟩ := X21.virtualBack hx (y := (⟨"com/example/referent/referent/RelativeResult", "node", "()Ljava/lang/Object;"⟩ : MethodName)) (z := (⟨"com/example/referent/referent/RelativeResult", "node", "()Ljava/lang/Object;"⟩ : MethodName)) hown (mvT hZ (own_w39 hw)) (mvT hZ (own_w40 hw)) (notFace_of_selects (args := #[]) (mvT hZ (own_w42 hw))) (mvT hZ (own_w42 hw)) (mvT hZ (own_w41 hw)) (by decide) (backOf (W := 0) (rm7_6 l Z a0 hw [] b1_0 T7.heap n0 (Nat.le_trans Z0 KC8.1) c23) hZ (own_w43 hw) (own_w2 hw) (by decide) (by decide)) q24a q24c (g := (mkF m 60 #[.val (.int i0), .val (.int i1), .val (.int i2), .val (.int i0), .val (.ref b1_0), .val (.ref b4_0), .val (.ref b7_0), .unset, .unset, .unset] [(.ref b1_0)])) rfl (by rw [hml]; rfl) (Steps.refl _) (argsL := []) (rest := []) (lenOf pd___Ljava_lang_Object_ rfl) rfl (by show 2 * 0 + _ ≤ _; exact Nat.le_of_eq rfl) (hb hby at_60) (fun _ _ => ⟨rfl, e21, (by decide : 3 + 0 ≤ _), (by decide : 12 + 0 ≤ _)⟩)
    dsimp only [Pt.U, Pt.locs, Pt.cells, Pt.slots] at X24 l24 y24 z24 st24 hQ24
    subst l24 y24 z24
    obtain ⟨rfl, N24q, e24⟩ := hQ24
    have N24 := Fr.app N21 N24q
    obtain ⟨cq25, kq25, q25a, q25b, q25c⟩ := isOf hZ e24 c10
    obtain ⟨_, _, ⟨T25, L25, k25, n25⟩, -, X25, ⟨Lc25, hQ25, l25, y25, z25⟩, st25⟩ := X24.virtualBack hx (y := (⟨"com/example/referent/referent/RelativeResult", "equals", "(Ljava/lang/Object;)Z"⟩ : MethodName)) (z := (⟨"com/example/referent/referent/RelativeResult", "equals", "(Ljava/lang/Object;)Z"⟩ : MethodName)) hown (mvT hZ (own_w44 hw)) (mvT hZ (own_w45 hw)) (notFace_of_selects (args := #[]) (mvT hZ (own_w47 hw))) (mvT hZ (own_w47 hw)) (mvT hZ (own_w46 hw)) (by decide) (backOf (W := 0) (rm8_8 l Z a0 hw [] b1_0 b7_0 o_INDEX i0 T7.heap n0 (Nat.le_trans Z0 KC8.1) f7_0 c12 f7_1 c17 f7_4 c20 f7_3 c23 f7_2) hZ (own_w48 hw) (own_w2 hw) (by decide) (by decide)) q25a q25c (g := (mkF m 77 #[.val (.int i0), .val (.int i1), .val (.int i2), .val (.int i0), .val (.ref b1_0), .val (.ref b4_0), .val (.ref b7_0), .val (.int (1 : Int32)), .unset, .unset] [(.ref b7_0), (.ref b1_0)])) rfl (by rw [hml]; rfl) (Steps.refl _) (argsL := [(.ref b7_0)]) (rest := []) (lenOf pd__Ljava_lang_Object__Z rfl) rfl (by show 2 * 0 + _ ≤ _; exact Nat.le_of_eq rfl) (hb hby at_77) (fun _ _ => ⟨rfl, e24, (by decide : 3 + 0 ≤ _), (by decide : 12 + 0 ≤ _)⟩)
    dsimp only [Pt.U, Pt.locs, Pt.cells, Pt.slots] at X25 l25 y25 z25 st25 hQ25
    subst l25 y25 z25
    obtain ⟨rfl, N25q, e25⟩ := hQ25
    have N25 := Fr.app N24 N25q
    have c26 := f4_0.keep K7
    have c27 := f4_1.keep K7 nin0
    have c28 := f4_4.keep K7 nin0
    have c29 := f4_3.keep K7 nin0
    have c30 := f4_2.keep K7 nin0
    obtain ⟨cq31, kq31, q31a, q31b, q31c⟩ := isOf hZ e25 c10
    obtain ⟨_, _, ⟨T31, L31, k31, n31⟩, -, X31, ⟨Lc31, hQ31, l31, y31, z31⟩, st31⟩ := X25.virtualBack hx (y := (⟨"com/example/referent/referent/RelativeResult", "equals", "(Ljava/lang/Object;)Z"⟩ : MethodName)) (z := (⟨"com/example/referent/referent/RelativeResult", "equals", "(Ljava/lang/Object;)Z"⟩ : MethodName)) hown (mvT hZ (own_w44 hw)) (mvT hZ (own_w45 hw)) (notFace_of_selects (args := #[]) (mvT hZ (own_w47 hw))) (mvT hZ (own_w47 hw)) (mvT hZ (own_w46 hw)) (by decide) (backOf (W := 0) (rm8_8 l Z a0 hw [] b1_0 b4_0 o_INDEX i0 T7.heap n0 (Nat.le_trans Z0 KC8.1) c26 c12 c27 c17 c28 c20 c29 c23 c30) hZ (own_w48 hw) (own_w2 hw) (by decide) (by decide)) q31a q31c (g := (mkF m 86 #[.val (.int i0), .val (.int i1), .val (.int i2), .val (.int i0), .val (.ref b1_0), .val (.ref b4_0), .val (.ref b7_0), .val (.int (1 : Int32)), .val (.int (1 : Int32)), .unset] [(.ref b4_0), (.ref b1_0)])) rfl (by rw [hml]; rfl) (Steps.refl _) (argsL := [(.ref b4_0)]) (rest := []) (lenOf pd__Ljava_lang_Object__Z rfl) rfl (by show 2 * 0 + _ ≤ _; exact Nat.le_of_eq rfl) (hb hby at_86) (fun _ _ => ⟨rfl, e25, (by decide : 3 + 0 ≤ _), (by decide : 12 + 0 ≤ _)⟩)
    dsimp only [Pt.U, Pt.locs, Pt.cells, Pt.slots] at X31 l31 y31 z31 st31 hQ31
    subst l31 y31 z31
    obtain ⟨rfl, N31q, e31⟩ := hQ31
    have N31 := Fr.app N25 N31q
    obtain ⟨fs, hr, hrun, hended, hW, hsame⟩ := X31.leave (v := some (.int (1 : Int32))) (fun h => by rw [Bd.returns] at h; cases h)
    refine ⟨_, _, pre1 _ ?_, hrun, hended, _, _, rfl, ⟨rfl, N31⟩, ⟨_, rfl⟩, hW, hsame.mono (by decide) (by decide)⟩
    show Steps p.tables e below (s₁.setTop (mkF m 3 #[.val (.int i0), .val (.int i1), .val (.int i2), .unset, .unset, .unset, .unset, .unset, .unset, .unset] [(.int (i2 &&& (1 : Int32)))])) _
    rw [he0]
    show Steps p.tables e below (s₁.setTop (mkF m 3 #[.val (.int i0), .val (.int i1), .val (.int i2), .unset, .unset, .unset, .unset, .unset, .unset, .unset] [(.int (1 : Int32))])) _
    refine XS.ifNo X0.here hx rfl (hb hby at_3) rfl ((if0 _ _).trans (feq (by decide : ¬ ((1 : Int32) = (0 : Int32)))).1) ?_
    show Steps p.tables e below (s₁.setTop (mkF m 6 #[.val (.int i0), .val (.int i1), .val (.int i2), .unset, .unset, .unset, .unset, .unset, .unset, .unset] [])) _
    refine XS.iloadN X0.here hx rfl (hb hby at_6) rfl ?_
    show Steps p.tables e below (s₁.setTop (mkF m 7 #[.val (.int i0), .val (.int i1), .val (.int i2), .unset, .unset, .unset, .unset, .unset, .unset, .unset] [(.int i0)])) _
    refine XS.goto X0.here hx rfl (pc0 := 7) (pc' := 11) rfl (hb hby at_7) (by decide) (by decide) ?_
    show Steps p.tables e below (s₁.setTop (mkF m 11 #[.val (.int i0), .val (.int i1), .val (.int i2), .unset, .unset, .unset, .unset, .unset, .unset, .unset] [(.int i0)])) _
    refine XS.istoreN X0.here hx rfl (hb hby at_11) rfl (l' := #[.val (.int i0), .val (.int i1), .val (.int i2), .val (.int i0), .unset, .unset, .unset, .unset, .unset, .unset]) rfl ?_
    show Steps p.tables e below (s₁.setTop (mkF m 12 #[.val (.int i0), .val (.int i1), .val (.int i2), .val (.int i0), .unset, .unset, .unset, .unset, .unset, .unset] [])) _
    refine XS.iloadN X0.here hx rfl (hb hby at_12) rfl ?_
    show Steps p.tables e below (s₁.setTop (mkF m 13 #[.val (.int i0), .val (.int i1), .val (.int i2), .val (.int i0), .unset, .unset, .unset, .unset, .unset, .unset] [(.int i0)])) _
    refine st1 _ ?_
    show Steps p.tables e below (T1.setTop (mkF m 16 #[.val (.int i0), .val (.int i1), .val (.int i2), .val (.int i0), .unset, .unset, .unset, .unset, .unset, .unset] [(.ref b1_0)])) _
    refine XS.astore X1.here hx rfl (hb hby at_16) rfl rfl (l' := #[.val (.int i0), .val (.int i1), .val (.int i2), .val (.int i0), .val (.ref b1_0), .unset, .unset, .unset, .unset, .unset]) rfl ?_
    show Steps p.tables e below (T1.setTop (mkF m 18 #[.val (.int i0), .val (.int i1), .val (.int i2), .val (.int i0), .val (.ref b1_0), .unset, .unset, .unset, .unset, .unset] [])) _
    refine XS.iloadN X1.here hx rfl (hb hby at_18) rfl ?_
    show Steps p.tables e below (T1.setTop (mkF m 19 #[.val (.int i0), .val (.int i1), .val (.int i2), .val (.int i0), .val (.ref b1_0), .unset, .unset, .unset, .unset, .unset] [(.int i0)])) _
    refine st4 _ ?_
    show Steps p.tables e below (T4.setTop (mkF m 22 #[.val (.int i0), .val (.int i1), .val (.int i2), .val (.int i0), .val (.ref b1_0), .unset, .unset, .unset, .unset, .unset] [(.ref b4_0)])) _
    refine XS.astore X4.here hx rfl (hb hby at_22) rfl rfl (l' := #[.val (.int i0), .val (.int i1), .val (.int i2), .val (.int i0), .val (.ref b1_0), .val (.ref b4_0), .unset, .unset, .unset, .unset]) rfl ?_
    show Steps p.tables e below (T4.setTop (mkF m 24 #[.val (.int i0), .val (.int i1), .val (.int i2), .val (.int i0), .val (.ref b1_0), .val (.ref b4_0), .unset, .unset, .unset, .unset] [])) _
    refine XS.iloadN X4.here hx rfl (hb hby at_24) rfl ?_
    show Steps p.tables e below (T4.setTop (mkF m 25 #[.val (.int i0), .val (.int i1), .val (.int i2), .val (.int i0), .val (.ref b1_0), .val (.ref b4_0), .unset, .unset, .unset, .unset] [(.int i0)])) _
    refine st7 _ ?_
    show Steps p.tables e below (T7.setTop (mkF m 28 #[.val (.int i0), .val (.int i1), .val (.int i2), .val (.int i0), .val (.ref b1_0), .val (.ref b4_0), .unset, .unset, .unset, .unset] [(.ref b7_0)])) _
    refine XS.astore X7.here hx rfl (hb hby at_28) rfl rfl (l' := #[.val (.int i0), .val (.int i1), .val (.int i2), .val (.int i0), .val (.ref b1_0), .val (.ref b4_0), .val (.ref b7_0), .unset, .unset, .unset]) rfl ?_
    show Steps p.tables e below (T7.setTop (mkF m 30 #[.val (.int i0), .val (.int i1), .val (.int i2), .val (.int i0), .val (.ref b1_0), .val (.ref b4_0), .val (.ref b7_0), .unset, .unset, .unset] [])) _
    refine XS.aload X7.here hx rfl (hb hby at_30) rfl rfl ?_
    show Steps p.tables e below (T7.setTop (mkF m 32 #[.val (.int i0), .val (.int i1), .val (.int i2), .val (.int i0), .val (.ref b1_0), .val (.ref b4_0), .val (.ref b7_0), .unset, .unset, .unset] [(.ref b1_0)])) _
    refine st13.trans ?_
    show Steps p.tables e below (T13.setTop (mkF m 35 #[.val (.int i0), .val (.int i1), .val (.int i2), .val (.int i0), .val (.ref b1_0), .val (.ref b4_0), .val (.ref b7_0), .unset, .unset, .unset] [(.ref o_INDEX)])) _
    refine st15 _ ?_
    show Steps p.tables e below (T15.setTop (mkF m 38 #[.val (.int i0), .val (.int i1), .val (.int i2), .val (.int i0), .val (.ref b1_0), .val (.ref b4_0), .val (.ref b7_0), .unset, .unset, .unset] [(.ref o_INDEX), (.ref o_INDEX)])) _
    refine Jvm.RoadKit.acmp (g := (mkF m 38 #[.val (.int i0), .val (.int i1), .val (.int i2), .val (.int i0), .val (.ref b1_0), .val (.ref b4_0), .val (.ref b7_0), .unset, .unset, .unset] [(.ref o_INDEX), (.ref o_INDEX)])) X15 hx rfl rfl rfl (pc0 := 38) (pc' := 41) (same := true) rfl (hb hby at_38) rfl (decide_eq_true rfl) (by decide) (by decide) ?_
    show Steps p.tables e below (T15.setTop (mkF m 41 #[.val (.int i0), .val (.int i1), .val (.int i2), .val (.int i0), .val (.ref b1_0), .val (.ref b4_0), .val (.ref b7_0), .unset, .unset, .unset] [])) _
    refine XS.aload X15.here hx rfl (hb hby at_41) rfl rfl ?_
    show Steps p.tables e below (T15.setTop (mkF m 43 #[.val (.int i0), .val (.int i1), .val (.int i2), .val (.int i0), .val (.ref b1_0), .val (.ref b4_0), .val (.ref b7_0), .unset, .unset, .unset] [(.ref b1_0)])) _
    refine st18.trans ?_
    show Steps p.tables e below (T18.setTop (mkF m 46 #[.val (.int i0), .val (.int i1), .val (.int i2), .val (.int i0), .val (.ref b1_0), .val (.ref b4_0), .val (.ref b7_0), .unset, .unset, .unset] [(.int i0)])) _
    refine XS.iloadN X18.here hx rfl (hb hby at_46) rfl ?_
    show Steps p.tables e below (T18.setTop (mkF m 47 #[.val (.int i0), .val (.int i1), .val (.int i2), .val (.int i0), .val (.ref b1_0), .val (.ref b4_0), .val (.ref b7_0), .unset, .unset, .unset] [(.int i0), (.int i0)])) _
    refine XS.icmpNo X18.here hx rfl (hb hby at_47) rfl (teq (rfl : i0 = i0)).2 ?_
    show Steps p.tables e below (T18.setTop (mkF m 50 #[.val (.int i0), .val (.int i1), .val (.int i2), .val (.int i0), .val (.ref b1_0), .val (.ref b4_0), .val (.ref b7_0), .unset, .unset, .unset] [])) _
    refine XS.aload X18.here hx rfl (hb hby at_50) rfl rfl ?_
    show Steps p.tables e below (T18.setTop (mkF m 52 #[.val (.int i0), .val (.int i1), .val (.int i2), .val (.int i0), .val (.ref b1_0), .val (.ref b4_0), .val (.ref b7_0), .unset, .unset, .unset] [(.ref b1_0)])) _
    refine st21.trans ?_
    show Steps p.tables e below (T21.setTop (mkF m 55 #[.val (.int i0), .val (.int i1), .val (.int i2), .val (.int i0), .val (.ref b1_0), .val (.ref b4_0), .val (.ref b7_0), .unset, .unset, .unset] [.null])) _
    refine XS.ifnonnullNo X21.here hx rfl (hb hby at_55) rfl ?_
    show Steps p.tables e below (T21.setTop (mkF m 58 #[.val (.int i0), .val (.int i1), .val (.int i2), .val (.int i0), .val (.ref b1_0), .val (.ref b4_0), .val (.ref b7_0), .unset, .unset, .unset] [])) _
    refine XS.aload X21.here hx rfl (hb hby at_58) rfl rfl ?_
    show Steps p.tables e below (T21.setTop (mkF m 60 #[.val (.int i0), .val (.int i1), .val (.int i2), .val (.int i0), .val (.ref b1_0), .val (.ref b4_0), .val (.ref b7_0), .unset, .unset, .unset] [(.ref b1_0)])) _
    refine st24.trans ?_
    show Steps p.tables e below (T24.setTop (mkF m 63 #[.val (.int i0), .val (.int i1), .val (.int i2), .val (.int i0), .val (.ref b1_0), .val (.ref b4_0), .val (.ref b7_0), .unset, .unset, .unset] [.null])) _
    refine XS.ifnonnullNo X24.here hx rfl (hb hby at_63) rfl ?_
    show Steps p.tables e below (T24.setTop (mkF m 66 #[.val (.int i0), .val (.int i1), .val (.int i2), .val (.int i0), .val (.ref b1_0), .val (.ref b4_0), .val (.ref b7_0), .unset, .unset, .unset] [])) _
    refine XS.iconst X24.here hx rfl (hb hby at_66) ?_
    show Steps p.tables e below (T24.setTop (mkF m 67 #[.val (.int i0), .val (.int i1), .val (.int i2), .val (.int i0), .val (.ref b1_0), .val (.ref b4_0), .val (.ref b7_0), .unset, .unset, .unset] [(.int (1 : Int32))])) _
    refine XS.goto X24.here hx rfl (pc0 := 67) (pc' := 71) rfl (hb hby at_67) (by decide) (by decide) ?_
    show Steps p.tables e below (T24.setTop (mkF m 71 #[.val (.int i0), .val (.int i1), .val (.int i2), .val (.int i0), .val (.ref b1_0), .val (.ref b4_0), .val (.ref b7_0), .unset, .unset, .unset] [(.int (1 : Int32))])) _
    refine XS.istore X24.here hx rfl (hb hby at_71) rfl (l' := #[.val (.int i0), .val (.int i1), .val (.int i2), .val (.int i0), .val (.ref b1_0), .val (.ref b4_0), .val (.ref b7_0), .val (.int (1 : Int32)), .unset, .unset]) rfl ?_
    show Steps p.tables e below (T24.setTop (mkF m 73 #[.val (.int i0), .val (.int i1), .val (.int i2), .val (.int i0), .val (.ref b1_0), .val (.ref b4_0), .val (.ref b7_0), .val (.int (1 : Int32)), .unset, .unset] [])) _
    refine XS.aload X24.here hx rfl (hb hby at_73) rfl rfl ?_
    show Steps p.tables e below (T24.setTop (mkF m 75 #[.val (.int i0), .val (.int i1), .val (.int i2), .val (.int i0), .val (.ref b1_0), .val (.ref b4_0), .val (.ref b7_0), .val (.int (1 : Int32)), .unset, .unset] [(.ref b1_0)])) _
    refine XS.aload X24.here hx rfl (hb hby at_75) rfl rfl ?_
    show Steps p.tables e below (T24.setTop (mkF m 77 #[.val (.int i0), .val (.int i1), .val (.int i2), .val (.int i0), .val (.ref b1_0), .val (.ref b4_0), .val (.ref b7_0), .val (.int (1 : Int32)), .unset, .unset] [(.ref b7_0), (.ref b1_0)])) _
    refine st25.trans ?_
    show Steps p.tables e below (T25.setTop (mkF m 80 #[.val (.int i0), .val (.int i1), .val (.int i2), .val (.int i0), .val (.ref b1_0), .val (.ref b4_0), .val (.ref b7_0), .val (.int (1 : Int32)), .unset, .unset] [(.int (1 : Int32))])) _
    refine XS.istore X25.here hx rfl (hb hby at_80) rfl (l' := #[.val (.int i0), .val (.int i1), .val (.int i2), .val (.int i0), .val (.ref b1_0), .val (.ref b4_0), .val (.ref b7_0), .val (.int (1 : Int32)), .val (.int (1 : Int32)), .unset]) rfl ?_
    show Steps p.tables e below (T25.setTop (mkF m 82 #[.val (.int i0), .val (.int i1), .val (.int i2), .val (.int i0), .val (.ref b1_0), .val (.ref b4_0), .val (.ref b7_0), .val (.int (1 : Int32)), .val (.int (1 : Int32)), .unset] [])) _
    refine XS.aload X25.here hx rfl (hb hby at_82) rfl rfl ?_
    show Steps p.tables e below (T25.setTop (mkF m 84 #[.val (.int i0), .val (.int i1), .val (.int i2), .val (.int i0), .val (.ref b1_0), .val (.ref b4_0), .val (.ref b7_0), .val (.int (1 : Int32)), .val (.int (1 : Int32)), .unset] [(.ref b1_0)])) _
    refine XS.aload X25.here hx rfl (hb hby at_84) rfl rfl ?_
    show Steps p.tables e below (T25.setTop (mkF m 86 #[.val (.int i0), .val (.int i1), .val (.int i2), .val (.int i0), .val (.ref b1_0), .val (.ref b4_0), .val (.ref b7_0), .val (.int (1 : Int32)), .val (.int (1 : Int32)), .unset] [(.ref b4_0), (.ref b1_0)])) _
    refine st31.trans ?_
    show Steps p.tables e below (T31.setTop (mkF m 89 #[.val (.int i0), .val (.int i1), .val (.int i2), .val (.int i0), .val (.ref b1_0), .val (.ref b4_0), .val (.ref b7_0), .val (.int (1 : Int32)), .val (.int (1 : Int32)), .unset] [(.int (1 : Int32))])) _
    refine XS.iloadN X31.here hx rfl (hb hby at_89) rfl ?_
    show Steps p.tables e below (T31.setTop (mkF m 90 #[.val (.int i0), .val (.int i1), .val (.int i2), .val (.int i0), .val (.ref b1_0), .val (.ref b4_0), .val (.ref b7_0), .val (.int (1 : Int32)), .val (.int (1 : Int32)), .unset] [(.int i0), (.int (1 : Int32))])) _
    refine XS.iloadN X31.here hx rfl (hb hby at_90) rfl ?_
    show Steps p.tables e below (T31.setTop (mkF m 91 #[.val (.int i0), .val (.int i1), .val (.int i2), .val (.int i0), .val (.ref b1_0), .val (.ref b4_0), .val (.ref b7_0), .val (.int (1 : Int32)), .val (.int (1 : Int32)), .unset] [(.int i0), (.int i0), (.int (1 : Int32))])) _
    refine XS.icmpNo X31.here hx rfl (hb hby at_91) rfl (teq (rfl : i0 = i0)).2 ?_
    show Steps p.tables e below (T31.setTop (mkF m 94 #[.val (.int i0), .val (.int i1), .val (.int i2), .val (.int i0), .val (.ref b1_0), .val (.ref b4_0), .val (.ref b7_0), .val (.int (1 : Int32)), .val (.int (1 : Int32)), .unset] [(.int (1 : Int32))])) _
    refine XS.iconst X31.here hx rfl (hb hby at_94) ?_
    show Steps p.tables e below (T31.setTop (mkF m 95 #[.val (.int i0), .val (.int i1), .val (.int i2), .val (.int i0), .val (.ref b1_0), .val (.ref b4_0), .val (.ref b7_0), .val (.int (1 : Int32)), .val (.int (1 : Int32)), .unset] [(.int (1 : Int32)), (.int (1 : Int32))])) _
    refine XS.goto X31.here hx rfl (pc0 := 95) (pc' := 99) rfl (hb hby at_95) (by decide) (by decide) ?_
    show Steps p.tables e below (T31.setTop (mkF m 99 #[.val (.int i0), .val (.int i1), .val (.int i2), .val (.int i0), .val (.ref b1_0), .val (.ref b4_0), .val (.ref b7_0), .val (.int (1 : Int32)), .val (.int (1 : Int32)), .unset] [(.int (1 : Int32)), (.int (1 : Int32))])) _
    refine XS.icmpNo X31.here hx rfl (hb hby at_99) rfl (teq (by decide : (1 : Int32) = (1 : Int32))).2 ?_
    show Steps p.tables e below (T31.setTop (mkF m 102 #[.val (.int i0), .val (.int i1), .val (.int i2), .val (.int i0), .val (.ref b1_0), .val (.ref b4_0), .val (.ref b7_0), .val (.int (1 : Int32)), .val (.int (1 : Int32)), .unset] [])) _
    refine XS.iconst X31.here hx rfl (hb hby at_102) ?_
    show Steps p.tables e below (T31.setTop (mkF m 103 #[.val (.int i0), .val (.int i1), .val (.int i2), .val (.int i0), .val (.ref b1_0), .val (.ref b4_0), .val (.ref b7_0), .val (.int (1 : Int32)), .val (.int (1 : Int32)), .unset] [(.int (1 : Int32))])) _
    refine XS.goto X31.here hx rfl (pc0 := 103) (pc' := 107) rfl (hb hby at_103) (by decide) (by decide) ?_
    show Steps p.tables e below (T31.setTop (mkF m 107 #[.val (.int i0), .val (.int i1), .val (.int i2), .val (.int i0), .val (.ref b1_0), .val (.ref b4_0), .val (.ref b7_0), .val (.int (1 : Int32)), .val (.int (1 : Int32)), .unset] [(.int (1 : Int32))])) _
    refine XS.istore X31.here hx rfl (hb hby at_107) rfl (l' := #[.val (.int i0), .val (.int i1), .val (.int i2), .val (.int i0), .val (.ref b1_0), .val (.ref b4_0), .val (.ref b7_0), .val (.int (1 : Int32)), .val (.int (1 : Int32)), .val (.int (1 : Int32))]) rfl ?_
    show Steps p.tables e below (T31.setTop (mkF m 109 #[.val (.int i0), .val (.int i1), .val (.int i2), .val (.int i0), .val (.ref b1_0), .val (.ref b4_0), .val (.ref b7_0), .val (.int (1 : Int32)), .val (.int (1 : Int32)), .val (.int (1 : Int32))] [])) _
    refine XS.iload X31.here hx rfl (hb hby at_109) rfl ?_
    show Steps p.tables e below (T31.setTop (mkF m 111 #[.val (.int i0), .val (.int i1), .val (.int i2), .val (.int i0), .val (.ref b1_0), .val (.ref b4_0), .val (.ref b7_0), .val (.int (1 : Int32)), .val (.int (1 : Int32)), .val (.int (1 : Int32))] [(.int (1 : Int32))])) _
    refine XS.ifNo X31.here hx rfl (hb hby at_111) rfl ((if0 _ _).trans (feq (by decide : ¬ ((1 : Int32) = (0 : Int32)))).1) ?_
    show Steps p.tables e below (T31.setTop (mkF m 114 #[.val (.int i0), .val (.int i1), .val (.int i2), .val (.int i0), .val (.ref b1_0), .val (.ref b4_0), .val (.ref b7_0), .val (.int (1 : Int32)), .val (.int (1 : Int32)), .val (.int (1 : Int32))] [])) _
    refine XS.iload X31.here hx rfl (hb hby at_114) rfl ?_
    show Steps p.tables e below (T31.setTop (mkF m 116 #[.val (.int i0), .val (.int i1), .val (.int i2), .val (.int i0), .val (.ref b1_0), .val (.ref b4_0), .val (.ref b7_0), .val (.int (1 : Int32)), .val (.int (1 : Int32)), .val (.int (1 : Int32))] [(.int (1 : Int32))])) _
    refine XS.ifNo X31.here hx rfl (hb hby at_116) rfl ((if0 _ _).trans (feq (by decide : ¬ ((1 : Int32) = (0 : Int32)))).1) ?_
    show Steps p.tables e below (T31.setTop (mkF m 119 #[.val (.int i0), .val (.int i1), .val (.int i2), .val (.int i0), .val (.ref b1_0), .val (.ref b4_0), .val (.ref b7_0), .val (.int (1 : Int32)), .val (.int (1 : Int32)), .val (.int (1 : Int32))] [])) _
    refine XS.iload X31.here hx rfl (hb hby at_119) rfl ?_
    show Steps p.tables e below (T31.setTop (mkF m 121 #[.val (.int i0), .val (.int i1), .val (.int i2), .val (.int i0), .val (.ref b1_0), .val (.ref b4_0), .val (.ref b7_0), .val (.int (1 : Int32)), .val (.int (1 : Int32)), .val (.int (1 : Int32))] [(.int (1 : Int32))])) _
    refine XS.ifNo X31.here hx rfl (hb hby at_121) rfl ((if0 _ _).trans (feq (by decide : ¬ ((1 : Int32) = (0 : Int32)))).1) ?_
    show Steps p.tables e below (T31.setTop (mkF m 124 #[.val (.int i0), .val (.int i1), .val (.int i2), .val (.int i0), .val (.ref b1_0), .val (.ref b4_0), .val (.ref b7_0), .val (.int (1 : Int32)), .val (.int (1 : Int32)), .val (.int (1 : Int32))] [])) _
    refine XS.iconst X31.here hx rfl (hb hby at_124) ?_
    show Steps p.tables e below (T31.setTop (mkF m 125 #[.val (.int i0), .val (.int i1), .val (.int i2), .val (.int i0), .val (.ref b1_0), .val (.ref b4_0), .val (.ref b7_0), .val (.int (1 : Int32)), .val (.int (1 : Int32)), .val (.int (1 : Int32))] [(.int (1 : Int32))])) _
    refine XS.goto X31.here hx rfl (pc0 := 125) (pc' := 129) rfl (hb hby at_125) (by decide) (by decide) ?_
    show Steps p.tables e below (T31.setTop (mkF m 129 #[.val (.int i0), .val (.int i1), .val (.int i2), .val (.int i0), .val (.ref b1_0), .val (.ref b4_0), .val (.ref b7_0), .val (.int (1 : Int32)), .val (.int (1 : Int32)), .val (.int (1 : Int32))] [(.int (1 : Int32))])) _
    exact retN X31 hx (t := .boolean) Bd.returns (by simp) (hb hby at_129) hr
set_option maxRecDepth 65536 in
set_option maxHeartbeats 40000000 in
theorem comes_1 {Post : Tables → Env → Array Value → State → Outcome → State → Prop} (hpost : ∀ tb e args s v u, (limb_1_1.after args s (.returned v) u = true ∧ limb_1_2.after args s (.returned v) u = true ∧ True) → FrameEnd s (.returned v) u (Jvm.fieldLocs frame_1_writes args s ++ Jvm.arrayLocs frame_1_arrays args s ++ Jvm.staticLocs frame_1_statics s) 16 128 → Post tb e args s (.returned v) u) :
    ArmFor flags0 classFile x code maxLocals ret World_1 tables_1 room_1 Calls_1 rest_1 Pre_1 Post := by
  intro l hfl _ _ p e ha hc hk s m args below hf hA hF happ hP
  obtain ⟨hcalls, hrest, hpre⟩ := hP
  obtain ⟨-, -, -, hnamed, -, -, -, hat⟩ := (Spec.applies_iff hf).mp happ
  obtain ⟨hg, hn⟩ := and_e (Cond.before_iff.mp (show (Jvm.Cond.and given_1 narrow_1).before args s = true from hpre))
  obtain ⟨hg_1a, hg_1b⟩ := and_e hg
  obtain ⟨hg_2a, hg_2b⟩ := and_e hg_1b
  obtain ⟨hg_3a, hg_3b⟩ := and_e hg_2b
  obtain ⟨w0, w1, w2, rfl⟩ : ∃ w0 w1 w2 : Value, args = #[w0, w1, w2] := by
    have hs : args.size = 3 := by simpa [Cond.value, given_1] using hg_1a
    obtain ⟨L⟩ := args
    match L, hs with
    | [w0, w1, w2], _ => exact ⟨w0, w1, w2, rfl⟩
  have hw := fun d (hd : d ∈ tables_1) => atoms_spec (ws := Jvm.Cond.code x code maxLocals ret :: tables_1) hat d (List.mem_cons_of_mem _ hd)
  have hfit : Fit s := fun {y c} hc i hi => by
    obtain ⟨ha, rfl⟩ := Array.getElem?_eq_some_iff.mp hc
    have q := List.all_eq_true.mp ((Array.all_eq_true_iff_forall_mem.mp hF) _ (Array.getElem_mem ha)) i (List.mem_range.mpr hi)
    simpa [Array.getElem?_eq_getElem hi] using q
  obtain ⟨i0, ei0⟩ := is_v hg_2a
  obtain rfl : w0 = (.int i0) := Option.some.inj ei0
  obtain ⟨i1, ei1⟩ := is_v hg_3a
  obtain rfl : w1 = (.int i1) := Option.some.inj ei1
  obtain ⟨i2, ei2⟩ := is_v hg_3b
  obtain rfl : w2 = (.int i2) := Option.some.inj ei2
  obtain ⟨o_INDEX, ev_o_INDEX⟩ := exa_v hn
  have S_o_INDEX := Sta.start ev_o_INDEX (Or.inr ⟨(own_w7 hw), (own_w8 hw)⟩)
  have E_o_INDEX := Exa.start ev_o_INDEX hn
  obtain ⟨n, o, h1, h2, h3, _, L, rfl, ⟨rfl, N⟩, hq⟩ := rm0 l s _ hw tables_1 i0 i1 i2 o_INDEX s.heap s.heap.size (Nat.le_refl _) S_o_INDEX E_o_INDEX p e ha hc hk s m _ below hf ((Spec.applies_iff_loose hf).mp happ).1 ⟨rfl, State.Warmed39.refl s, rfl⟩ trivial
  refine ⟨n, _, h1, h2, h3, hpost _ _ _ _ _ _ ⟨Cond.after_iff.mpr rfl, Cond.after_iff.mpr (eq_i res_at (Term.int_eval (1)) rfl), trivial⟩ ⟨hq.1, hq.2.1, (hq.2.2.sift fun y hy => Or.inr (N y hy)).mono (by decide) (by decide)⟩⟩
theorem main_1_1 : Claimed_1_1 := comes_1 fun _ _ _ _ _ _ h hF => ⟨h.1, hF⟩
theorem main_1_2 : Claimed_1_2 := comes_1 fun _ _ _ _ _ _ h hF => ⟨h.2.1, hF⟩
end Jvm.Pilot.@@N@@
namespace Jvm.Pilot.@@N@@
open Jvm Jvm.ClassFile Sem Op Lib Jvm.Free Jvm.Stand Jvm.Pilot.@@N@@.Jvm.D
/-! MADE BY PROGRAM (witnessworld.py) out of the Statement's table words and the real class files: 14 classes; the members and pool entries that the words name. The judged class is class 1, her method 1. -/
namespace start1
open Jvm.ClassFile
def u (s : String) : CpInfo := .utf8 (stringToUtf16 s)
/-- a pool by its gaps: so many unusable entries, then the entry; so many at the end -/
def gap : Nat → List CpInfo → List CpInfo
  | 0, r => r
  | n + 1, r => .unusable :: gap n r
def poolList (es : List (Nat × CpInfo)) (last : Nat) : List CpInfo := es.foldr (fun e r => gap e.1 (e.2 :: r)) (gap last [])
def pool (es : List (Nat × CpInfo)) (last : Nat) : Array CpInfo := ⟨poolList es last⟩
def fileOf (pool : Array CpInfo) (this : Nat) (attrs : Array Attribute := #[]) (ms : Array MethodInfo := #[]) (fl : Nat := 33) (sup : Nat := 0) (ifs : Array Nat := #[]) (fds : Array FieldInfo := #[]) : ClassFile where
  minorVersion := 0
  majorVersion := 65
  constantPool := pool
  accessFlags := fl
  thisClass := this
  superClass := sup
  interfaces := ifs
  fields := fds
  methods := ms
  attributes := attrs
def plain (name : String) (sup : Option ClassId) : Class where
  name := name
  kind := .ordinary
  loader := none
  accessFlags := 33
  super := sup
  interfaces := #[]
  cf := none
  fields := #[]
  methods := #[]
  instanceTypes := #[]
  staticTypes := #[]
  resolved := #[]
  callSites := []
  init := .initialized
  statics := none
  mirror := none

def pool0 : Array CpInfo := pool [(5, u "<init>"), (0, u "()V"), (1, .class_ 10), (1, u "java/lang/Object")] 113

def k0c0 : Code := { maxStack := 0, maxLocals := 1, code := object_method_1_code, exceptionTable := #[], attributes := #[] }
def k0m0 : Method := { name := "<init>", desc := "()V", sig := { parameters := [], returnType := none }, accessFlags := 1, code := some k0c0 }
/-- java/lang/Object -/
def k0 : Class := { plain "java/lang/Object" none with
  accessFlags := 33
  interfaces := #[]
  cf := some (fileOf pool0 8 #[] #[{ accessFlags := 1, nameIndex := 5, descriptorIndex := 6, attributes := #[] }] 33 0 #[] #[])
  fields := #[]
  methods := #[k0m0]
  instanceTypes := #[]
  staticTypes := #[]
  resolved := Array.replicate 124 none
  statics := none }

def pool1 : Array CpInfo := pool [(2, .class_ 4), (1, u "java/lang/Object"), (0, u "<init>"), (0, u "()V"), (0, .methodref 8 9), (0, .class_ 10), (0, .nameAndType 11 12), (0, u "com/example/referent/referent/RelativeResult"), (0, u "ofIndex"), (0, u "(I)Lcom/example/referent/referent/RelativeResult;"), (0, .methodref 8 14), (0, .nameAndType 15 16), (0, u "kind"), (0, u "()Lcom/example/referent/referent/RelativeResult$Kind;"), (0, .fieldref 18 19), (0, .class_ 20), (0, .nameAndType 21 22), (0, u "com/example/referent/referent/RelativeResult$Kind"), (0, u "INDEX"), (0, u "Lcom/example/referent/referent/RelativeResult$Kind;"), (0, .methodref 8 24), (0, .nameAndType 25 26), (0, u "index"), (0, u "()I"), (0, .methodref 8 28), (0, .nameAndType 29 30), (0, u "name"), (0, u "()Ljava/lang/String;"), (0, .methodref 8 32), (0, .nameAndType 33 34), (0, u "node"), (0, u "()Ljava/lang/Object;"), (0, .methodref 8 36), (0, .nameAndType 37 38), (0, u "equals"), (0, u "(Ljava/lang/Object;)Z"), (0, .class_ 40), (0, u "com/example/referent/referent/RelativeResultOfIndexPinLaw"), (2, u "law"), (0, u "(III)Z")] 5

def k1m0 : Method := { name := "<init>", desc := "()V", sig := { parameters := [], returnType := none }, accessFlags := 1, code := none }
def k1c1 : Code := { maxStack := 3, maxLocals := 10, code := code, exceptionTable := #[], attributes := #[] }
def k1m1 : Method := { name := "law", desc := "(III)Z", sig := { parameters := [.int, .int, .int], returnType := some .boolean }, accessFlags := 9, code := some k1c1 }
/-- com/example/referent/referent/RelativeResultOfIndexPinLaw -/
def k1 : Class := { plain "com/example/referent/referent/RelativeResultOfIndexPinLaw" (some 0) with
  accessFlags := 49
  interfaces := #[]
  cf := some (fileOf pool1 39 #[] #[{ accessFlags := 1, nameIndex := 5, descriptorIndex := 6, attributes := #[] }, { accessFlags := 9, nameIndex := 43, descriptorIndex := 44, attributes := #[] }] 49 2 #[] #[])
  fields := #[]
  methods := #[k1m0, k1m1]
  instanceTypes := #[]
  staticTypes := #[]
  resolved := Array.replicate 50 none
  statics := none }

def pool2 : Array CpInfo := pool [(1, .methodref 2 3), (0, .class_ 4), (0, .nameAndType 5 6), (0, u "java/lang/Object"), (0, u "<init>"), (0, u "()V"), (0, .fieldref 8 9), (0, .class_ 10), (0, .nameAndType 11 12), (0, u "com/example/referent/referent/RelativeResult"), (0, u "kind"), (0, u "Lcom/example/referent/referent/RelativeResult$Kind;"), (0, .fieldref 8 14), (0, .nameAndType 15 16), (0, u "node"), (0, u "Ljava/lang/Object;"), (0, .fieldref 8 18), (0, .nameAndType 19 20), (0, u "name"), (0, u "Ljava/lang/String;"), (0, .fieldref 8 22), (0, .nameAndType 23 24), (0, u "index"), (0, u "I"), (1, .class_ 28), (1, u "com/example/referent/referent/RelativeResult$Kind"), (3, .methodref 8 33), (0, .nameAndType 5 34), (0, u "(Lcom/example/referent/referent/RelativeResult$Kind;Ljava/lang/Object;Ljava/lang/String;I)V"), (3, .fieldref 26 39), (0, .nameAndType 40 12), (0, u "INDEX"), (0, .methodref 42 43), (0, .class_ 44), (0, .nameAndType 45 46), (0, u "java/util/Objects"), (0, u "equals"), (0, u "(Ljava/lang/Object;Ljava/lang/Object;)Z"), (13, u "()I"), (34, u "ofIndex"), (0, u "(I)Lcom/example/referent/referent/RelativeResult;"), (1, u "()Lcom/example/referent/referent/RelativeResult$Kind;"), (0, u "()Ljava/lang/Object;"), (1, u "()Ljava/lang/String;"), (0, u "(Ljava/lang/Object;)Z")] 27

def k2c0 : Code := { maxStack := 2, maxLocals := 5, code := prog_19_method_1_code, exceptionTable := #[], attributes := #[] }
def k2m0 : Method := { name := "<init>", desc := "(Lcom/example/referent/referent/RelativeResult$Kind;Ljava/lang/Object;Ljava/lang/String;I)V", sig := { parameters := [(.object "com/example/referent/referent/RelativeResult$Kind"), (.object "java/lang/Object"), (.object "java/lang/String"), .int], returnType := none }, accessFlags := 2, code := some k2c0 }
def k2c1 : Code := { maxStack := 6, maxLocals := 1, code := prog_19_method_4_code, exceptionTable := #[], attributes := #[] }
def k2m1 : Method := { name := "ofIndex", desc := "(I)Lcom/example/referent/referent/RelativeResult;", sig := { parameters := [.int], returnType := some (.object "com/example/referent/referent/RelativeResult") }, accessFlags := 8, code := some k2c1 }
def k2c2 : Code := { maxStack := 1, maxLocals := 1, code := prog_19_method_5_code, exceptionTable := #[], attributes := #[] }
def k2m2 : Method := { name := "kind", desc := "()Lcom/example/referent/referent/RelativeResult$Kind;", sig := { parameters := [], returnType := some (.object "com/example/referent/referent/RelativeResult$Kind") }, accessFlags := 1, code := some k2c2 }
def k2c3 : Code := { maxStack := 1, maxLocals := 1, code := prog_19_method_6_code, exceptionTable := #[], attributes := #[] }
def k2m3 : Method := { name := "node", desc := "()Ljava/lang/Object;", sig := { parameters := [], returnType := some (.object "java/lang/Object") }, accessFlags := 1, code := some k2c3 }
def k2c4 : Code := { maxStack := 1, maxLocals := 1, code := prog_19_method_7_code, exceptionTable := #[], attributes := #[] }
def k2m4 : Method := { name := "name", desc := "()Ljava/lang/String;", sig := { parameters := [], returnType := some (.object "java/lang/String") }, accessFlags := 1, code := some k2c4 }
def k2c5 : Code := { maxStack := 1, maxLocals := 1, code := prog_19_method_8_code, exceptionTable := #[], attributes := #[] }
def k2m5 : Method := { name := "index", desc := "()I", sig := { parameters := [], returnType := some .int }, accessFlags := 1, code := some k2c5 }
def k2c6 : Code := { maxStack := 2, maxLocals := 3, code := prog_19_method_9_code, exceptionTable := #[], attributes := #[] }
def k2m6 : Method := { name := "equals", desc := "(Ljava/lang/Object;)Z", sig := { parameters := [(.object "java/lang/Object")], returnType := some .boolean }, accessFlags := 1, code := some k2c6 }
/-- com/example/referent/referent/RelativeResult -/
def k2 : Class := { plain "com/example/referent/referent/RelativeResult" (some 0) with
  accessFlags := 49
  interfaces := #[]
  cf := some (fileOf pool2 8 #[.nestMembers #[26]] #[{ accessFlags := 2, nameIndex := 5, descriptorIndex := 34, attributes := #[] }, { accessFlags := 8, nameIndex := 95, descriptorIndex := 96, attributes := #[] }, { accessFlags := 1, nameIndex := 11, descriptorIndex := 98, attributes := #[] }, { accessFlags := 1, nameIndex := 15, descriptorIndex := 99, attributes := #[] }, { accessFlags := 1, nameIndex := 19, descriptorIndex := 101, attributes := #[] }, { accessFlags := 1, nameIndex := 23, descriptorIndex := 60, attributes := #[] }, { accessFlags := 1, nameIndex := 45, descriptorIndex := 102, attributes := #[] }] 49 2 #[] #[{ accessFlags := 18, nameIndex := 11, descriptorIndex := 12, attributes := #[] }, { accessFlags := 18, nameIndex := 15, descriptorIndex := 16, attributes := #[] }, { accessFlags := 18, nameIndex := 19, descriptorIndex := 20, attributes := #[] }, { accessFlags := 18, nameIndex := 23, descriptorIndex := 24, attributes := #[] }])
  fields := #[{ name := "kind", type := (.object "com/example/referent/referent/RelativeResult$Kind"), accessFlags := 18, slot := 0, constantValue := 0 }, { name := "node", type := (.object "java/lang/Object"), accessFlags := 18, slot := 1, constantValue := 0 }, { name := "name", type := (.object "java/lang/String"), accessFlags := 18, slot := 2, constantValue := 0 }, { name := "index", type := .int, accessFlags := 18, slot := 3, constantValue := 0 }]
  methods := #[k2m0, k2m1, k2m2, k2m3, k2m4, k2m5, k2m6]
  instanceTypes := #[(.object "com/example/referent/referent/RelativeResult$Kind"), (.object "java/lang/Object"), (.object "java/lang/String"), .int]
  staticTypes := #[]
  resolved := Array.replicate 130 none
  statics := none }

def pool3 : Array CpInfo := pool [(1, .class_ 2), (0, u "java/lang/constant/Constable"), (0, .class_ 4), (0, u "java/lang/Object")] 6

/-- java/lang/constant/Constable -/
def k3 : Class := { plain "java/lang/constant/Constable" (some 0) with
  accessFlags := 1537
  interfaces := #[]
  cf := some (fileOf pool3 1 #[] #[] 1537 3 #[] #[])
  fields := #[]
  methods := #[]
  instanceTypes := #[]
  staticTypes := #[]
  resolved := Array.replicate 11 none
  statics := none }

def pool4 : Array CpInfo := pool [(1, .class_ 2), (0, u "java/lang/Comparable"), (0, .class_ 4), (0, u "java/lang/Object")] 7

/-- java/lang/Comparable -/
def k4 : Class := { plain "java/lang/Comparable" (some 0) with
  accessFlags := 1537
  interfaces := #[]
  cf := some (fileOf pool4 1 #[] #[] 1537 3 #[] #[])
  fields := #[]
  methods := #[]
  instanceTypes := #[]
  staticTypes := #[]
  resolved := Array.replicate 12 none
  statics := none }

def pool5 : Array CpInfo := pool [(1, .class_ 2), (0, u "java/io/Serializable"), (0, .class_ 4), (0, u "java/lang/Object")] 2

/-- java/io/Serializable -/
def k5 : Class := { plain "java/io/Serializable" (some 0) with
  accessFlags := 1537
  interfaces := #[]
  cf := some (fileOf pool5 1 #[] #[] 1537 3 #[] #[])
  fields := #[]
  methods := #[]
  instanceTypes := #[]
  staticTypes := #[]
  resolved := Array.replicate 7 none
  statics := none }

def pool6 : Array CpInfo := pool [(2, .class_ 4), (1, u "java/lang/Enum"), (0, u "name"), (0, u "Ljava/lang/String;"), (2, u "ordinal"), (0, u "I"), (1, .class_ 14), (1, u "java/lang/Object"), (4, u "hash"), (86, .class_ 108), (1, u "java/lang/Enum$EnumDesc"), (2, .class_ 112), (0, u "java/lang/constant/Constable"), (0, .class_ 114), (0, u "java/lang/Comparable"), (0, .class_ 116), (0, u "java/io/Serializable")] 87

/-- java/lang/Enum -/
def k6 : Class := { plain "java/lang/Enum" (some 0) with
  accessFlags := 1057
  interfaces := #[3, 4, 5]
  cf := some (fileOf pool6 2 #[.nestMembers #[106]] #[] 1057 12 #[111, 113, 115] #[{ accessFlags := 18, nameIndex := 5, descriptorIndex := 6, attributes := #[] }, { accessFlags := 18, nameIndex := 9, descriptorIndex := 10, attributes := #[] }, { accessFlags := 2, nameIndex := 19, descriptorIndex := 10, attributes := #[] }])
  fields := #[{ name := "name", type := (.object "java/lang/String"), accessFlags := 18, slot := 0, constantValue := 0 }, { name := "ordinal", type := .int, accessFlags := 18, slot := 1, constantValue := 0 }, { name := "hash", type := .int, accessFlags := 2, slot := 2, constantValue := 0 }]
  methods := #[]
  instanceTypes := #[(.object "java/lang/String"), .int, .int]
  staticTypes := #[]
  resolved := Array.replicate 204 none
  statics := none }

def pool7 : Array CpInfo := pool [(1, .class_ 2), (0, u "com/example/referent/referent/RelativeResult$Kind"), (2, u "NODE"), (0, u "Lcom/example/referent/referent/RelativeResult$Kind;"), (2, u "NAME"), (2, u "INDEX"), (2, u "$VALUES"), (0, u "[Lcom/example/referent/referent/RelativeResult$Kind;"), (6, .class_ 25), (1, u "java/lang/Enum"), (26, .class_ 53), (0, u "com/example/referent/referent/RelativeResult")] 2

/-- com/example/referent/referent/RelativeResult$Kind -/
def k7 : Class := { plain "com/example/referent/referent/RelativeResult$Kind" (some 6) with
  accessFlags := 16433
  interfaces := #[]
  cf := some (fileOf pool7 1 #[.nestHost 52] #[] 16433 23 #[] #[{ accessFlags := 16409, nameIndex := 5, descriptorIndex := 6, attributes := #[] }, { accessFlags := 16409, nameIndex := 9, descriptorIndex := 6, attributes := #[] }, { accessFlags := 16409, nameIndex := 12, descriptorIndex := 6, attributes := #[] }, { accessFlags := 4122, nameIndex := 15, descriptorIndex := 16, attributes := #[] }])
  fields := #[{ name := "NODE", type := (.object "com/example/referent/referent/RelativeResult$Kind"), accessFlags := 16409, slot := 0, constantValue := 0 }, { name := "NAME", type := (.object "com/example/referent/referent/RelativeResult$Kind"), accessFlags := 16409, slot := 1, constantValue := 0 }, { name := "INDEX", type := (.object "com/example/referent/referent/RelativeResult$Kind"), accessFlags := 16409, slot := 2, constantValue := 0 }, { name := "$VALUES", type := (.array (.object "com/example/referent/referent/RelativeResult$Kind")), accessFlags := 4122, slot := 3, constantValue := 0 }]
  methods := #[]
  instanceTypes := #[(.object "java/lang/String"), .int, .int]
  staticTypes := #[(.object "com/example/referent/referent/RelativeResult$Kind"), (.object "com/example/referent/referent/RelativeResult$Kind"), (.object "com/example/referent/referent/RelativeResult$Kind"), (.array (.object "com/example/referent/referent/RelativeResult$Kind"))]
  resolved := Array.replicate 56 none
  statics := some 0 }

def pool8 : Array CpInfo := pool [(2, .class_ 4), (1, u "java/lang/Object"), (0, u "<init>"), (0, u "()V"), (9, u "equals"), (6, u "(Ljava/lang/Object;Ljava/lang/Object;)Z"), (18, .class_ 44), (1, u "java/util/Objects")] 139

def k8m0 : Method := { name := "<init>", desc := "()V", sig := { parameters := [], returnType := none }, accessFlags := 2, code := none }
def k8c1 : Code := { maxStack := 2, maxLocals := 2, code := jdk_31_method_2_code, exceptionTable := #[], attributes := #[] }
def k8m1 : Method := { name := "equals", desc := "(Ljava/lang/Object;Ljava/lang/Object;)Z", sig := { parameters := [(.object "java/lang/Object"), (.object "java/lang/Object")], returnType := some .boolean }, accessFlags := 9, code := some k8c1 }
/-- java/util/Objects -/
def k8 : Class := { plain "java/util/Objects" (some 0) with
  accessFlags := 49
  interfaces := #[]
  cf := some (fileOf pool8 42 #[] #[{ accessFlags := 2, nameIndex := 5, descriptorIndex := 6, attributes := #[] }, { accessFlags := 9, nameIndex := 16, descriptorIndex := 23, attributes := #[] }] 49 2 #[] #[])
  fields := #[]
  methods := #[k8m0, k8m1]
  instanceTypes := #[]
  staticTypes := #[]
  resolved := Array.replicate 184 none
  statics := none }

def pool9 : Array CpInfo := pool [(1, u "java/lang/Cloneable"), (0, .class_ 1), (0, u "java/lang/Object"), (0, .class_ 3)] 3

/-- java/lang/Cloneable -/
def k9 : Class := { plain "java/lang/Cloneable" (some 0) with
  accessFlags := 1537
  interfaces := #[]
  cf := some (fileOf pool9 2 #[] #[] 1537 4 #[] #[])
  fields := #[]
  methods := #[]
  instanceTypes := #[]
  staticTypes := #[]
  resolved := Array.replicate 8 none
  statics := none }

/-- the primitive byte -/
def k10 : Class := { plain "byte" none with kind := .primitive 'B', accessFlags := 0x411 }
/-- [B -/
def k11 : Class := { plain "[B" (some 0) with kind := .array 10 .byte, interfaces := #[9, 5], accessFlags := 1041 }

/-- the primitive int -/
def k12 : Class := { plain "int" none with kind := .primitive 'I', accessFlags := 0x411 }
/-- [I -/
def k13 : Class := { plain "[I" (some 0) with kind := .array 12 .int, interfaces := #[9, 5], accessFlags := 1041 }

def heap : Heap := #[{ cls := 7, slots := #[.null, .null, .ref 1, .null], vm := .statics 7 },
  { cls := 7, slots := #[.null, .int 0, .int 0], vm := .none }]
def classes : Array Class := #[k0, k1, k2, k3, k4, k5, k6, k7, k8, k9, k10, k11, k12, k13]
def interned : List (Array UInt16 × Addr) := []
def slotsUsed : Nat := 7
def theMethod : MethodId := ⟨1, 1⟩
def args0 : Array Value := #[.int 5, .int 1, .int 2]
def aboutOver (below : List Frame) : State where
  vm := { classes := classes, interned := interned.toArray }
  heap := heap
  slotsUsed := slotsUsed
  threads := #[{ frames := .invoking theMethod args0 :: below }]
def below0 : List Frame := [.native { method := ⟨0, 0⟩, args := #[] }]
def about1 : State := aboutOver below0
def p0 : Program := .bare "" "" ""
def e0 : Env := launch0.env 0 0 0
theorem w_frames : about1.frames = Frame.invoking theMethod args0 :: below0 := rfl
set_option maxRecDepth 65536 in
theorem w_args : argsFit about1.vm theMethod args0 = true := by decide +kernel
set_option maxRecDepth 65536 in
theorem w_heap : heapFits about1 = true := by decide +kernel
set_option maxRecDepth 65536 in
theorem w_runnable : about1.curStatus? = some .runnable := by decide +kernel
set_option maxRecDepth 65536 in
theorem w_alone : about1.alone = true := by decide +kernel
set_option maxRecDepth 65536 in
theorem w_named : about1.methodNamed? x = some theMethod := by decide +kernel
set_option maxRecDepth 65536 in
theorem w_hears : about1.hears theMethod below0 = true := by decide +kernel
set_option maxRecDepth 65536 in
theorem w_ripe : about1.ripe theMethod args0 below0 = true := by decide +kernel
theorem w_running : about1.status = .running := rfl
set_option maxRecDepth 65536 in
theorem w_room : about1.hasRoom e0.platform room_1 = true :=
  launch0.hasRoom_least _ room_1 (by decide +kernel) (by decide +kernel) (by decide +kernel) (by decide +kernel) (by decide +kernel) (by decide +kernel)
theorem allAtoms_all (ts : List Jvm.Cond) (a : Array Jvm.Value) (st : Jvm.State) : (allAtoms ts).before a st = ts.all (fun c => c.before a st) := by
  induction ts with
  | nil => rfl
  | cons c t ih =>
    show (Jvm.Cond.and c (allAtoms t)).before a st = _
    rw [Jvm.Cond.before_and, ih, List.all_cons]
def words1 : List Jvm.Cond := Jvm.Cond.code x code maxLocals ret :: tables_1
/-- a 'code' word, met by the world's own term for the bytes: nothing is compared byte by byte -/
theorem code_word {y : MethodName} {bytes : ByteArray} {mx : Nat} {rt : Option FieldType} {a : Array Value} {s : State} {m : MethodId} {meth : Method} {c : Code} (h1 : s.methodNamed? y = some m) (h2 : s.vm.method? m = some meth) (h3 : meth.code = some c) (h4 : c.code = bytes)
    (h5 : (c.maxLocals == mx && c.exceptionTable.isEmpty && decide (c.maxStack ≤ mostOperands) && decide (meth.sig.returnType = rt) && !meth.locks && decide (parseMethodDescriptor y.desc = some meth.sig)) = true) : (Jvm.Cond.code y bytes mx rt).before a s = true := by
  simp only [Bool.and_eq_true, beq_iff_eq, Bool.not_eq_true', decide_eq_true_eq] at h5
  obtain ⟨⟨⟨⟨⟨g1, g2⟩, g3⟩, g4⟩, g5⟩, g6⟩ := h5
  simp [Cond.before, Cond.holds, Cond.value, h1, h2, h3, h4, g1, g2, g3, g4, g5, g6]
def isCode : Jvm.Cond → Bool
  | .code _ _ _ _ => true
  | _ => false
theorem all_split {L : List Jvm.Cond} {P : Jvm.Cond → Bool} (h1 : L.all (fun c => isCode c || P c) = true) (h2 : ∀ c ∈ L.filter isCode, P c = true) : L.all P = true := by
  refine List.all_eq_true.mpr fun c hc => ?_
  have h := List.all_eq_true.mp h1 c hc
  rcases Bool.eq_false_or_eq_true (isCode c) with hi | hi
  · exact h2 c (List.mem_filter.mpr ⟨hc, hi⟩)
  · simpa [hi] using h
set_option maxRecDepth 65536 in
theorem w_c0 : (Jvm.Cond.code x code maxLocals ret).before args0 about1 = true := code_word (m := ⟨1, 1⟩) (meth := k1m1) (c := k1c1) (by decide +kernel) rfl rfl rfl (by decide +kernel)
set_option maxRecDepth 65536 in
theorem w_c1 : (Jvm.Cond.code ({ cls := "com/example/referent/referent/RelativeResult", name := "ofIndex", desc := "(I)Lcom/example/referent/referent/RelativeResult;" } : Jvm.MethodName) prog_19_method_4_code (1 : Nat) (Option.some (Jvm.ClassFile.FieldType.object "com/example/referent/referent/RelativeResult"))).before args0 about1 = true := code_word (m := ⟨2, 1⟩) (meth := k2m1) (c := k2c1) (by decide +kernel) rfl rfl rfl (by decide +kernel)
set_option maxRecDepth 65536 in
theorem w_c2 : (Jvm.Cond.code ({ cls := "com/example/referent/referent/RelativeResult", name := "<init>", desc := "(Lcom/example/referent/referent/RelativeResult$Kind;Ljava/lang/Object;Ljava/lang/String;I)V" } : Jvm.MethodName) prog_19_method_1_code (5 : Nat) (Option.none : Option Jvm.ClassFile.FieldType)).before args0 about1 = true := code_word (m := ⟨2, 0⟩) (meth := k2m0) (c := k2c0) (by decide +kernel) rfl rfl rfl (by decide +kernel)
set_option maxRecDepth 65536 in
theorem w_c3 : (Jvm.Cond.code ({ cls := "java/lang/Object", name := "<init>", desc := "()V" } : Jvm.MethodName) object_method_1_code (1 : Nat) (Option.none : Option Jvm.ClassFile.FieldType)).before args0 about1 = true := code_word (m := ⟨0, 0⟩) (meth := k0m0) (c := k0c0) (by decide +kernel) rfl rfl rfl (by decide +kernel)
set_option maxRecDepth 65536 in
theorem w_c4 : (Jvm.Cond.code ({ cls := "com/example/referent/referent/RelativeResult", name := "kind", desc := "()Lcom/example/referent/referent/RelativeResult$Kind;" } : Jvm.MethodName) prog_19_method_5_code (1 : Nat) (Option.some (Jvm.ClassFile.FieldType.object "com/example/referent/referent/RelativeResult$Kind"))).before args0 about1 = true := code_word (m := ⟨2, 2⟩) (meth := k2m2) (c := k2c2) (by decide +kernel) rfl rfl rfl (by decide +kernel)
set_option maxRecDepth 65536 in
theorem w_c5 : (Jvm.Cond.code ({ cls := "com/example/referent/referent/RelativeResult", name := "index", desc := "()I" } : Jvm.MethodName) prog_19_method_8_code (1 : Nat) (Option.some Jvm.ClassFile.FieldType.int)).before args0 about1 = true := code_word (m := ⟨2, 5⟩) (meth := k2m5) (c := k2c5) (by decide +kernel) rfl rfl rfl (by decide +kernel)
set_option maxRecDepth 65536 in
theorem w_c6 : (Jvm.Cond.code ({ cls := "com/example/referent/referent/RelativeResult", name := "name", desc := "()Ljava/lang/String;" } : Jvm.MethodName) prog_19_method_7_code (1 : Nat) (Option.some (Jvm.ClassFile.FieldType.object "java/lang/String"))).before args0 about1 = true := code_word (m := ⟨2, 4⟩) (meth := k2m4) (c := k2c4) (by decide +kernel) rfl rfl rfl (by decide +kernel)
set_option maxRecDepth 65536 in
theorem w_c7 : (Jvm.Cond.code ({ cls := "com/example/referent/referent/RelativeResult", name := "node", desc := "()Ljava/lang/Object;" } : Jvm.MethodName) prog_19_method_6_code (1 : Nat) (Option.some (Jvm.ClassFile.FieldType.object "java/lang/Object"))).before args0 about1 = true := code_word (m := ⟨2, 3⟩) (meth := k2m3) (c := k2c3) (by decide +kernel) rfl rfl rfl (by decide +kernel)
set_option maxRecDepth 65536 in
theorem w_c8 : (Jvm.Cond.code ({ cls := "com/example/referent/referent/RelativeResult", name := "equals", desc := "(Ljava/lang/Object;)Z" } : Jvm.MethodName) prog_19_method_9_code (3 : Nat) (Option.some Jvm.ClassFile.FieldType.boolean)).before args0 about1 = true := code_word (m := ⟨2, 6⟩) (meth := k2m6) (c := k2c6) (by decide +kernel) rfl rfl rfl (by decide +kernel)
set_option maxRecDepth 65536 in
theorem w_c9 : (Jvm.Cond.code ({ cls := "java/util/Objects", name := "equals", desc := "(Ljava/lang/Object;Ljava/lang/Object;)Z" } : Jvm.MethodName) jdk_31_method_2_code (2 : Nat) (Option.some Jvm.ClassFile.FieldType.boolean)).before args0 about1 = true := code_word (m := ⟨8, 1⟩) (meth := k8m1) (c := k8c1) (by decide +kernel) rfl rfl rfl (by decide +kernel)
def codes1 : List Jvm.Cond := [Jvm.Cond.code x code maxLocals ret, Jvm.Cond.code ({ cls := "com/example/referent/referent/RelativeResult", name := "ofIndex", desc := "(I)Lcom/example/referent/referent/RelativeResult;" } : Jvm.MethodName) prog_19_method_4_code (1 : Nat) (Option.some (Jvm.ClassFile.FieldType.object "com/example/referent/referent/RelativeResult")), Jvm.Cond.code ({ cls := "com/example/referent/referent/RelativeResult", name := "<init>", desc := "(Lcom/example/referent/referent/RelativeResult$Kind;Ljava/lang/Object;Ljava/lang/String;I)V" } : Jvm.MethodName) prog_19_method_1_code (5 : Nat) (Option.none : Option Jvm.ClassFile.FieldType), Jvm.Cond.code ({ cls := "java/lang/Object", name := "<init>", desc := "()V" } : Jvm.MethodName) object_method_1_code (1 : Nat) (Option.none : Option Jvm.ClassFile.FieldType), Jvm.Cond.code ({ cls := "com/example/referent/referent/RelativeResult", name := "kind", desc := "()Lcom/example/referent/referent/RelativeResult$Kind;" } : Jvm.MethodName) prog_19_method_5_code (1 : Nat) (Option.some (Jvm.ClassFile.FieldType.object "com/example/referent/referent/RelativeResult$Kind")), Jvm.Cond.code ({ cls := "com/example/referent/referent/RelativeResult", name := "index", desc := "()I" } : Jvm.MethodName) prog_19_method_8_code (1 : Nat) (Option.some Jvm.ClassFile.FieldType.int), Jvm.Cond.code ({ cls := "com/example/referent/referent/RelativeResult", name := "name", desc := "()Ljava/lang/String;" } : Jvm.MethodName) prog_19_method_7_code (1 : Nat) (Option.some (Jvm.ClassFile.FieldType.object "java/lang/String")), Jvm.Cond.code ({ cls := "com/example/referent/referent/RelativeResult", name := "node", desc := "()Ljava/lang/Object;" } : Jvm.MethodName) prog_19_method_6_code (1 : Nat) (Option.some (Jvm.ClassFile.FieldType.object "java/lang/Object")), Jvm.Cond.code ({ cls := "com/example/referent/referent/RelativeResult", name := "equals", desc := "(Ljava/lang/Object;)Z" } : Jvm.MethodName) prog_19_method_9_code (3 : Nat) (Option.some Jvm.ClassFile.FieldType.boolean), Jvm.Cond.code ({ cls := "java/util/Objects", name := "equals", desc := "(Ljava/lang/Object;Ljava/lang/Object;)Z" } : Jvm.MethodName) jdk_31_method_2_code (2 : Nat) (Option.some Jvm.ClassFile.FieldType.boolean)]
set_option maxRecDepth 65536 in
theorem codes_eq : words1.filter isCode = codes1 := rfl
theorem w_codes : ∀ c ∈ words1.filter isCode, c.before args0 about1 = true := by
  rw [codes_eq]
  intro c hc
  simp only [codes1, List.mem_cons, List.not_mem_nil, or_false] at hc
  rcases hc with rfl | rfl | rfl | rfl | rfl | rfl | rfl | rfl | rfl | rfl
  · exact w_c0
  · exact w_c1
  · exact w_c2
  · exact w_c3
  · exact w_c4
  · exact w_c5
  · exact w_c6
  · exact w_c7
  · exact w_c8
  · exact w_c9
set_option maxRecDepth 65536 in
theorem w_t1 : (words1.take 24).all (fun c => isCode c || c.before args0 about1) = true := by decide +kernel
set_option maxRecDepth 65536 in
theorem w_t2 : ((words1.drop 24).take 24).all (fun c => isCode c || c.before args0 about1) = true := by decide +kernel
set_option maxRecDepth 65536 in
theorem w_t3 : ((words1.drop 24).drop 24).all (fun c => isCode c || c.before args0 about1) = true := by decide +kernel
theorem w_tables : (allAtoms (Jvm.Cond.code x code maxLocals ret :: tables_1)).before args0 about1 = true := by
  rw [allAtoms_all]
  show words1.all (fun c => c.before args0 about1) = true
  refine all_split ?_ w_codes
  rw [← List.take_append_drop 24 words1, List.all_append, w_t1, ← List.take_append_drop 24 (words1.drop 24), List.all_append, w_t2, w_t3]
  rfl
set_option maxRecDepth 65536 in
theorem w_case : (Jvm.Cond.and given_1 narrow_1).before args0 about1 = true := by decide +kernel
theorem w_applies : (headSpec (Jvm.Cond.code x code maxLocals ret :: tables_1) room_1).applies x e0.platform about1 = true :=
  (Spec.applies_iff w_frames).mpr ⟨w_running, w_runnable, w_alone, w_named, w_hears, w_ripe, w_room, w_tables⟩
theorem atStart : AtStart classFile x code maxLocals ret World_1 tables_1 room_1 Calls_1 rest_1 Pre_1 launch0 p0 e0 about1 theMethod args0 below0 :=
  ⟨lists_1, trivial, launch0.admits_env _ _ _, launch0.least_env, fairChoices_fair.cas, fairChoices_fair.clock, w_frames, w_args, w_heap, w_applies, trivial, trivial, w_case⟩
end start1
theorem witness_1 : WitnessClaimed_1 := ⟨start1.p0, start1.e0, start1.about1, start1.theMethod, start1.args0, start1.below0, start1.atStart⟩
end Jvm.Pilot.@@N@@
