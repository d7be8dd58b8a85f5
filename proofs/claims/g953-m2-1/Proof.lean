import JvmDerived
import JvmDerived.Pilot.@@N@@Statement
import JvmDerived.Pilot.@@N@@Code
set_option linter.unusedVariables false
set_option linter.unusedSimpArgs false
namespace Jvm.RoadKit
open Sem ClassFile Op Lib Jvm.Stand Jvm.Free Jvm.LawKit
section New
variable {p : Program} {l : Launch} {e : Env} {R : Room} {s : State} {m : MethodId} {args : Array Value} {below : List Frame} {meth : Method} {c : Code} {T : State} {locs : List Loc} {cells slots : Nat}
theorem retI (X : Stand p l e R s m args below meth c T locs cells slots) (hx : p.tables.exec = Jvm.exec) {pc : Nat} {Ls : Array Slot} {z : Int32} {rest : List Value} (hret : meth.sig.returnType = some .int) (hd : decode c.code pc = .ok (.ireturn, 1)) {fs : List Frame}
    (hl : ∀ (f : JFrame) (acts : List Action), f.method = m → f.locked = none → f.entered = [] → (doReturn e (T.setTop f) acts (some (.int z))).1 = T.setFrames fs) : Steps p.tables e below (T.setTop (mkF m pc Ls (.int z :: rest))) (T.setFrames fs) :=
  retOut X hx hret rfl (Or.inl ⟨rfl, Or.inl rfl, z, rfl⟩) hd hl
end New
section Carry
variable {Z : State} {h h' : Heap} {C n d : String} {v : Value}
theorem own_ns0 : ∀ x ∈ ([] : List Addr), ∀ c : Cell, h[x]? = some c → c.vm.isStatics = false := fun _ q => nomatch q
theorem own_nsS {a : Addr} {K : String} {L : List Addr} (F : Exa Z h a K) (r : ∀ x ∈ L, ∀ c : Cell, h[x]? = some c → c.vm.isStatics = false) : ∀ x ∈ a :: L, ∀ c : Cell, h[x]? = some c → c.vm.isStatics = false := fun x z c hc => by
  rcases List.mem_cons.mp z with rfl | z
  · obtain ⟨c1, _, h1, -, -, h4, -⟩ := F
    cases h1.symm.trans hc; exact h4
  · exact r x z c hc
theorem own_sta_keep {ws : List Addr} (F : Sta Z h C n d v) (K : Keep h h' ws) (q : ∀ x ∈ ws, ∀ c : Cell, h[x]? = some c → c.vm.isStatics = false) : Sta Z h' C n d v := by
  obtain ⟨cf, i, k, f, st, cell, h1, h2, h3, h4, h5, h6, h7⟩ := F
  exact ⟨cf, i, k, f, st, cell, h1, h2, h3, h4, K.2.1 st cell h5 (fun z => by rw [q st z cell h5] at h6; cases h6), h6, h7⟩
theorem own_fitc {a : Addr} {cl : Cell} {ty : FieldType} {vs : List Value} {d : Value} (A : Arr Z h a cl ty) (H : Has cl vs d) (G : ∀ i, i < cl.slots.size → fits ty (vs.getD i d) = true) : FitC Z cl :=
  fitC_of A fun i hi v hv => by rw [H i hi] at hv; cases hv; exact G i hi
theorem own_evI {args : Array Value} {s : State} {t : Term} {k : Int32} (hh : (Cond.eq t (.int k)).value args s none s [] = some true) : t.eval args s none [] s = some (.int k) := by
  cases hf : t.eval args s none [] s with
  | none => simp [Cond.value, hf] at hh
  | some w => cases w <;> simp [Cond.value, hf, Term.eval] at hh ⊢; exact hh
theorem own_evJ {args : Array Value} {s : State} {t : Term} {k : Int64} (hh : (Cond.eq t (.long k)).value args s none s [] = some true) : t.eval args s none [] s = some (.long k) := by
  cases hf : t.eval args s none [] s with
  | none => simp [Cond.value, hf] at hh
  | some w => cases w <;> simp [Cond.value, hf, Term.eval] at hh ⊢; exact hh
theorem own_evR {args : Array Value} {s : State} {t u : Term} {y : Addr} (hu : u.eval args s none [] s = some (.ref y)) (hh : (Cond.eq t u).value args s none s [] = some true) : t.eval args s none [] s = some (.ref y) := by
  cases hf : t.eval args s none [] s with
  | none => simp [Cond.value, hf] at hh
  | some w => cases w <;> simp [Cond.value, hf, hu] at hh ⊢; exact hh
theorem own_elem {args : Array Value} {s : State} {t u : Term} {x y : Addr} {k : Int32} {cl : Cell} (ht : t.eval args s none [] s = some (.ref x)) (hu : u.eval args s none [] s = some (.ref y)) (hc : s.heap[x]? = some cl) (hh : (Cond.eq (.elem t (.int k)) u).value args s none s [] = some true) : cl.slots[k.toNatClampNeg]? = some (.ref y) :=
  (elem_in (own_evR hu hh) ht rfl hc).2
theorem own_arv {args : Array Value} {s : State} {t : Term} {a : Addr} {c : Cell} {ty : FieldType} {z : Int32} {vs : List Value} {dv : Value} (hf : Fit s) (ev : t.eval args s none [] s = some (.ref a)) (A : Arr s s.heap a c ty) (hl : (Cond.eq (.length t) (.int z)).value args s none s [] = some true) (hz : ¬ z < 0) (hn : z.toNatClampNeg = vs.length) (H : HasL c 0 vs) : Arv s s.heap a c.cls ty z vs dv := by
  have e1 := own_evI hl
  have e2 : s.arrayAt? a = some c := A.fin (Vm.Alike.refl _)
  have q : c.slots.size < 2 ^ 31 := by
    apply Decidable.byContradiction
    intro hq
    simp [Term.eval, ev, e2, hq] at e1
  have e3 := len_f ev e2 q
  exact Arv.start hf A q (Value.int.inj (Option.some.inj (e3.symm.trans e1))) hz hn H
theorem own_lam {s : State} {a0 : Array Value} {y : MethodName} {m : MethodId} {pc index : Nat} {σ : Lambda.Shape} (hZ : Z.Warmed39 s.vm) (w : (Cond.lambdaSite y pc index σ).before a0 Z = true) (hcap : σ.captured = []) (hn : s.methodNamed? y = some m) :
    ∃ (k : Class) (i0 p0 : Nat) (a : Addr), s.vm.classes[m.cls]? = some k ∧ (k.callSites.find? fun z => z.1 == m.idx && z.2.1 == pc) = some (i0, p0, .constant a) := by
  obtain ⟨c, one, hat⟩ := Cond.lambdaSite_spec w
  obtain ⟨m', kS, cfS, i0, p0, lk, hm', hkS, -, -, -, hfind, -, -, hlk⟩ := State.lambdaAt?_spec hat
  have e1 : s.methodNamed? y = Z.methodNamed? y := State.methodNamed?_setVm (s := Z) hZ.alike y
  rw [e1, hm'] at hn
  cases hn
  obtain ⟨k', hk', he⟩ := hZ.alike.2.2 _ _ hkS
  rcases hlk with ⟨a, cell, rfl, -⟩ | ⟨-, -, h⟩
  · exact ⟨k', i0, p0, a, hk', by rw [he]; exact hfind⟩
  · exact absurd hcap h
theorem own_cmp_self (x : Int64) : lcmpW x x = 0 := (lcW x x).trans ((lc_eq x x).mpr rfl)
theorem own_cmp_lt (x : Int64) : ¬ (lcmpW x x < (0 : Int32)) := by rw [own_cmp_self]; decide
theorem own_cmp_gt (x : Int64) : ¬ ((0 : Int32) < lcmpW x x) := by rw [own_cmp_self]; decide
theorem own_sel_priv {s : State} {args args' : Array Value} {K : String} {y z z' : MethodName} (w : (Cond.selects K z' z).before args s = true) (hz : z.cls = y.cls) (hpriv : s.PrivateAt y) (hinst : (Cond.instanceMethod y).before args' s = true) (hy : y.cls ≠ "java/lang/invoke/MethodHandle" ∧ y.cls ≠ "java/lang/invoke/VarHandle") : (Cond.selects y.cls y y).before args' s = true := by
  obtain ⟨c2, r2, m2, q1, q2, q3, q4, kP, hkP, hkPi⟩ := Cond.selects_spec w
  have hc : s.vm.findClass z.cls = some m2.cls := findClass_of_methodNamed q3
  rw [hz] at hc
  exact selects_self_of_private hc hkP hkPi hpriv hinst hy
theorem own_lt_ne {a b : Int32} (q : a < b) : ¬ (a = b) := by intro z; subst z; exact Int32.lt_irrefl q
theorem own_gt_ne {a b : Int32} (q : b < a) : ¬ (a = b) := by intro z; subst z; exact Int32.lt_irrefl q
theorem own_eq_nlt {a b : Int32} (q : a = b) : ¬ (a < b) := by subst q; exact Int32.lt_irrefl
theorem own_nlt {a b : Int32} (q : b < a) : ¬ (a < b) := fun z => Int32.lt_irrefl (Int32.lt_trans z q)
theorem own_tri2 {a b : Int32} (q : ¬ (a = b)) (r : ¬ (b < a)) : a < b := by
  rw [← Int32.toInt_inj] at q; rw [Int32.lt_iff_toInt_lt] at r ⊢; omega
theorem own_fldI {args : Array Value} {s : State} {t : Term} {x : Addr} {C n d : String} {k : Int32} (ht : t.eval args s none [] s = some (.ref x)) (hh : (Cond.eq (.field t C n d) (.int k)).value args s none s [] = some true) : Fld s s.heap x C n d (.int k) :=
  Fld.start ((fld_at ht).symm.trans (own_evI hh))
theorem own_fldJ {args : Array Value} {s : State} {t : Term} {x : Addr} {C n d : String} {k : Int64} (ht : t.eval args s none [] s = some (.ref x)) (hh : (Cond.eq (.field t C n d) (.long k)).value args s none s [] = some true) : Fld s s.heap x C n d (.long k) :=
  Fld.start ((fld_at ht).symm.trans (own_evJ hh))
theorem own_fldN {args : Array Value} {s : State} {t : Term} {x : Addr} {C n d : String} (ht : t.eval args s none [] s = some (.ref x)) (hh : (Cond.eq (.field t C n d) .null).value args s none s [] = some true) : Fld s s.heap x C n d .null := by
  refine Fld.start ?_
  have e1 : (Term.field t C n d).eval args s none [] s = s.fieldOf? x C n d := fld_at ht
  rw [← e1]; exact null_v hh
theorem own_fldR {args : Array Value} {s : State} {t u : Term} {x y : Addr} {C n d : String} (ht : t.eval args s none [] s = some (.ref x)) (hu : u.eval args s none [] s = some (.ref y)) (hh : (Cond.eq (.field t C n d) u).value args s none s [] = some true) : Fld s s.heap x C n d (.ref y) :=
  Fld.start ((fld_at ht).symm.trans (own_evR hu hh))
end Carry
end Jvm.RoadKit
namespace Jvm.Pilot.@@N@@
open Jvm Jvm.ClassFile Sem Op Lib Jvm.Free Jvm.Stand Jvm.LawKit Jvm.RoadKit Bundle Jvm.Pilot.@@N@@.Jvm.D
theorem own_w11 {Z : State} {a0 : Array Value} (hw : ∀ d ∈ tables_1, d.before a0 Z = true) : (Jvm.Cond.laysStatic "com/example/hubclear/hubclear/Rational" "ONE" "Lcom/example/hubclear/hubclear/Rational;").before a0 Z = true := hw _ (List.mem_of_getElem? (i := 11) rfl)
theorem own_w10 {Z : State} {a0 : Array Value} (hw : ∀ d ∈ tables_1, d.before a0 Z = true) : (Jvm.Cond.initialized "com/example/hubclear/hubclear/Rational").before a0 Z = true := hw _ (List.mem_of_getElem? (i := 10) rfl)
theorem own_w77 {Z : State} {a0 : Array Value} (hw : ∀ d ∈ tables_1, d.before a0 Z = true) : (Jvm.Cond.laysStatic "com/example/hubclear/hubclear/Rational" "ZERO" "Lcom/example/hubclear/hubclear/Rational;").before a0 Z = true := hw _ (List.mem_of_getElem? (i := 77) rfl)
theorem own_w0 {Z : State} {a0 : Array Value} (hw : ∀ d ∈ tables_1, d.before a0 Z = true) : (Jvm.Cond.methodLink "com/example/hubclear/hubclear/clearing/SparseVectorUnitPinLaw" (26 : Nat) ({ cls := "com/example/hubclear/hubclear/clearing/SparseVector", name := "unit", desc := "(I)Lcom/example/hubclear/hubclear/clearing/SparseVector;" } : Jvm.MethodName)).before a0 Z = true := hw _ (List.mem_of_getElem? (i := 0) rfl)
theorem d1_0 : decode prog_51_method_2_code 0 = .ok (.new 8, 3) := by decide +kernel
theorem own_w4 {Z : State} {a0 : Array Value} (hw : ∀ d ∈ tables_1, d.before a0 Z = true) : (Jvm.Cond.classLink "com/example/hubclear/hubclear/clearing/SparseVector" (8 : Nat) "com/example/hubclear/hubclear/clearing/SparseVector").before a0 Z = true := hw _ (List.mem_of_getElem? (i := 4) rfl)
theorem own_w5 {Z : State} {a0 : Array Value} (hw : ∀ d ∈ tables_1, d.before a0 Z = true) : (Jvm.Cond.instantiable "com/example/hubclear/hubclear/clearing/SparseVector" (3 : Nat)).before a0 Z = true := hw _ (List.mem_of_getElem? (i := 5) rfl)
theorem own_w2 {Z : State} {a0 : Array Value} (hw : ∀ d ∈ tables_1, d.before a0 Z = true) : (Jvm.Cond.initialized "com/example/hubclear/hubclear/clearing/SparseVector").before a0 Z = true := hw _ (List.mem_of_getElem? (i := 2) rfl)
theorem own_w20 {Z : State} {a0 : Array Value} (hw : ∀ d ∈ tables_1, d.before a0 Z = true) : (Jvm.Cond.laysFinal "com/example/hubclear/hubclear/clearing/SparseVector" "com/example/hubclear/hubclear/clearing/SparseVector" "indices" "[I").before a0 Z = true := hw _ (List.mem_of_getElem? (i := 20) rfl)
theorem own_w22 {Z : State} {a0 : Array Value} (hw : ∀ d ∈ tables_1, d.before a0 Z = true) : (Jvm.Cond.laysFinal "com/example/hubclear/hubclear/clearing/SparseVector" "com/example/hubclear/hubclear/clearing/SparseVector" "values" "[Lcom/example/hubclear/hubclear/Rational;").before a0 Z = true := hw _ (List.mem_of_getElem? (i := 22) rfl)
theorem own_w24 {Z : State} {a0 : Array Value} (hw : ∀ d ∈ tables_1, d.before a0 Z = true) : (Jvm.Cond.laysFinal "com/example/hubclear/hubclear/clearing/SparseVector" "com/example/hubclear/hubclear/clearing/SparseVector" "size" "I").before a0 Z = true := hw _ (List.mem_of_getElem? (i := 24) rfl)
theorem d1_3 : decode prog_51_method_2_code 3 = .ok (.dup, 1) := by decide +kernel
theorem d1_4 : decode prog_51_method_2_code 4 = .ok (.iconst 1, 1) := by decide +kernel
theorem d1_5 : decode prog_51_method_2_code 5 = .ok (.newarray .int, 2) := by decide +kernel
theorem own_w6 {Z : State} {a0 : Array Value} (hw : ∀ d ∈ tables_1, d.before a0 Z = true) : (Jvm.Cond.arrayClass Jvm.ClassFile.FieldType.int).before a0 Z = true := hw _ (List.mem_of_getElem? (i := 6) rfl)
theorem d1_7 : decode prog_51_method_2_code 7 = .ok (.dup, 1) := by decide +kernel
theorem d1_8 : decode prog_51_method_2_code 8 = .ok (.iconst 0, 1) := by decide +kernel
theorem d1_9 : decode prog_51_method_2_code 9 = .ok (.iload_n 0, 1) := by decide +kernel
theorem d1_10 : decode prog_51_method_2_code 10 = .ok (.iastore, 1) := by decide +kernel
theorem d1_11 : decode prog_51_method_2_code 11 = .ok (.iconst 1, 1) := by decide +kernel
theorem d1_12 : decode prog_51_method_2_code 12 = .ok (.anewarray 21, 3) := by decide +kernel
theorem own_w7 {Z : State} {a0 : Array Value} (hw : ∀ d ∈ tables_1, d.before a0 Z = true) : (Jvm.Cond.classLink "com/example/hubclear/hubclear/clearing/SparseVector" (21 : Nat) "com/example/hubclear/hubclear/Rational").before a0 Z = true := hw _ (List.mem_of_getElem? (i := 7) rfl)
theorem own_w8 {Z : State} {a0 : Array Value} (hw : ∀ d ∈ tables_1, d.before a0 Z = true) : (Jvm.Cond.arrayOver (Jvm.ClassFile.FieldType.object "com/example/hubclear/hubclear/Rational")).before a0 Z = true := hw _ (List.mem_of_getElem? (i := 8) rfl)
theorem d1_15 : decode prog_51_method_2_code 15 = .ok (.dup, 1) := by decide +kernel
theorem d1_16 : decode prog_51_method_2_code 16 = .ok (.iconst 0, 1) := by decide +kernel
theorem d1_17 : decode prog_51_method_2_code 17 = .ok (.getstatic 23, 3) := by decide +kernel
theorem own_w9 {Z : State} {a0 : Array Value} (hw : ∀ d ∈ tables_1, d.before a0 Z = true) : (Jvm.Cond.fieldLink "com/example/hubclear/hubclear/clearing/SparseVector" (23 : Nat) "com/example/hubclear/hubclear/Rational" "ONE" "Lcom/example/hubclear/hubclear/Rational;").before a0 Z = true := hw _ (List.mem_of_getElem? (i := 9) rfl)
theorem d1_20 : decode prog_51_method_2_code 20 = .ok (.aastore, 1) := by decide +kernel
theorem d1_21 : decode prog_51_method_2_code 21 = .ok (.iconst 1, 1) := by decide +kernel
theorem d1_22 : decode prog_51_method_2_code 22 = .ok (.invokespecial 27, 3) := by decide +kernel
theorem own_w13 {Z : State} {a0 : Array Value} (hw : ∀ d ∈ tables_1, d.before a0 Z = true) : (Jvm.Cond.methodLink "com/example/hubclear/hubclear/clearing/SparseVector" (27 : Nat) ({ cls := "com/example/hubclear/hubclear/clearing/SparseVector", name := "<init>", desc := "([I[Lcom/example/hubclear/hubclear/Rational;I)V" } : Jvm.MethodName)).before a0 Z = true := hw _ (List.mem_of_getElem? (i := 13) rfl)
theorem d2_0 : decode prog_51_method_1_code 0 = .ok (.aload_n 0, 1) := by decide +kernel
theorem d2_1 : decode prog_51_method_1_code 1 = .ok (.invokespecial 1, 3) := by decide +kernel
theorem own_w16 {Z : State} {a0 : Array Value} (hw : ∀ d ∈ tables_1, d.before a0 Z = true) : (Jvm.Cond.methodLink "com/example/hubclear/hubclear/clearing/SparseVector" (1 : Nat) ({ cls := "java/lang/Object", name := "<init>", desc := "()V" } : Jvm.MethodName)).before a0 Z = true := hw _ (List.mem_of_getElem? (i := 16) rfl)
theorem own_w17 {Z : State} {a0 : Array Value} (hw : ∀ d ∈ tables_1, d.before a0 Z = true) : (Jvm.Cond.instanceMethod ({ cls := "java/lang/Object", name := "<init>", desc := "()V" } : Jvm.MethodName)).before a0 Z = true := hw _ (List.mem_of_getElem? (i := 17) rfl)
theorem own_w18 {Z : State} {a0 : Array Value} (hw : ∀ d ∈ tables_1, d.before a0 Z = true) : (Jvm.Cond.code ({ cls := "java/lang/Object", name := "<init>", desc := "()V" } : Jvm.MethodName) object_method_1_code (1 : Nat) (Option.none : Option Jvm.ClassFile.FieldType)).before a0 Z = true := hw _ (List.mem_of_getElem? (i := 18) rfl)
theorem d2_4 : decode prog_51_method_1_code 4 = .ok (.aload_n 0, 1) := by decide +kernel
theorem d2_5 : decode prog_51_method_1_code 5 = .ok (.aload_n 1, 1) := by decide +kernel
theorem d2_6 : decode prog_51_method_1_code 6 = .ok (.putfield 7, 3) := by decide +kernel
theorem own_w19 {Z : State} {a0 : Array Value} (hw : ∀ d ∈ tables_1, d.before a0 Z = true) : (Jvm.Cond.fieldLink "com/example/hubclear/hubclear/clearing/SparseVector" (7 : Nat) "com/example/hubclear/hubclear/clearing/SparseVector" "indices" "[I").before a0 Z = true := hw _ (List.mem_of_getElem? (i := 19) rfl)
theorem d2_9 : decode prog_51_method_1_code 9 = .ok (.aload_n 0, 1) := by decide +kernel
theorem d2_10 : decode prog_51_method_1_code 10 = .ok (.aload_n 2, 1) := by decide +kernel
theorem d2_11 : decode prog_51_method_1_code 11 = .ok (.putfield 13, 3) := by decide +kernel
theorem own_w21 {Z : State} {a0 : Array Value} (hw : ∀ d ∈ tables_1, d.before a0 Z = true) : (Jvm.Cond.fieldLink "com/example/hubclear/hubclear/clearing/SparseVector" (13 : Nat) "com/example/hubclear/hubclear/clearing/SparseVector" "values" "[Lcom/example/hubclear/hubclear/Rational;").before a0 Z = true := hw _ (List.mem_of_getElem? (i := 21) rfl)
theorem d2_14 : decode prog_51_method_1_code 14 = .ok (.aload_n 0, 1) := by decide +kernel
theorem d2_15 : decode prog_51_method_1_code 15 = .ok (.iload_n 3, 1) := by decide +kernel
theorem d2_16 : decode prog_51_method_1_code 16 = .ok (.putfield 17, 3) := by decide +kernel
theorem own_w23 {Z : State} {a0 : Array Value} (hw : ∀ d ∈ tables_1, d.before a0 Z = true) : (Jvm.Cond.fieldLink "com/example/hubclear/hubclear/clearing/SparseVector" (17 : Nat) "com/example/hubclear/hubclear/clearing/SparseVector" "size" "I").before a0 Z = true := hw _ (List.mem_of_getElem? (i := 23) rfl)
theorem d2_19 : decode prog_51_method_1_code 19 = .ok (.return_, 1) := by decide +kernel
theorem pn_com_example_hubclear_hubclear_clearing_SparseVector : plainName "com/example/hubclear/hubclear/clearing/SparseVector" = true := by first | (simp [plainName, overriddenIn]; done) | decide +kernel
theorem own_w15 {Z : State} {a0 : Array Value} (hw : ∀ d ∈ tables_1, d.before a0 Z = true) : (Jvm.Cond.code ({ cls := "com/example/hubclear/hubclear/clearing/SparseVector", name := "<init>", desc := "([I[Lcom/example/hubclear/hubclear/Rational;I)V" } : Jvm.MethodName) prog_51_method_1_code (4 : Nat) (Option.none : Option Jvm.ClassFile.FieldType)).before a0 Z = true := hw _ (List.mem_of_getElem? (i := 15) rfl)
theorem pd___I_Lcom_example_hubclear_hubclear_Rational_I_V : parseMethodDescriptor "([I[Lcom/example/hubclear/hubclear/Rational;I)V" = some ⟨[(.array .int), (.array (.object "com/example/hubclear/hubclear/Rational")), .int], none⟩ := by decide +kernel
theorem own_w14 {Z : State} {a0 : Array Value} (hw : ∀ d ∈ tables_1, d.before a0 Z = true) : (Jvm.Cond.instanceMethod ({ cls := "com/example/hubclear/hubclear/clearing/SparseVector", name := "<init>", desc := "([I[Lcom/example/hubclear/hubclear/Rational;I)V" } : Jvm.MethodName)).before a0 Z = true := hw _ (List.mem_of_getElem? (i := 14) rfl)
theorem d1_25 : decode prog_51_method_2_code 25 = .ok (.areturn, 1) := by decide +kernel
theorem own_w3 {Z : State} {a0 : Array Value} (hw : ∀ d ∈ tables_1, d.before a0 Z = true) : (Jvm.Cond.code ({ cls := "com/example/hubclear/hubclear/clearing/SparseVector", name := "unit", desc := "(I)Lcom/example/hubclear/hubclear/clearing/SparseVector;" } : Jvm.MethodName) prog_51_method_2_code (1 : Nat) (Option.some (Jvm.ClassFile.FieldType.object "com/example/hubclear/hubclear/clearing/SparseVector"))).before a0 Z = true := hw _ (List.mem_of_getElem? (i := 3) rfl)
theorem pd__I_Lcom_example_hubclear_hubclear_clearing_SparseVector_ : parseMethodDescriptor "(I)Lcom/example/hubclear/hubclear/clearing/SparseVector;" = some ⟨[.int], some (.object "com/example/hubclear/hubclear/clearing/SparseVector")⟩ := by decide +kernel
theorem own_w1 {Z : State} {a0 : Array Value} (hw : ∀ d ∈ tables_1, d.before a0 Z = true) : (Jvm.Cond.static ({ cls := "com/example/hubclear/hubclear/clearing/SparseVector", name := "unit", desc := "(I)Lcom/example/hubclear/hubclear/clearing/SparseVector;" } : Jvm.MethodName)).before a0 Z = true := hw _ (List.mem_of_getElem? (i := 1) rfl)
theorem own_w25 {Z : State} {a0 : Array Value} (hw : ∀ d ∈ tables_1, d.before a0 Z = true) : (Jvm.Cond.methodLink "com/example/hubclear/hubclear/clearing/SparseVectorUnitPinLaw" (30 : Nat) ({ cls := "com/example/hubclear/hubclear/clearing/SparseVector", name := "size", desc := "()I" } : Jvm.MethodName)).before a0 Z = true := hw _ (List.mem_of_getElem? (i := 25) rfl)
theorem d4_0 : decode prog_51_method_3_code 0 = .ok (.aload_n 0, 1) := by decide +kernel
theorem d4_1 : decode prog_51_method_3_code 1 = .ok (.getfield 17, 3) := by decide +kernel
theorem d4_4 : decode prog_51_method_3_code 4 = .ok (.ireturn, 1) := by decide +kernel
theorem own_w29 {Z : State} {a0 : Array Value} (hw : ∀ d ∈ tables_1, d.before a0 Z = true) : (Jvm.Cond.code ({ cls := "com/example/hubclear/hubclear/clearing/SparseVector", name := "size", desc := "()I" } : Jvm.MethodName) prog_51_method_3_code (1 : Nat) (Option.some Jvm.ClassFile.FieldType.int)).before a0 Z = true := hw _ (List.mem_of_getElem? (i := 29) rfl)
theorem pd___I : parseMethodDescriptor "()I" = some ⟨[], some .int⟩ := by decide +kernel
theorem own_w28 {Z : State} {a0 : Array Value} (hw : ∀ d ∈ tables_1, d.before a0 Z = true) : (Jvm.Cond.selects "com/example/hubclear/hubclear/clearing/SparseVector" ({ cls := "com/example/hubclear/hubclear/clearing/SparseVector", name := "size", desc := "()I" } : Jvm.MethodName) ({ cls := "com/example/hubclear/hubclear/clearing/SparseVector", name := "size", desc := "()I" } : Jvm.MethodName)).before a0 Z = true := hw _ (List.mem_of_getElem? (i := 28) rfl)
theorem own_w26 {Z : State} {a0 : Array Value} (hw : ∀ d ∈ tables_1, d.before a0 Z = true) : (Jvm.Cond.declares ({ cls := "com/example/hubclear/hubclear/clearing/SparseVector", name := "size", desc := "()I" } : Jvm.MethodName)).before a0 Z = true := hw _ (List.mem_of_getElem? (i := 26) rfl)
theorem own_w27 {Z : State} {a0 : Array Value} (hw : ∀ d ∈ tables_1, d.before a0 Z = true) : (Jvm.Cond.instanceMethod ({ cls := "com/example/hubclear/hubclear/clearing/SparseVector", name := "size", desc := "()I" } : Jvm.MethodName)).before a0 Z = true := hw _ (List.mem_of_getElem? (i := 27) rfl)
theorem own_w30 {Z : State} {a0 : Array Value} (hw : ∀ d ∈ tables_1, d.before a0 Z = true) : (Jvm.Cond.methodLink "com/example/hubclear/hubclear/clearing/SparseVectorUnitPinLaw" (34 : Nat) ({ cls := "com/example/hubclear/hubclear/clearing/SparseVector", name := "index", desc := "(I)I" } : Jvm.MethodName)).before a0 Z = true := hw _ (List.mem_of_getElem? (i := 30) rfl)
theorem d5_0 : decode prog_51_method_4_code 0 = .ok (.aload_n 0, 1) := by decide +kernel
theorem d5_1 : decode prog_51_method_4_code 1 = .ok (.getfield 7, 3) := by decide +kernel
theorem d5_4 : decode prog_51_method_4_code 4 = .ok (.iload_n 1, 1) := by decide +kernel
theorem d5_5 : decode prog_51_method_4_code 5 = .ok (.iaload, 1) := by decide +kernel
theorem d5_6 : decode prog_51_method_4_code 6 = .ok (.ireturn, 1) := by decide +kernel
theorem own_w34 {Z : State} {a0 : Array Value} (hw : ∀ d ∈ tables_1, d.before a0 Z = true) : (Jvm.Cond.code ({ cls := "com/example/hubclear/hubclear/clearing/SparseVector", name := "index", desc := "(I)I" } : Jvm.MethodName) prog_51_method_4_code (2 : Nat) (Option.some Jvm.ClassFile.FieldType.int)).before a0 Z = true := hw _ (List.mem_of_getElem? (i := 34) rfl)
theorem pd__I_I : parseMethodDescriptor "(I)I" = some ⟨[.int], some .int⟩ := by decide +kernel
theorem own_w33 {Z : State} {a0 : Array Value} (hw : ∀ d ∈ tables_1, d.before a0 Z = true) : (Jvm.Cond.selects "com/example/hubclear/hubclear/clearing/SparseVector" ({ cls := "com/example/hubclear/hubclear/clearing/SparseVector", name := "index", desc := "(I)I" } : Jvm.MethodName) ({ cls := "com/example/hubclear/hubclear/clearing/SparseVector", name := "index", desc := "(I)I" } : Jvm.MethodName)).before a0 Z = true := hw _ (List.mem_of_getElem? (i := 33) rfl)
theorem own_w31 {Z : State} {a0 : Array Value} (hw : ∀ d ∈ tables_1, d.before a0 Z = true) : (Jvm.Cond.declares ({ cls := "com/example/hubclear/hubclear/clearing/SparseVector", name := "index", desc := "(I)I" } : Jvm.MethodName)).before a0 Z = true := hw _ (List.mem_of_getElem? (i := 31) rfl)
theorem own_w32 {Z : State} {a0 : Array Value} (hw : ∀ d ∈ tables_1, d.before a0 Z = true) : (Jvm.Cond.instanceMethod ({ cls := "com/example/hubclear/hubclear/clearing/SparseVector", name := "index", desc := "(I)I" } : Jvm.MethodName)).before a0 Z = true := hw _ (List.mem_of_getElem? (i := 32) rfl)
theorem own_w35 {Z : State} {a0 : Array Value} (hw : ∀ d ∈ tables_1, d.before a0 Z = true) : (Jvm.Cond.fieldLink "com/example/hubclear/hubclear/clearing/SparseVectorUnitPinLaw" (7 : Nat) "com/example/hubclear/hubclear/Rational" "ONE" "Lcom/example/hubclear/hubclear/Rational;").before a0 Z = true := hw _ (List.mem_of_getElem? (i := 35) rfl)
theorem own_w36 {Z : State} {a0 : Array Value} (hw : ∀ d ∈ tables_1, d.before a0 Z = true) : (Jvm.Cond.methodLink "com/example/hubclear/hubclear/clearing/SparseVectorUnitPinLaw" (38 : Nat) ({ cls := "com/example/hubclear/hubclear/clearing/SparseVector", name := "value", desc := "(I)Lcom/example/hubclear/hubclear/Rational;" } : Jvm.MethodName)).before a0 Z = true := hw _ (List.mem_of_getElem? (i := 36) rfl)
theorem d6_0 : decode prog_51_method_5_code 0 = .ok (.aload_n 0, 1) := by decide +kernel
theorem d6_1 : decode prog_51_method_5_code 1 = .ok (.getfield 13, 3) := by decide +kernel
theorem d6_4 : decode prog_51_method_5_code 4 = .ok (.iload_n 1, 1) := by decide +kernel
theorem d6_5 : decode prog_51_method_5_code 5 = .ok (.aaload, 1) := by decide +kernel
theorem d6_6 : decode prog_51_method_5_code 6 = .ok (.areturn, 1) := by decide +kernel
theorem own_w40 {Z : State} {a0 : Array Value} (hw : ∀ d ∈ tables_1, d.before a0 Z = true) : (Jvm.Cond.code ({ cls := "com/example/hubclear/hubclear/clearing/SparseVector", name := "value", desc := "(I)Lcom/example/hubclear/hubclear/Rational;" } : Jvm.MethodName) prog_51_method_5_code (2 : Nat) (Option.some (Jvm.ClassFile.FieldType.object "com/example/hubclear/hubclear/Rational"))).before a0 Z = true := hw _ (List.mem_of_getElem? (i := 40) rfl)
theorem pd__I_Lcom_example_hubclear_hubclear_Rational_ : parseMethodDescriptor "(I)Lcom/example/hubclear/hubclear/Rational;" = some ⟨[.int], some (.object "com/example/hubclear/hubclear/Rational")⟩ := by decide +kernel
theorem own_w39 {Z : State} {a0 : Array Value} (hw : ∀ d ∈ tables_1, d.before a0 Z = true) : (Jvm.Cond.selects "com/example/hubclear/hubclear/clearing/SparseVector" ({ cls := "com/example/hubclear/hubclear/clearing/SparseVector", name := "value", desc := "(I)Lcom/example/hubclear/hubclear/Rational;" } : Jvm.MethodName) ({ cls := "com/example/hubclear/hubclear/clearing/SparseVector", name := "value", desc := "(I)Lcom/example/hubclear/hubclear/Rational;" } : Jvm.MethodName)).before a0 Z = true := hw _ (List.mem_of_getElem? (i := 39) rfl)
theorem own_w37 {Z : State} {a0 : Array Value} (hw : ∀ d ∈ tables_1, d.before a0 Z = true) : (Jvm.Cond.declares ({ cls := "com/example/hubclear/hubclear/clearing/SparseVector", name := "value", desc := "(I)Lcom/example/hubclear/hubclear/Rational;" } : Jvm.MethodName)).before a0 Z = true := hw _ (List.mem_of_getElem? (i := 37) rfl)
theorem own_w38 {Z : State} {a0 : Array Value} (hw : ∀ d ∈ tables_1, d.before a0 Z = true) : (Jvm.Cond.instanceMethod ({ cls := "com/example/hubclear/hubclear/clearing/SparseVector", name := "value", desc := "(I)Lcom/example/hubclear/hubclear/Rational;" } : Jvm.MethodName)).before a0 Z = true := hw _ (List.mem_of_getElem? (i := 38) rfl)
theorem own_w41 {Z : State} {a0 : Array Value} (hw : ∀ d ∈ tables_1, d.before a0 Z = true) : (Jvm.Cond.methodLink "com/example/hubclear/hubclear/clearing/SparseVectorUnitPinLaw" (22 : Nat) ({ cls := "com/example/hubclear/hubclear/Rational", name := "equals", desc := "(Ljava/lang/Object;)Z" } : Jvm.MethodName)).before a0 Z = true := hw _ (List.mem_of_getElem? (i := 41) rfl)
theorem d7_0 : decode prog_18_method_28_code 0 = .ok (.aload_n 1, 1) := by decide +kernel
theorem d7_1 : decode prog_18_method_28_code 1 = .ok (.instanceof 10, 3) := by decide +kernel
theorem own_w46 {Z : State} {a0 : Array Value} (hw : ∀ d ∈ tables_1, d.before a0 Z = true) : (Jvm.Cond.classLink "com/example/hubclear/hubclear/Rational" (10 : Nat) "com/example/hubclear/hubclear/Rational").before a0 Z = true := hw _ (List.mem_of_getElem? (i := 46) rfl)
theorem d7_4 : decode prog_18_method_28_code 4 = .ok (.ifCond .eq 11, 3) := by decide +kernel
theorem d7_7 : decode prog_18_method_28_code 7 = .ok (.aload_n 1, 1) := by decide +kernel
theorem d7_8 : decode prog_18_method_28_code 8 = .ok (.checkcast 10, 3) := by decide +kernel
theorem d7_11 : decode prog_18_method_28_code 11 = .ok (.astore_n 2, 1) := by decide +kernel
theorem d7_12 : decode prog_18_method_28_code 12 = .ok (.goto 5, 3) := by decide +kernel
theorem d7_17 : decode prog_18_method_28_code 17 = .ok (.aload_n 0, 1) := by decide +kernel
theorem d7_18 : decode prog_18_method_28_code 18 = .ok (.invokevirtual 71, 3) := by decide +kernel
theorem own_w47 {Z : State} {a0 : Array Value} (hw : ∀ d ∈ tables_1, d.before a0 Z = true) : (Jvm.Cond.methodLink "com/example/hubclear/hubclear/Rational" (71 : Nat) ({ cls := "com/example/hubclear/hubclear/Rational", name := "isSmall", desc := "()Z" } : Jvm.MethodName)).before a0 Z = true := hw _ (List.mem_of_getElem? (i := 47) rfl)
theorem d8_0 : decode prog_18_method_6_code 0 = .ok (.aload_n 0, 1) := by decide +kernel
theorem d8_1 : decode prog_18_method_6_code 1 = .ok (.getfield 18, 3) := by decide +kernel
theorem own_w51 {Z : State} {a0 : Array Value} (hw : ∀ d ∈ tables_1, d.before a0 Z = true) : (Jvm.Cond.fieldLink "com/example/hubclear/hubclear/Rational" (18 : Nat) "com/example/hubclear/hubclear/Rational" "bigNumerator" "Ljava/math/BigInteger;").before a0 Z = true := hw _ (List.mem_of_getElem? (i := 51) rfl)
theorem d8_4 : decode prog_18_method_6_code 4 = .ok (.ifnonnull 7, 3) := by decide +kernel
theorem d8_7 : decode prog_18_method_6_code 7 = .ok (.iconst 1, 1) := by decide +kernel
theorem d8_8 : decode prog_18_method_6_code 8 = .ok (.goto 4, 3) := by decide +kernel
theorem d8_12 : decode prog_18_method_6_code 12 = .ok (.ireturn, 1) := by decide +kernel
theorem pn_com_example_hubclear_hubclear_Rational : plainName "com/example/hubclear/hubclear/Rational" = true := by first | (simp [plainName, overriddenIn]; done) | decide +kernel
theorem own_w50 {Z : State} {a0 : Array Value} (hw : ∀ d ∈ tables_1, d.before a0 Z = true) : (Jvm.Cond.code ({ cls := "com/example/hubclear/hubclear/Rational", name := "isSmall", desc := "()Z" } : Jvm.MethodName) prog_18_method_6_code (1 : Nat) (Option.some Jvm.ClassFile.FieldType.boolean)).before a0 Z = true := hw _ (List.mem_of_getElem? (i := 50) rfl)
theorem pd___Z : parseMethodDescriptor "()Z" = some ⟨[], some .boolean⟩ := by decide +kernel
theorem own_w48 {Z : State} {a0 : Array Value} (hw : ∀ d ∈ tables_1, d.before a0 Z = true) : (Jvm.Cond.instanceMethod ({ cls := "com/example/hubclear/hubclear/Rational", name := "isSmall", desc := "()Z" } : Jvm.MethodName)).before a0 Z = true := hw _ (List.mem_of_getElem? (i := 48) rfl)
theorem own_w44 {Z : State} {a0 : Array Value} (hw : ∀ d ∈ tables_1, d.before a0 Z = true) : (Jvm.Cond.selects "com/example/hubclear/hubclear/Rational" ({ cls := "com/example/hubclear/hubclear/Rational", name := "equals", desc := "(Ljava/lang/Object;)Z" } : Jvm.MethodName) ({ cls := "com/example/hubclear/hubclear/Rational", name := "equals", desc := "(Ljava/lang/Object;)Z" } : Jvm.MethodName)).before a0 Z = true := hw _ (List.mem_of_getElem? (i := 44) rfl)
theorem own_w49 {Z : State} {a0 : Array Value} (hw : ∀ d ∈ tables_1, d.before a0 Z = true) : (Jvm.Cond.privateMethod ({ cls := "com/example/hubclear/hubclear/Rational", name := "isSmall", desc := "()Z" } : Jvm.MethodName)).before a0 Z = true := hw _ (List.mem_of_getElem? (i := 49) rfl)
theorem d7_21 : decode prog_18_method_28_code 21 = .ok (.ifCond .ne 10, 3) := by decide +kernel
theorem d7_31 : decode prog_18_method_28_code 31 = .ok (.aload_n 0, 1) := by decide +kernel
theorem d7_32 : decode prog_18_method_28_code 32 = .ok (.invokevirtual 71, 3) := by decide +kernel
theorem d7_35 : decode prog_18_method_28_code 35 = .ok (.ifCond .eq 38, 3) := by decide +kernel
theorem d7_38 : decode prog_18_method_28_code 38 = .ok (.aload_n 2, 1) := by decide +kernel
theorem d7_39 : decode prog_18_method_28_code 39 = .ok (.invokevirtual 71, 3) := by decide +kernel
theorem d7_42 : decode prog_18_method_28_code 42 = .ok (.ifCond .eq 31, 3) := by decide +kernel
theorem d7_45 : decode prog_18_method_28_code 45 = .ok (.aload_n 0, 1) := by decide +kernel
theorem d7_46 : decode prog_18_method_28_code 46 = .ok (.getfield 9, 3) := by decide +kernel
theorem own_w53 {Z : State} {a0 : Array Value} (hw : ∀ d ∈ tables_1, d.before a0 Z = true) : (Jvm.Cond.fieldLink "com/example/hubclear/hubclear/Rational" (9 : Nat) "com/example/hubclear/hubclear/Rational" "numerator" "J").before a0 Z = true := hw _ (List.mem_of_getElem? (i := 53) rfl)
theorem d7_49 : decode prog_18_method_28_code 49 = .ok (.aload_n 2, 1) := by decide +kernel
theorem d7_50 : decode prog_18_method_28_code 50 = .ok (.getfield 9, 3) := by decide +kernel
theorem d7_53 : decode prog_18_method_28_code 53 = .ok (.lcmp, 1) := by decide +kernel
theorem d7_54 : decode prog_18_method_28_code 54 = .ok (.ifCond .ne 19, 3) := by decide +kernel
theorem d7_57 : decode prog_18_method_28_code 57 = .ok (.aload_n 0, 1) := by decide +kernel
theorem d7_58 : decode prog_18_method_28_code 58 = .ok (.getfield 15, 3) := by decide +kernel
theorem own_w55 {Z : State} {a0 : Array Value} (hw : ∀ d ∈ tables_1, d.before a0 Z = true) : (Jvm.Cond.fieldLink "com/example/hubclear/hubclear/Rational" (15 : Nat) "com/example/hubclear/hubclear/Rational" "denominator" "J").before a0 Z = true := hw _ (List.mem_of_getElem? (i := 55) rfl)
theorem d7_61 : decode prog_18_method_28_code 61 = .ok (.aload_n 2, 1) := by decide +kernel
theorem d7_62 : decode prog_18_method_28_code 62 = .ok (.getfield 15, 3) := by decide +kernel
theorem d7_65 : decode prog_18_method_28_code 65 = .ok (.lcmp, 1) := by decide +kernel
theorem d7_66 : decode prog_18_method_28_code 66 = .ok (.ifCond .ne 7, 3) := by decide +kernel
theorem d7_69 : decode prog_18_method_28_code 69 = .ok (.iconst 1, 1) := by decide +kernel
theorem d7_70 : decode prog_18_method_28_code 70 = .ok (.goto 4, 3) := by decide +kernel
theorem d7_74 : decode prog_18_method_28_code 74 = .ok (.ireturn, 1) := by decide +kernel
theorem own_w45 {Z : State} {a0 : Array Value} (hw : ∀ d ∈ tables_1, d.before a0 Z = true) : (Jvm.Cond.code ({ cls := "com/example/hubclear/hubclear/Rational", name := "equals", desc := "(Ljava/lang/Object;)Z" } : Jvm.MethodName) prog_18_method_28_code (3 : Nat) (Option.some Jvm.ClassFile.FieldType.boolean)).before a0 Z = true := hw _ (List.mem_of_getElem? (i := 45) rfl)
theorem pd__Ljava_lang_Object__Z : parseMethodDescriptor "(Ljava/lang/Object;)Z" = some ⟨[(.object "java/lang/Object")], some .boolean⟩ := by decide +kernel
theorem own_w42 {Z : State} {a0 : Array Value} (hw : ∀ d ∈ tables_1, d.before a0 Z = true) : (Jvm.Cond.declares ({ cls := "com/example/hubclear/hubclear/Rational", name := "equals", desc := "(Ljava/lang/Object;)Z" } : Jvm.MethodName)).before a0 Z = true := hw _ (List.mem_of_getElem? (i := 42) rfl)
theorem own_w43 {Z : State} {a0 : Array Value} (hw : ∀ d ∈ tables_1, d.before a0 Z = true) : (Jvm.Cond.instanceMethod ({ cls := "com/example/hubclear/hubclear/Rational", name := "equals", desc := "(Ljava/lang/Object;)Z" } : Jvm.MethodName)).before a0 Z = true := hw _ (List.mem_of_getElem? (i := 43) rfl)
theorem own_w57 {Z : State} {a0 : Array Value} (hw : ∀ d ∈ tables_1, d.before a0 Z = true) : (Jvm.Cond.methodLink "com/example/hubclear/hubclear/clearing/SparseVectorUnitPinLaw" (16 : Nat) ({ cls := "com/example/hubclear/hubclear/clearing/SparseVector", name := "get", desc := "(I)Lcom/example/hubclear/hubclear/Rational;" } : Jvm.MethodName)).before a0 Z = true := hw _ (List.mem_of_getElem? (i := 57) rfl)
theorem d9_0 : decode prog_51_method_6_code 0 = .ok (.aload_n 0, 1) := by decide +kernel
theorem d9_1 : decode prog_51_method_6_code 1 = .ok (.getfield 7, 3) := by decide +kernel
theorem d9_4 : decode prog_51_method_6_code 4 = .ok (.iconst 0, 1) := by decide +kernel
theorem d9_5 : decode prog_51_method_6_code 5 = .ok (.aload_n 0, 1) := by decide +kernel
theorem d9_6 : decode prog_51_method_6_code 6 = .ok (.getfield 17, 3) := by decide +kernel
theorem d9_9 : decode prog_51_method_6_code 9 = .ok (.iload_n 1, 1) := by decide +kernel
theorem d9_10 : decode prog_51_method_6_code 10 = .ok (.invokestatic 30, 3) := by decide +kernel
theorem own_w62 {Z : State} {a0 : Array Value} (hw : ∀ d ∈ tables_1, d.before a0 Z = true) : (Jvm.Cond.methodLink "com/example/hubclear/hubclear/clearing/SparseVector" (30 : Nat) ({ cls := "java/util/Arrays", name := "binarySearch", desc := "([IIII)I" } : Jvm.MethodName)).before a0 Z = true := hw _ (List.mem_of_getElem? (i := 62) rfl)
theorem d10_0 : decode jdk_65_method_58_code 0 = .ok (.aload_n 0, 1) := by decide +kernel
theorem d10_1 : decode jdk_65_method_58_code 1 = .ok (.arraylength, 1) := by decide +kernel
theorem d10_2 : decode jdk_65_method_58_code 2 = .ok (.iload_n 1, 1) := by decide +kernel
theorem d10_3 : decode jdk_65_method_58_code 3 = .ok (.iload_n 2, 1) := by decide +kernel
theorem d10_4 : decode jdk_65_method_58_code 4 = .ok (.invokestatic 13, 3) := by decide +kernel
theorem own_w66 {Z : State} {a0 : Array Value} (hw : ∀ d ∈ tables_1, d.before a0 Z = true) : (Jvm.Cond.methodLink "java/util/Arrays" (13 : Nat) ({ cls := "java/util/Arrays", name := "rangeCheck", desc := "(III)V" } : Jvm.MethodName)).before a0 Z = true := hw _ (List.mem_of_getElem? (i := 66) rfl)
theorem d11_0 : decode jdk_65_method_30_code 0 = .ok (.iload_n 1, 1) := by decide +kernel
theorem d11_1 : decode jdk_65_method_30_code 1 = .ok (.iload_n 2, 1) := by decide +kernel
theorem d11_2 : decode jdk_65_method_30_code 2 = .ok (.if_icmp .le 44, 3) := by decide +kernel
theorem d11_46 : decode jdk_65_method_30_code 46 = .ok (.iload_n 1, 1) := by decide +kernel
theorem d11_47 : decode jdk_65_method_30_code 47 = .ok (.ifCond .ge 12, 3) := by decide +kernel
theorem d11_59 : decode jdk_65_method_30_code 59 = .ok (.iload_n 2, 1) := by decide +kernel
theorem d11_60 : decode jdk_65_method_30_code 60 = .ok (.iload_n 0, 1) := by decide +kernel
theorem d11_61 : decode jdk_65_method_30_code 61 = .ok (.if_icmp .le 12, 3) := by decide +kernel
theorem d11_73 : decode jdk_65_method_30_code 73 = .ok (.return_, 1) := by decide +kernel
theorem pn_java_util_Arrays : plainName "java/util/Arrays" = true := by first | (simp [plainName, overriddenIn]; done) | decide +kernel
theorem own_w68 {Z : State} {a0 : Array Value} (hw : ∀ d ∈ tables_1, d.before a0 Z = true) : (Jvm.Cond.code ({ cls := "java/util/Arrays", name := "rangeCheck", desc := "(III)V" } : Jvm.MethodName) jdk_65_method_30_code (3 : Nat) (Option.none : Option Jvm.ClassFile.FieldType)).before a0 Z = true := hw _ (List.mem_of_getElem? (i := 68) rfl)
theorem own_w64 {Z : State} {a0 : Array Value} (hw : ∀ d ∈ tables_1, d.before a0 Z = true) : (Jvm.Cond.initialized "java/util/Arrays").before a0 Z = true := hw _ (List.mem_of_getElem? (i := 64) rfl)
theorem pd__III_V : parseMethodDescriptor "(III)V" = some ⟨[.int, .int, .int], none⟩ := by decide +kernel
theorem own_w67 {Z : State} {a0 : Array Value} (hw : ∀ d ∈ tables_1, d.before a0 Z = true) : (Jvm.Cond.static ({ cls := "java/util/Arrays", name := "rangeCheck", desc := "(III)V" } : Jvm.MethodName)).before a0 Z = true := hw _ (List.mem_of_getElem? (i := 67) rfl)
theorem d10_7 : decode jdk_65_method_58_code 7 = .ok (.aload_n 0, 1) := by decide +kernel
theorem d10_8 : decode jdk_65_method_58_code 8 = .ok (.iload_n 1, 1) := by decide +kernel
theorem d10_9 : decode jdk_65_method_58_code 9 = .ok (.iload_n 2, 1) := by decide +kernel
theorem d10_10 : decode jdk_65_method_58_code 10 = .ok (.iload_n 3, 1) := by decide +kernel
theorem d10_11 : decode jdk_65_method_58_code 11 = .ok (.invokestatic 209, 3) := by decide +kernel
theorem own_w69 {Z : State} {a0 : Array Value} (hw : ∀ d ∈ tables_1, d.before a0 Z = true) : (Jvm.Cond.methodLink "java/util/Arrays" (209 : Nat) ({ cls := "java/util/Arrays", name := "binarySearch0", desc := "([IIII)I" } : Jvm.MethodName)).before a0 Z = true := hw _ (List.mem_of_getElem? (i := 69) rfl)
theorem d12_0 : decode jdk_65_method_59_code 0 = .ok (.iload_n 1, 1) := by decide +kernel
theorem d12_1 : decode jdk_65_method_59_code 1 = .ok (.istore 4, 2) := by decide +kernel
theorem d12_3 : decode jdk_65_method_59_code 3 = .ok (.iload_n 2, 1) := by decide +kernel
theorem d12_4 : decode jdk_65_method_59_code 4 = .ok (.iconst 1, 1) := by decide +kernel
theorem d12_5 : decode jdk_65_method_59_code 5 = .ok (.isub, 1) := by decide +kernel
theorem d12_6 : decode jdk_65_method_59_code 6 = .ok (.istore 5, 2) := by decide +kernel
theorem d12_8 : decode jdk_65_method_59_code 8 = .ok (.iload 4, 2) := by decide +kernel
theorem d12_10 : decode jdk_65_method_59_code 10 = .ok (.iload 5, 2) := by decide +kernel
theorem d12_12 : decode jdk_65_method_59_code 12 = .ok (.if_icmp .gt 54, 3) := by decide +kernel
theorem d12_15 : decode jdk_65_method_59_code 15 = .ok (.iload 4, 2) := by decide +kernel
theorem d12_17 : decode jdk_65_method_59_code 17 = .ok (.iload 5, 2) := by decide +kernel
theorem d12_19 : decode jdk_65_method_59_code 19 = .ok (.iadd, 1) := by decide +kernel
theorem d12_20 : decode jdk_65_method_59_code 20 = .ok (.iconst 1, 1) := by decide +kernel
theorem d12_21 : decode jdk_65_method_59_code 21 = .ok (.iushr, 1) := by decide +kernel
theorem d12_22 : decode jdk_65_method_59_code 22 = .ok (.istore 6, 2) := by decide +kernel
theorem d12_24 : decode jdk_65_method_59_code 24 = .ok (.aload_n 0, 1) := by decide +kernel
theorem d12_25 : decode jdk_65_method_59_code 25 = .ok (.iload 6, 2) := by decide +kernel
theorem d12_27 : decode jdk_65_method_59_code 27 = .ok (.iaload, 1) := by decide +kernel
theorem d12_28 : decode jdk_65_method_59_code 28 = .ok (.istore 7, 2) := by decide +kernel
theorem d12_30 : decode jdk_65_method_59_code 30 = .ok (.iload 7, 2) := by decide +kernel
theorem d12_32 : decode jdk_65_method_59_code 32 = .ok (.iload_n 3, 1) := by decide +kernel
theorem d12_33 : decode jdk_65_method_59_code 33 = .ok (.if_icmp .ge 12, 3) := by decide +kernel
theorem d12_45 : decode jdk_65_method_59_code 45 = .ok (.iload 7, 2) := by decide +kernel
theorem d12_47 : decode jdk_65_method_59_code 47 = .ok (.iload_n 3, 1) := by decide +kernel
theorem d12_48 : decode jdk_65_method_59_code 48 = .ok (.if_icmp .le 12, 3) := by decide +kernel
theorem d12_60 : decode jdk_65_method_59_code 60 = .ok (.iload 6, 2) := by decide +kernel
theorem d12_62 : decode jdk_65_method_59_code 62 = .ok (.ireturn, 1) := by decide +kernel
theorem own_w71 {Z : State} {a0 : Array Value} (hw : ∀ d ∈ tables_1, d.before a0 Z = true) : (Jvm.Cond.code ({ cls := "java/util/Arrays", name := "binarySearch0", desc := "([IIII)I" } : Jvm.MethodName) jdk_65_method_59_code (8 : Nat) (Option.some Jvm.ClassFile.FieldType.int)).before a0 Z = true := hw _ (List.mem_of_getElem? (i := 71) rfl)
theorem pd___IIII_I : parseMethodDescriptor "([IIII)I" = some ⟨[(.array .int), .int, .int, .int], some .int⟩ := by decide +kernel
theorem own_w70 {Z : State} {a0 : Array Value} (hw : ∀ d ∈ tables_1, d.before a0 Z = true) : (Jvm.Cond.static ({ cls := "java/util/Arrays", name := "binarySearch0", desc := "([IIII)I" } : Jvm.MethodName)).before a0 Z = true := hw _ (List.mem_of_getElem? (i := 70) rfl)
theorem d10_14 : decode jdk_65_method_58_code 14 = .ok (.ireturn, 1) := by decide +kernel
theorem own_w65 {Z : State} {a0 : Array Value} (hw : ∀ d ∈ tables_1, d.before a0 Z = true) : (Jvm.Cond.code ({ cls := "java/util/Arrays", name := "binarySearch", desc := "([IIII)I" } : Jvm.MethodName) jdk_65_method_58_code (4 : Nat) (Option.some Jvm.ClassFile.FieldType.int)).before a0 Z = true := hw _ (List.mem_of_getElem? (i := 65) rfl)
theorem own_w63 {Z : State} {a0 : Array Value} (hw : ∀ d ∈ tables_1, d.before a0 Z = true) : (Jvm.Cond.static ({ cls := "java/util/Arrays", name := "binarySearch", desc := "([IIII)I" } : Jvm.MethodName)).before a0 Z = true := hw _ (List.mem_of_getElem? (i := 63) rfl)
theorem d9_13 : decode prog_51_method_6_code 13 = .ok (.istore_n 2, 1) := by decide +kernel
theorem d9_14 : decode prog_51_method_6_code 14 = .ok (.iload_n 2, 1) := by decide +kernel
theorem d9_15 : decode prog_51_method_6_code 15 = .ok (.ifCond .ge 9, 3) := by decide +kernel
theorem d9_24 : decode prog_51_method_6_code 24 = .ok (.aload_n 0, 1) := by decide +kernel
theorem d9_25 : decode prog_51_method_6_code 25 = .ok (.getfield 13, 3) := by decide +kernel
theorem d9_28 : decode prog_51_method_6_code 28 = .ok (.iload_n 2, 1) := by decide +kernel
theorem d9_29 : decode prog_51_method_6_code 29 = .ok (.aaload, 1) := by decide +kernel
theorem d9_30 : decode prog_51_method_6_code 30 = .ok (.areturn, 1) := by decide +kernel
theorem own_w61 {Z : State} {a0 : Array Value} (hw : ∀ d ∈ tables_1, d.before a0 Z = true) : (Jvm.Cond.code ({ cls := "com/example/hubclear/hubclear/clearing/SparseVector", name := "get", desc := "(I)Lcom/example/hubclear/hubclear/Rational;" } : Jvm.MethodName) prog_51_method_6_code (3 : Nat) (Option.some (Jvm.ClassFile.FieldType.object "com/example/hubclear/hubclear/Rational"))).before a0 Z = true := hw _ (List.mem_of_getElem? (i := 61) rfl)
theorem own_w60 {Z : State} {a0 : Array Value} (hw : ∀ d ∈ tables_1, d.before a0 Z = true) : (Jvm.Cond.selects "com/example/hubclear/hubclear/clearing/SparseVector" ({ cls := "com/example/hubclear/hubclear/clearing/SparseVector", name := "get", desc := "(I)Lcom/example/hubclear/hubclear/Rational;" } : Jvm.MethodName) ({ cls := "com/example/hubclear/hubclear/clearing/SparseVector", name := "get", desc := "(I)Lcom/example/hubclear/hubclear/Rational;" } : Jvm.MethodName)).before a0 Z = true := hw _ (List.mem_of_getElem? (i := 60) rfl)
theorem own_w58 {Z : State} {a0 : Array Value} (hw : ∀ d ∈ tables_1, d.before a0 Z = true) : (Jvm.Cond.declares ({ cls := "com/example/hubclear/hubclear/clearing/SparseVector", name := "get", desc := "(I)Lcom/example/hubclear/hubclear/Rational;" } : Jvm.MethodName)).before a0 Z = true := hw _ (List.mem_of_getElem? (i := 58) rfl)
theorem own_w59 {Z : State} {a0 : Array Value} (hw : ∀ d ∈ tables_1, d.before a0 Z = true) : (Jvm.Cond.instanceMethod ({ cls := "com/example/hubclear/hubclear/clearing/SparseVector", name := "get", desc := "(I)Lcom/example/hubclear/hubclear/Rational;" } : Jvm.MethodName)).before a0 Z = true := hw _ (List.mem_of_getElem? (i := 59) rfl)
theorem own_w72 {Z : State} {a0 : Array Value} (hw : ∀ d ∈ tables_1, d.before a0 Z = true) : (Jvm.Cond.methodLink "com/example/hubclear/hubclear/clearing/SparseVectorUnitPinLaw" (41 : Nat) ({ cls := "com/example/hubclear/hubclear/clearing/SparseVectorUnitPinLaw", name := "holdsAt", desc := "(Lcom/example/hubclear/hubclear/clearing/SparseVector;II)Z" } : Jvm.MethodName)).before a0 Z = true := hw _ (List.mem_of_getElem? (i := 72) rfl)
theorem d13_0 : decode method_2_code 0 = .ok (.iload_n 2, 1) := by decide +kernel
theorem d13_1 : decode method_2_code 1 = .ok (.iload_n 1, 1) := by decide +kernel
theorem d13_2 : decode method_2_code 2 = .ok (.if_icmp .ne 9, 3) := by decide +kernel
theorem d13_5 : decode method_2_code 5 = .ok (.getstatic 7, 3) := by decide +kernel
theorem d13_8 : decode method_2_code 8 = .ok (.goto 6, 3) := by decide +kernel
theorem d13_14 : decode method_2_code 14 = .ok (.astore_n 3, 1) := by decide +kernel
theorem d13_15 : decode method_2_code 15 = .ok (.aload_n 3, 1) := by decide +kernel
theorem d13_16 : decode method_2_code 16 = .ok (.aload_n 0, 1) := by decide +kernel
theorem d13_17 : decode method_2_code 17 = .ok (.iload_n 2, 1) := by decide +kernel
theorem d13_18 : decode method_2_code 18 = .ok (.invokevirtual 16, 3) := by decide +kernel
theorem d12_36 : decode jdk_65_method_59_code 36 = .ok (.iload 6, 2) := by decide +kernel
theorem d12_38 : decode jdk_65_method_59_code 38 = .ok (.iconst 1, 1) := by decide +kernel
theorem d12_39 : decode jdk_65_method_59_code 39 = .ok (.iadd, 1) := by decide +kernel
theorem d12_40 : decode jdk_65_method_59_code 40 = .ok (.istore 4, 2) := by decide +kernel
theorem d12_42 : decode jdk_65_method_59_code 42 = .ok (.goto 21, 3) := by decide +kernel
theorem d12_63 : decode jdk_65_method_59_code 63 = .ok (.goto (-55), 3) := by decide +kernel
theorem d12_66 : decode jdk_65_method_59_code 66 = .ok (.iload 4, 2) := by decide +kernel
theorem d12_68 : decode jdk_65_method_59_code 68 = .ok (.iconst 1, 1) := by decide +kernel
theorem d12_69 : decode jdk_65_method_59_code 69 = .ok (.iadd, 1) := by decide +kernel
theorem d12_70 : decode jdk_65_method_59_code 70 = .ok (.ineg, 1) := by decide +kernel
theorem d12_71 : decode jdk_65_method_59_code 71 = .ok (.ireturn, 1) := by decide +kernel
theorem d12_51 : decode jdk_65_method_59_code 51 = .ok (.iload 6, 2) := by decide +kernel
theorem d12_53 : decode jdk_65_method_59_code 53 = .ok (.iconst 1, 1) := by decide +kernel
theorem d12_54 : decode jdk_65_method_59_code 54 = .ok (.isub, 1) := by decide +kernel
theorem d12_55 : decode jdk_65_method_59_code 55 = .ok (.istore 5, 2) := by decide +kernel
theorem d12_57 : decode jdk_65_method_59_code 57 = .ok (.goto 6, 3) := by decide +kernel
theorem d9_18 : decode prog_51_method_6_code 18 = .ok (.getstatic 36, 3) := by decide +kernel
theorem own_w78 {Z : State} {a0 : Array Value} (hw : ∀ d ∈ tables_1, d.before a0 Z = true) : (Jvm.Cond.fieldLink "com/example/hubclear/hubclear/clearing/SparseVector" (36 : Nat) "com/example/hubclear/hubclear/Rational" "ZERO" "Lcom/example/hubclear/hubclear/Rational;").before a0 Z = true := hw _ (List.mem_of_getElem? (i := 78) rfl)
theorem d9_21 : decode prog_51_method_6_code 21 = .ok (.goto 9, 3) := by decide +kernel
theorem d13_21 : decode method_2_code 21 = .ok (.invokevirtual 22, 3) := by decide +kernel
theorem d7_73 : decode prog_18_method_28_code 73 = .ok (.iconst 0, 1) := by decide +kernel
theorem d13_24 : decode method_2_code 24 = .ok (.ireturn, 1) := by decide +kernel
theorem d13_11 : decode method_2_code 11 = .ok (.getstatic 13, 3) := by decide +kernel
theorem own_w76 {Z : State} {a0 : Array Value} (hw : ∀ d ∈ tables_1, d.before a0 Z = true) : (Jvm.Cond.fieldLink "com/example/hubclear/hubclear/clearing/SparseVectorUnitPinLaw" (13 : Nat) "com/example/hubclear/hubclear/Rational" "ZERO" "Lcom/example/hubclear/hubclear/Rational;").before a0 Z = true := hw _ (List.mem_of_getElem? (i := 76) rfl)
theorem pn_com_example_hubclear_hubclear_clearing_SparseVectorUnitPinLaw : plainName "com/example/hubclear/hubclear/clearing/SparseVectorUnitPinLaw" = true := by first | (simp [plainName, overriddenIn]; done) | decide +kernel
theorem own_w75 {Z : State} {a0 : Array Value} (hw : ∀ d ∈ tables_1, d.before a0 Z = true) : (Jvm.Cond.code ({ cls := "com/example/hubclear/hubclear/clearing/SparseVectorUnitPinLaw", name := "holdsAt", desc := "(Lcom/example/hubclear/hubclear/clearing/SparseVector;II)Z" } : Jvm.MethodName) method_2_code (4 : Nat) (Option.some Jvm.ClassFile.FieldType.boolean)).before a0 Z = true := hw _ (List.mem_of_getElem? (i := 75) rfl)
theorem own_w74 {Z : State} {a0 : Array Value} (hw : ∀ d ∈ tables_1, d.before a0 Z = true) : (Jvm.Cond.initialized "com/example/hubclear/hubclear/clearing/SparseVectorUnitPinLaw").before a0 Z = true := hw _ (List.mem_of_getElem? (i := 74) rfl)
theorem pd__Lcom_example_hubclear_hubclear_clearing_SparseVector_II_Z : parseMethodDescriptor "(Lcom/example/hubclear/hubclear/clearing/SparseVector;II)Z" = some ⟨[(.object "com/example/hubclear/hubclear/clearing/SparseVector"), .int, .int], some .boolean⟩ := by decide +kernel
theorem own_w73 {Z : State} {a0 : Array Value} (hw : ∀ d ∈ tables_1, d.before a0 Z = true) : (Jvm.Cond.static ({ cls := "com/example/hubclear/hubclear/clearing/SparseVectorUnitPinLaw", name := "holdsAt", desc := "(Lcom/example/hubclear/hubclear/clearing/SparseVector;II)Z" } : Jvm.MethodName)).before a0 Z = true := hw _ (List.mem_of_getElem? (i := 73) rfl)
theorem ef2_1 (m : MethodId) (a1 : Addr) (a2 : Addr) (a3 : Addr) : entryFrame m #[(.ref a1), (.ref a2), (.ref a3), (.int (1 : Int32))] 4 = mkF m 0 #[.val (.ref a1), .val (.ref a2), .val (.ref a3), .val (.int (1 : Int32))] [] := by first | (simp [entryFrame, mkF, argsToLocals, Value.category]; done) | rfl
def Q2_1 (Z : State) (a1 : Addr) (a2 : Addr) (a3 : Addr) (h0 : Heap) (n0 : Nat) (v : Option Value) (h : Heap) (L : List Loc) : Prop := v = none ∧ Fr n0 L ∧ Keep h0 h [a1] ∧ Exa Z h a1 "com/example/hubclear/hubclear/clearing/SparseVector" ∧ Fld Z h a1 "com/example/hubclear/hubclear/clearing/SparseVector" "indices" "[I" (.ref a2) ∧ Fld Z h a1 "com/example/hubclear/hubclear/clearing/SparseVector" "values" "[Lcom/example/hubclear/hubclear/Rational;" (.ref a3) ∧ Fld Z h a1 "com/example/hubclear/hubclear/clearing/SparseVector" "size" "I" (.int (1 : Int32))
set_option maxRecDepth 65536 in
set_option maxHeartbeats 40000000 in
theorem rm2_1 (l : Launch) (Z : State) (a0 : Array Value) (hw : ∀ d ∈ tables_1, d.before a0 Z = true) (ws : List Jvm.Cond) (a1 : Addr) (a2 : Addr) (a3 : Addr) (h0 : Heap) (n0 : Nat) (Z0 : n0 ≤ h0.size) (E_a1 : Exa Z h0 a1 "com/example/hubclear/hubclear/clearing/SparseVector") (F_a1_indices : Fld Z h0 a1 "com/example/hubclear/hubclear/clearing/SparseVector" "indices" "[I" .null) (g_a1 : n0 ≤ a1) (F_a1_values : Fld Z h0 a1 "com/example/hubclear/hubclear/clearing/SparseVector" "values" "[Lcom/example/hubclear/hubclear/Rational;" .null) (F_a1_size : Fld Z h0 a1 "com/example/hubclear/hubclear/clearing/SparseVector" "size" "I" (.int (0 : Int32))) :
    MetFree l (⟨"com/example/hubclear/hubclear/clearing/SparseVector", "<init>", "([I[Lcom/example/hubclear/hubclear/Rational;I)V"⟩ : MethodName) (head1 (Jvm.Cond.code (⟨"com/example/hubclear/hubclear/clearing/SparseVector", "<init>", "([I[Lcom/example/hubclear/hubclear/Rational;I)V"⟩ : MethodName) prog_51_method_1_code 4 none :: ws) ({ frames := 1, cells := 0, slots := 0, locals := 12 } : Room)) (fun a U => a = #[(.ref a1), (.ref a2), (.ref a3), (.int (1 : Int32))] ∧ Z.Warmed39 U.vm ∧ U.heap = h0) (fun _ _ _ _ _ => True) (fun _ U o U' => ∃ v L, o = .returned v ∧ Q2_1 Z a1 a2 a3 h0 n0 v U'.heap L ∧ FrameEnd U o U' L ({ frames := 1, cells := 0, slots := 0, locals := 12 } : Room).cells ({ frames := 1, cells := 0, slots := 0, locals := 12 } : Room).slots) := by
  refine MetFree.of_bodySF (plainFor_of_name pn_com_example_hubclear_hubclear_clearing_SparseVector) hisR ?_
  intro p e s m args below meth c s₁ Bd hml0 hP hK
  obtain ⟨rfl, hZ, hh⟩ := hP
  have hx := Bd.exec
  have hby := Bd.bytes
  have hml : c.maxLocals = 4 := hml0
  have hown : s.vm.findClass "com/example/hubclear/hubclear/clearing/SparseVector" = some m.cls := findClass_of_methodNamed Bd.named
  have hnm := (name_of_methodNamed Bd.named Bd.method).1
  have X0 : Stand p l e ({ frames := 1, cells := 0, slots := 0, locals := 12 } : Room) s m #[(.ref a1), (.ref a2), (.ref a3), (.int (1 : Int32))] below meth c s₁ [] 0 0 := Stand.of_body Bd
  have e0 : s₁.heap = h0 := by rw [← hh, Bd.state]; rfl
  have N0 := Fr.nil n0
  have pre0 : ∀ t, Steps p.tables e below (s₁.setTop (mkF m 0 #[.val (.ref a1), .val (.ref a2), .val (.ref a3), .val (.int (1 : Int32))] [])) t → Steps p.tables e below (s₁.setTop (entryFrame m #[(.ref a1), (.ref a2), (.ref a3), (.int (1 : Int32))] 4)) t := fun t k => castTop (ef2_1 m a1 a2 a3) k
  obtain ⟨T1, X1, e1, st1⟩ := initO X0 hx hZ hown (own_w16 hw) (own_w17 hw) (own_w18 hw) e0 (g := (mkF m 1 #[.val (.ref a1), .val (.ref a2), .val (.ref a3), .val (.int (1 : Int32))] [(.ref a1)])) rfl (by rw [hml]; rfl) rfl (hb hby d2_1) (by decide) (W := 0) (by show 2 * 0 + _ ≤ _; exact Nat.le_of_eq rfl) (by decide)
  obtain ⟨T2, h2, X2, e2, W2, st2⟩ := putF X1 hx hZ hown (host := "") (Or.inl (own_w19 hw)) Via.refl e1 F_a1_indices E_a1 (Or.inr ⟨(own_w20 hw), rfl, hnm⟩) (own_w5 hw) (ty := (.array .int)) (by decide) rfl rfl (g := (mkF m 6 #[.val (.ref a1), .val (.ref a2), .val (.ref a3), .val (.int (1 : Int32))] [(.ref a2), (.ref a1)])) rfl rfl (hb hby d2_6)
  have KC3 : Keep h0 h2 [a1] := (Keep.refl h0 [a1]).wr W2 (Or.inl (List.mem_of_getElem? (i := 0) rfl))
  have Fw2 := F_a1_indices.same W2
  have N2 := Fr.snoc X2 N0 g_a1
  have c4 := E_a1.wr W2
  have c5 := F_a1_values.other W2 (Or.inr (slot_ne (C := "com/example/hubclear/hubclear/clearing/SparseVector") (Or.inr (own_w22 hw)) (Or.inr (own_w20 hw)) (by decide) (t := (.array (.object "com/example/hubclear/hubclear/Rational"))) (t' := (.array .int)) (by decide) (by decide)))
  obtain ⟨T6, h6, X6, e6, W6, st6⟩ := putF X2 hx hZ hown (host := "") (Or.inl (own_w21 hw)) Via.refl e2 c5 c4 (Or.inr ⟨(own_w22 hw), rfl, hnm⟩) (own_w5 hw) (ty := (.array (.object "com/example/hubclear/hubclear/Rational"))) (by decide) rfl rfl (g := (mkF m 11 #[.val (.ref a1), .val (.ref a2), .val (.ref a3), .val (.int (1 : Int32))] [(.ref a3), (.ref a1)])) rfl rfl (hb hby d2_11)
  have KC7 : Keep h0 h6 [a1] := KC3.wr W6 (Or.inl (List.mem_of_getElem? (i := 0) rfl))
  have Fw6 := c5.same W6
  have N6 := Fr.snoc X6 N2 g_a1
  have c8 := c4.wr W6
  have c9 := F_a1_size.other W2 (Or.inr (slot_ne (C := "com/example/hubclear/hubclear/clearing/SparseVector") (Or.inr (own_w24 hw)) (Or.inr (own_w20 hw)) (by decide) (t := .int) (t' := (.array .int)) (by decide) (by decide)))
  have c10 := c9.other W6 (Or.inr (slot_ne (C := "com/example/hubclear/hubclear/clearing/SparseVector") (Or.inr (own_w24 hw)) (Or.inr (own_w22 hw)) (by decide) (t := .int) (t' := (.array (.object "com/example/hubclear/hubclear/Rational"))) (by decide) (by decide)))
  obtain ⟨T11, h11, X11, e11, W11, st11⟩ := putF X6 hx hZ hown (host := "") (Or.inl (own_w23 hw)) Via.refl e6 c10 c8 (Or.inr ⟨(own_w24 hw), rfl, hnm⟩) (own_w5 hw) (ty := .int) (by decide) rfl rfl (g := (mkF m 16 #[.val (.ref a1), .val (.ref a2), .val (.ref a3), .val (.int (1 : Int32))] [(.int (1 : Int32)), (.ref a1)])) rfl rfl (hb hby d2_16)
  have KC12 : Keep h0 h11 [a1] := KC7.wr W11 (Or.inl (List.mem_of_getElem? (i := 0) rfl))
  have Fw11 := c10.same W11
  have N11 := Fr.snoc X11 N6 g_a1
  have c13 := c8.wr W11
  have c14 := Fw2.other W6 (Or.inr (slot_ne (C := "com/example/hubclear/hubclear/clearing/SparseVector") (Or.inr (own_w20 hw)) (Or.inr (own_w22 hw)) (by decide) (t := (.array .int)) (t' := (.array (.object "com/example/hubclear/hubclear/Rational"))) (by decide) (by decide)))
  have c15 := c14.other W11 (Or.inr (slot_ne (C := "com/example/hubclear/hubclear/clearing/SparseVector") (Or.inr (own_w20 hw)) (Or.inr (own_w24 hw)) (by decide) (t := (.array .int)) (t' := .int) (by decide) (by decide)))
  have c16 := Fw6.other W11 (Or.inr (slot_ne (C := "com/example/hubclear/hubclear/clearing/SparseVector") (Or.inr (own_w22 hw)) (Or.inr (own_w24 hw)) (by decide) (t := (.array (.object "com/example/hubclear/hubclear/Rational"))) (t' := .int) (by decide) (by decide)))
  obtain ⟨fs, hr, hrun, hended, hW, hsame⟩ := X11.leave (v := none) (fun _ => rfl)
  refine ⟨_, _, pre0 _ ?_, hrun, hended, _, _, rfl, ?_, ⟨_, rfl⟩, hW, hsame.mono (by decide) (by decide)⟩
  · show Steps p.tables e below (s₁.setTop (mkF m 0 #[.val (.ref a1), .val (.ref a2), .val (.ref a3), .val (.int (1 : Int32))] [])) _
    refine XS.aloadN X0.here hx rfl (hb hby d2_0) rfl rfl ?_
    show Steps p.tables e below (s₁.setTop (mkF m 1 #[.val (.ref a1), .val (.ref a2), .val (.ref a3), .val (.int (1 : Int32))] [(.ref a1)])) _
    refine st1 _ ?_
    show Steps p.tables e below (T1.setTop (mkF m 4 #[.val (.ref a1), .val (.ref a2), .val (.ref a3), .val (.int (1 : Int32))] [])) _
    refine XS.aloadN X1.here hx rfl (hb hby d2_4) rfl rfl ?_
    show Steps p.tables e below (T1.setTop (mkF m 5 #[.val (.ref a1), .val (.ref a2), .val (.ref a3), .val (.int (1 : Int32))] [(.ref a1)])) _
    refine XS.aloadN X1.here hx rfl (hb hby d2_5) rfl rfl ?_
    show Steps p.tables e below (T1.setTop (mkF m 6 #[.val (.ref a1), .val (.ref a2), .val (.ref a3), .val (.int (1 : Int32))] [(.ref a2), (.ref a1)])) _
    refine st2 _ ?_
    show Steps p.tables e below (T2.setTop (mkF m 9 #[.val (.ref a1), .val (.ref a2), .val (.ref a3), .val (.int (1 : Int32))] [])) _
    refine XS.aloadN X2.here hx rfl (hb hby d2_9) rfl rfl ?_
    show Steps p.tables e below (T2.setTop (mkF m 10 #[.val (.ref a1), .val (.ref a2), .val (.ref a3), .val (.int (1 : Int32))] [(.ref a1)])) _
    refine XS.aloadN X2.here hx rfl (hb hby d2_10) rfl rfl ?_
    show Steps p.tables e below (T2.setTop (mkF m 11 #[.val (.ref a1), .val (.ref a2), .val (.ref a3), .val (.int (1 : Int32))] [(.ref a3), (.ref a1)])) _
    refine st6 _ ?_
    show Steps p.tables e below (T6.setTop (mkF m 14 #[.val (.ref a1), .val (.ref a2), .val (.ref a3), .val (.int (1 : Int32))] [])) _
    refine XS.aloadN X6.here hx rfl (hb hby d2_14) rfl rfl ?_
    show Steps p.tables e below (T6.setTop (mkF m 15 #[.val (.ref a1), .val (.ref a2), .val (.ref a3), .val (.int (1 : Int32))] [(.ref a1)])) _
    refine XS.iloadN X6.here hx rfl (hb hby d2_15) rfl ?_
    show Steps p.tables e below (T6.setTop (mkF m 16 #[.val (.ref a1), .val (.ref a2), .val (.ref a3), .val (.int (1 : Int32))] [(.int (1 : Int32)), (.ref a1)])) _
    refine st11 _ ?_
    show Steps p.tables e below (T11.setTop (mkF m 19 #[.val (.ref a1), .val (.ref a2), .val (.ref a3), .val (.int (1 : Int32))] [])) _
    exact X11.returnOut hx Bd.returns (hb hby d2_19) hr
  · show Q2_1 Z a1 a2 a3 h0 n0 _ T11.heap _
    rw [e11]
    exact ⟨rfl, N11, KC12, c13, c15, c16, Fw11⟩
theorem ef1_2 (m : MethodId) (p1 : Int32) : entryFrame m #[(.int p1)] 1 = mkF m 0 #[.val (.int p1)] [] := by first | (simp [entryFrame, mkF, argsToLocals, Value.category]; done) | rfl
def Q1_2 (Z : State) (p1 : Int32) (a2 : Addr) (h0 : Heap) (n0 : Nat) (v : Option Value) (h : Heap) (L : List Loc) : Prop := ∃ k3 : ClassId, ∃ k8 : ClassId, ∃ b1 : Addr, ∃ b3 : Addr, ∃ b8 : Addr, v = some (.ref b1) ∧ Fr n0 L ∧ Keep h0 h [] ∧ h0.size ≤ b1 ∧ h0.size ≤ b3 ∧ h0.size ≤ b8 ∧ b1 ≠ b3 ∧ b1 ≠ b8 ∧ b3 ≠ b8 ∧ Exa Z h b1 "com/example/hubclear/hubclear/clearing/SparseVector" ∧ Fld Z h b1 "com/example/hubclear/hubclear/clearing/SparseVector" "indices" "[I" (.ref b3) ∧ Fld Z h b1 "com/example/hubclear/hubclear/clearing/SparseVector" "values" "[Lcom/example/hubclear/hubclear/Rational;" (.ref b8) ∧ Fld Z h b1 "com/example/hubclear/hubclear/clearing/SparseVector" "size" "I" (.int (1 : Int32)) ∧ Arv Z h b3 k3 .int (1 : Int32) [(.int p1)] (.int (0 : Int32)) ∧ Arv Z h b8 k8 (.object "com/example/hubclear/hubclear/Rational") (1 : Int32) [(.ref a2)] .null ∧ Ovr Z k8 "com/example/hubclear/hubclear/Rational"
set_option maxRecDepth 65536 in
set_option maxHeartbeats 40000000 in
theorem rm1_2 (l : Launch) (Z : State) (a0 : Array Value) (hw : ∀ d ∈ tables_1, d.before a0 Z = true) (ws : List Jvm.Cond) (p1 : Int32) (a2 : Addr) (h0 : Heap) (n0 : Nat) (Z0 : n0 ≤ h0.size) (S_Rational_ONE : Sta Z h0 "com/example/hubclear/hubclear/Rational" "ONE" "Lcom/example/hubclear/hubclear/Rational;" (.ref a2)) (E_a2 : Exa Z h0 a2 "com/example/hubclear/hubclear/Rational") :
    MetFree l (⟨"com/example/hubclear/hubclear/clearing/SparseVector", "unit", "(I)Lcom/example/hubclear/hubclear/clearing/SparseVector;"⟩ : MethodName) (head1 (Jvm.Cond.code (⟨"com/example/hubclear/hubclear/clearing/SparseVector", "unit", "(I)Lcom/example/hubclear/hubclear/clearing/SparseVector;"⟩ : MethodName) prog_51_method_2_code 1 (some (.object "com/example/hubclear/hubclear/clearing/SparseVector")) :: ws) ({ frames := 2, cells := 3, slots := 5, locals := 28 } : Room)) (fun a U => a = #[(.int p1)] ∧ Z.Warmed39 U.vm ∧ U.heap = h0) (fun _ _ _ _ _ => True) (fun _ U o U' => ∃ v L, o = .returned v ∧ Q1_2 Z p1 a2 h0 n0 v U'.heap L ∧ FrameEnd U o U' L ({ frames := 2, cells := 3, slots := 5, locals := 28 } : Room).cells ({ frames := 2, cells := 3, slots := 5, locals := 28 } : Room).slots) := by
  refine MetFree.of_bodySF (plainFor_of_name pn_com_example_hubclear_hubclear_clearing_SparseVector) hisR ?_
  intro p e s m args below meth c s₁ Bd hml0 hP hK
  obtain ⟨rfl, hZ, hh⟩ := hP
  have hx := Bd.exec
  have hby := Bd.bytes
  have hml : c.maxLocals = 1 := hml0
  have hown : s.vm.findClass "com/example/hubclear/hubclear/clearing/SparseVector" = some m.cls := findClass_of_methodNamed Bd.named
  have hnm := (name_of_methodNamed Bd.named Bd.method).1
  have X0 : Stand p l e ({ frames := 2, cells := 3, slots := 5, locals := 28 } : Room) s m #[(.int p1)] below meth c s₁ [] 0 0 := Stand.of_body Bd
  have e0 : s₁.heap = h0 := by rw [← hh, Bd.state]; rfl
  have N0 := Fr.nil n0
  have pre0 : ∀ t, Steps p.tables e below (s₁.setTop (mkF m 0 #[.val (.int p1)] [])) t → Steps p.tables e below (s₁.setTop (entryFrame m #[(.int p1)] 1)) t := fun t k => castTop (ef1_2 m p1) k
  obtain ⟨T1, h1, X1, e1, E1, A1, D1, -, st1⟩ := newO X0 hx hZ hown (own_w4 hw) (own_w5 hw) (own_w2 hw) e0 (g := (mkF m 0 #[.val (.int p1)] [])) rfl (hb hby d1_0) (by decide) (by decide)
  obtain ⟨b1, q1⟩ : ∃ z, z = h0.size := ⟨_, rfl⟩
  rw [← q1] at A1 D1 st1
  have sz_b1 : h0.size ≤ b1 := Nat.le_of_eq q1.symm
  have sz0_b1 : h0.size ≤ b1 := sz_b1
  have g_b1 : n0 ≤ b1 := Nat.le_trans Z0 sz0_b1
  have KC2 : Keep h0 h1 [] := (Keep.refl h0 []).ext E1
  have F1_indices : Fld Z h1 b1 "com/example/hubclear/hubclear/clearing/SparseVector" "indices" "[I" .null := D1 (Or.inr (own_w20 hw)) (ty := (.array .int)) (by decide)
  have F1_values : Fld Z h1 b1 "com/example/hubclear/hubclear/clearing/SparseVector" "values" "[Lcom/example/hubclear/hubclear/Rational;" .null := D1 (Or.inr (own_w22 hw)) (ty := (.array (.object "com/example/hubclear/hubclear/Rational"))) (by decide)
  have F1_size : Fld Z h1 b1 "com/example/hubclear/hubclear/clearing/SparseVector" "size" "I" (.int (0 : Int32)) := D1 (Or.inr (own_w24 hw)) (ty := .int) (by decide)
  obtain ⟨T3, h3, k3, X3, e3, E3, A3, st3⟩ := newP (aty := .int) X1 hx hZ (own_w6 hw) e1 (g := (mkF m 5 #[.val (.int p1)] [(.int (1 : Int32)), (.ref b1), (.ref b1)])) rfl (hb hby d1_5) rfl (by decide) (cap := 1) (by decide) (by decide) (by decide) (by decide)
  obtain ⟨b3, q3⟩ : ∃ z, z = h1.size := ⟨_, rfl⟩
  rw [← q3] at A3 st3
  have sz_b3 : h1.size ≤ b3 := Nat.le_of_eq q3.symm
  have sz0_b3 : h0.size ≤ b3 := Nat.le_trans KC2.1 sz_b3
  have g_b3 : n0 ≤ b3 := Nat.le_trans Z0 sz0_b3
  have KC4 : Keep h0 h3 [] := KC2.ext E3
  have V3 : Arv Z h3 b3 k3 .int (1 : Int32) [(.int (0 : Int32))] (.int (0 : Int32)) := (Arv.new A3 (by decide)).pad (pad_rep [] (.int (0 : Int32)) 1)
  obtain ⟨cl5, Ar5, qk5, Sz5, Ng5, Ha5, Gf5⟩ := id V3
  have hin5 : ¬ ((0 : Int32) < 0 ∨ cl5.slots.size ≤ ((0 : Int32)).toNatClampNeg) := inb_of Sz5 ⟨by decide, by decide⟩
  obtain ⟨T6, h6, X6, e6, W6, st6⟩ := stI X3 hx hZ e3 Ar5 (j := (0 : Int32)) hin5 (g := (mkF m 10 #[.val (.int p1)] [(.int p1), (.int (0 : Int32)), (.ref b3), (.ref b3), (.ref b1), (.ref b1)])) rfl rfl (hb hby d1_10)
  have KC7 : Keep h0 h6 [] := KC4.wr W6 (Or.inr sz0_b3)
  have V6 : Arv Z h6 b3 k3 .int (1 : Int32) [(.int p1)] (.int (0 : Int32)) := Arv.set Ar5 qk5 Sz5 Ng5 Ha5 Gf5 rfl W6 0 rfl (Nat.le_of_ble_eq_true rfl)
  have N6 := Fr.snoc X6 N0 g_b3
  obtain ⟨T8, h8, k8, X8, e8, E8, A8, O8, st8⟩ := newR X6 hx hZ hown (own_w7 hw) (own_w8 hw) e6 (g := (mkF m 12 #[.val (.int p1)] [(.int (1 : Int32)), (.ref b3), (.ref b1), (.ref b1)])) rfl (hb hby d1_12) rfl (by decide) (cap := 1) (by decide) (by decide) (by decide) (by decide)
  obtain ⟨b8, q8⟩ : ∃ z, z = h6.size := ⟨_, rfl⟩
  rw [← q8] at A8 st8
  have sz_b8 : h6.size ≤ b8 := Nat.le_of_eq q8.symm
  have sz0_b8 : h0.size ≤ b8 := Nat.le_trans KC7.1 sz_b8
  have g_b8 : n0 ≤ b8 := Nat.le_trans Z0 sz0_b8
  have KC9 : Keep h0 h8 [] := KC7.ext E8
  have V8 : Arv Z h8 b8 k8 (.object "com/example/hubclear/hubclear/Rational") (1 : Int32) [.null] .null := (Arv.new A8 (by decide)).pad (pad_rep [] .null 1)
  have c10 := S_Rational_ONE.ext E1
  have c11 := c10.ext E3
  have c12 := c11.wr W6
  have c13 := c12.ext E8
  obtain ⟨T14, X14, e14, st14⟩ := getS2 X8 hx hZ hown (host := "") (Or.inl (own_w9 hw)) Via.refl e8 c13 (g := (mkF m 17 #[.val (.int p1)] [(.int (0 : Int32)), (.ref b8), (.ref b8), (.ref b3), (.ref b1), (.ref b1)])) rfl (hb hby d1_17)
  obtain ⟨cl15, Ar15, qk15, Sz15, Ng15, Ha15, Gf15⟩ := id V8
  have c16 := E_a2.ext E1
  have c17 := c16.ext E3
  have c18 := c17.wr W6
  have c19 := c18.ext E8
  have hin15 : ¬ ((0 : Int32) < 0 ∨ cl15.slots.size ≤ ((0 : Int32)).toNatClampNeg) := inb_of Sz15 ⟨by decide, by decide⟩
  obtain ⟨T20, h20, X20, e20, W20, st20⟩ := stR X14 hx hZ e14 Ar15 (j := (0 : Int32)) hin15 rfl (Sto.ofV Ar15 qk15 O8 (Ins.self c19)) (g := (mkF m 20 #[.val (.int p1)] [(.ref a2), (.int (0 : Int32)), (.ref b8), (.ref b8), (.ref b3), (.ref b1), (.ref b1)])) rfl rfl (hb hby d1_20)
  have KC21 : Keep h0 h20 [] := KC9.wr W20 (Or.inr sz0_b8)
  have V20 : Arv Z h20 b8 k8 (.object "com/example/hubclear/hubclear/Rational") (1 : Int32) [(.ref a2)] .null := Arv.set Ar15 qk15 Sz15 Ng15 Ha15 Gf15 rfl W20 0 rfl (Nat.le_of_ble_eq_true rfl)
  have N20 := Fr.snoc X20 N6 g_b8
  have c22 := A1.ext E3
  have c23 := c22.wr W6
  have c24 := c23.ext E8
  have c25 := c24.wr W20
  have c26 := F1_indices.ext E3
  have ne27 : b1 ≠ b3 := (Nat.ne_of_lt (Nat.lt_of_lt_of_le A1.lt sz_b3))
  have c28 := c26.other W6 (Or.inl ne27)
  have c29 := c28.ext E8
  have ne30 : b1 ≠ b8 := (Nat.ne_of_lt (Nat.lt_of_lt_of_le c23.lt sz_b8))
  have c31 := c29.other W20 (Or.inl ne30)
  have c32 := F1_values.ext E3
  have c33 := c32.other W6 (Or.inl ne27)
  have c34 := c33.ext E8
  have c35 := c34.other W20 (Or.inl ne30)
  have c36 := F1_size.ext E3
  have c37 := c36.other W6 (Or.inl ne27)
  have c38 := c37.ext E8
  have c39 := c38.other W20 (Or.inl ne30)
  obtain ⟨_, _, ⟨T40, L40, k40, n40⟩, -, X40, ⟨Lc40, hQ40, l40, y40, z40⟩, st40⟩ := X20.specialBack hx (y := (⟨"com/example/hubclear/hubclear/clearing/SparseVector", "<init>", "([I[Lcom/example/hubclear/hubclear/Rational;I)V"⟩ : MethodName)) rfl hown (mvT hZ (own_w13 hw)) (mvT hZ (own_w14 hw)) (mvT hZ (own_w15 hw)) (by decide) (backOf (W := 1) (rm2_1 l Z a0 hw [] b1 b3 b8 h20 n0 (Nat.le_trans Z0 KC21.1) c25 c31 g_b1 c35 c39) hZ (own_w15 hw) (own_w2 hw) (by decide) (by decide)) (g := (mkF m 22 #[.val (.int p1)] [(.int (1 : Int32)), (.ref b8), (.ref b3), (.ref b1), (.ref b1)])) rfl (by rw [hml]; rfl) (Steps.refl _) (a := b1) (argsL := [(.ref b3), (.ref b8), (.int (1 : Int32))]) (rest := [(.ref b1)]) (lenOf pd___I_Lcom_example_hubclear_hubclear_Rational_I_V rfl) rfl (by show 2 * 0 + _ ≤ _; exact Nat.le_of_eq rfl) (hb hby d1_22) (fun _ _ => ⟨rfl, e20, (by decide : 3 + 0 ≤ _), (by decide : 5 + 0 ≤ _)⟩)
  dsimp only [Pt.U, Pt.locs, Pt.cells, Pt.slots] at X40 l40 y40 z40 st40 hQ40
  subst l40 y40 z40
  obtain ⟨rfl, N40q, K40, f40_0, f40_1, f40_2, f40_3⟩ := hQ40
  have N40 := Fr.app N20 N40q
  have KC41 : Keep h0 T40.heap [] := KC21.trans K40 (allS (Or.inr sz0_b1) all0)
  have c42 := V6.ext E8
  have ne43 : b3 ≠ b8 := (Nat.ne_of_lt (Nat.lt_of_lt_of_le V6.lt sz_b8))
  have c44 := c42.other W20 ne43
  have c45 := c44.keep K40 (ninS (Ne.symm ne27) nin0)
  have c46 := V20.keep K40 (ninS (Ne.symm ne30) nin0)
  obtain ⟨fs, hr, hrun, hended, hW, hsame⟩ := X40.leave (v := some (.ref b1)) (fun h => by rw [Bd.returns] at h; cases h)
  refine ⟨_, _, pre0 _ ?_, hrun, hended, _, _, rfl, ?_, ⟨_, rfl⟩, hW, hsame.mono (by decide) (by decide)⟩
  · show Steps p.tables e below (s₁.setTop (mkF m 0 #[.val (.int p1)] [])) _
    refine st1 _ ?_
    show Steps p.tables e below (T1.setTop (mkF m 3 #[.val (.int p1)] [(.ref b1)])) _
    refine XS.dup X1.here hx rfl (hb hby d1_3) rfl rfl ?_
    show Steps p.tables e below (T1.setTop (mkF m 4 #[.val (.int p1)] [(.ref b1), (.ref b1)])) _
    refine XS.iconst X1.here hx rfl (hb hby d1_4) ?_
    show Steps p.tables e below (T1.setTop (mkF m 5 #[.val (.int p1)] [(.int (1 : Int32)), (.ref b1), (.ref b1)])) _
    refine st3 _ ?_
    show Steps p.tables e below (T3.setTop (mkF m 7 #[.val (.int p1)] [(.ref b3), (.ref b1), (.ref b1)])) _
    refine XS.dup X3.here hx rfl (hb hby d1_7) rfl rfl ?_
    show Steps p.tables e below (T3.setTop (mkF m 8 #[.val (.int p1)] [(.ref b3), (.ref b3), (.ref b1), (.ref b1)])) _
    refine XS.iconst X3.here hx rfl (hb hby d1_8) ?_
    show Steps p.tables e below (T3.setTop (mkF m 9 #[.val (.int p1)] [(.int (0 : Int32)), (.ref b3), (.ref b3), (.ref b1), (.ref b1)])) _
    refine XS.iloadN X3.here hx rfl (hb hby d1_9) rfl ?_
    show Steps p.tables e below (T3.setTop (mkF m 10 #[.val (.int p1)] [(.int p1), (.int (0 : Int32)), (.ref b3), (.ref b3), (.ref b1), (.ref b1)])) _
    refine st6 _ ?_
    show Steps p.tables e below (T6.setTop (mkF m 11 #[.val (.int p1)] [(.ref b3), (.ref b1), (.ref b1)])) _
    refine XS.iconst X6.here hx rfl (hb hby d1_11) ?_
    show Steps p.tables e below (T6.setTop (mkF m 12 #[.val (.int p1)] [(.int (1 : Int32)), (.ref b3), (.ref b1), (.ref b1)])) _
    refine st8 _ ?_
    show Steps p.tables e below (T8.setTop (mkF m 15 #[.val (.int p1)] [(.ref b8), (.ref b3), (.ref b1), (.ref b1)])) _
    refine XS.dup X8.here hx rfl (hb hby d1_15) rfl rfl ?_
    show Steps p.tables e below (T8.setTop (mkF m 16 #[.val (.int p1)] [(.ref b8), (.ref b8), (.ref b3), (.ref b1), (.ref b1)])) _
    refine XS.iconst X8.here hx rfl (hb hby d1_16) ?_
    show Steps p.tables e below (T8.setTop (mkF m 17 #[.val (.int p1)] [(.int (0 : Int32)), (.ref b8), (.ref b8), (.ref b3), (.ref b1), (.ref b1)])) _
    refine st14 _ ?_
    show Steps p.tables e below (T14.setTop (mkF m 20 #[.val (.int p1)] [(.ref a2), (.int (0 : Int32)), (.ref b8), (.ref b8), (.ref b3), (.ref b1), (.ref b1)])) _
    refine st20 _ ?_
    show Steps p.tables e below (T20.setTop (mkF m 21 #[.val (.int p1)] [(.ref b8), (.ref b3), (.ref b1), (.ref b1)])) _
    refine XS.iconst X20.here hx rfl (hb hby d1_21) ?_
    show Steps p.tables e below (T20.setTop (mkF m 22 #[.val (.int p1)] [(.int (1 : Int32)), (.ref b8), (.ref b3), (.ref b1), (.ref b1)])) _
    refine st40.trans ?_
    show Steps p.tables e below (T40.setTop (mkF m 25 #[.val (.int p1)] [(.ref b1)])) _
    exact retOut X40 hx Bd.returns rfl (Or.inr (Or.inr (Or.inr (Or.inr ⟨rfl, rfl, rfl⟩)))) (hb hby d1_25) hr
  · show Q1_2 Z p1 a2 h0 n0 _ T40.heap _
    exact ⟨k3, k8, b1, b3, b8, rfl, N40, KC41, sz0_b1, sz0_b3, sz0_b8, ne27, ne30, ne43, f40_0, f40_1, f40_2, f40_3, c45, c46, O8⟩
theorem ef4_3 (m : MethodId) (a1 : Addr) : entryFrame m #[(.ref a1)] 1 = mkF m 0 #[.val (.ref a1)] [] := by first | (simp [entryFrame, mkF, argsToLocals, Value.category]; done) | rfl
def Q4_3 (Z : State) (a1 : Addr) (h0 : Heap) (n0 : Nat) (v : Option Value) (h : Heap) (L : List Loc) : Prop := v = some (.int (1 : Int32)) ∧ Fr n0 L ∧ h = h0
set_option maxRecDepth 65536 in
set_option maxHeartbeats 40000000 in
theorem rm4_3 (l : Launch) (Z : State) (a0 : Array Value) (hw : ∀ d ∈ tables_1, d.before a0 Z = true) (ws : List Jvm.Cond) (a1 : Addr) (h0 : Heap) (n0 : Nat) (Z0 : n0 ≤ h0.size) (F_a1_size : Fld Z h0 a1 "com/example/hubclear/hubclear/clearing/SparseVector" "size" "I" (.int (1 : Int32))) :
    MetFree l (⟨"com/example/hubclear/hubclear/clearing/SparseVector", "size", "()I"⟩ : MethodName) (head1 (Jvm.Cond.code (⟨"com/example/hubclear/hubclear/clearing/SparseVector", "size", "()I"⟩ : MethodName) prog_51_method_3_code 1 (some .int) :: ws) ({ frames := 0, cells := 0, slots := 0, locals := 0 } : Room)) (fun a U => a = #[(.ref a1)] ∧ Z.Warmed39 U.vm ∧ U.heap = h0) (fun _ _ _ _ _ => True) (fun _ U o U' => ∃ v L, o = .returned v ∧ Q4_3 Z a1 h0 n0 v U'.heap L ∧ FrameEnd U o U' L ({ frames := 0, cells := 0, slots := 0, locals := 0 } : Room).cells ({ frames := 0, cells := 0, slots := 0, locals := 0 } : Room).slots) := by
  refine MetFree.of_bodySF (plainFor_of_name pn_com_example_hubclear_hubclear_clearing_SparseVector) hisR ?_
  intro p e s m args below meth c s₁ Bd hml0 hP hK
  obtain ⟨rfl, hZ, hh⟩ := hP
  have hx := Bd.exec
  have hby := Bd.bytes
  have hml : c.maxLocals = 1 := hml0
  have hown : s.vm.findClass "com/example/hubclear/hubclear/clearing/SparseVector" = some m.cls := findClass_of_methodNamed Bd.named
  have hnm := (name_of_methodNamed Bd.named Bd.method).1
  have X0 : Stand p l e ({ frames := 0, cells := 0, slots := 0, locals := 0 } : Room) s m #[(.ref a1)] below meth c s₁ [] 0 0 := Stand.of_body Bd
  have e0 : s₁.heap = h0 := by rw [← hh, Bd.state]; rfl
  have N0 := Fr.nil n0
  have pre0 : ∀ t, Steps p.tables e below (s₁.setTop (mkF m 0 #[.val (.ref a1)] [])) t → Steps p.tables e below (s₁.setTop (entryFrame m #[(.ref a1)] 1)) t := fun t k => castTop (ef4_3 m a1) k
  obtain ⟨T1, X1, e1, st1⟩ := getF X0 hx hZ hown (host := "") (Or.inl (own_w23 hw)) Via.refl e0 F_a1_size (g := (mkF m 1 #[.val (.ref a1)] [(.ref a1)])) rfl rfl (hb hby d4_1)
  obtain ⟨fs, hr, hrun, hended, hW, hsame⟩ := X1.leave (v := some (.int (1 : Int32))) (fun h => by rw [Bd.returns] at h; cases h)
  refine ⟨_, _, pre0 _ ?_, hrun, hended, _, _, rfl, ?_, ⟨_, rfl⟩, hW, hsame.mono (by decide) (by decide)⟩
  · show Steps p.tables e below (s₁.setTop (mkF m 0 #[.val (.ref a1)] [])) _
    refine XS.aloadN X0.here hx rfl (hb hby d4_0) rfl rfl ?_
    show Steps p.tables e below (s₁.setTop (mkF m 1 #[.val (.ref a1)] [(.ref a1)])) _
    refine st1 _ ?_
    show Steps p.tables e below (T1.setTop (mkF m 4 #[.val (.ref a1)] [(.int (1 : Int32))])) _
    exact retI X1 hx Bd.returns (hb hby d4_4) hr
  · show Q4_3 Z a1 h0 n0 _ T1.heap _
    rw [e1]
    exact ⟨rfl, N0, rfl⟩
theorem ef5_4 (m : MethodId) (a1 : Addr) : entryFrame m #[(.ref a1), (.int (0 : Int32))] 2 = mkF m 0 #[.val (.ref a1), .val (.int (0 : Int32))] [] := by first | (simp [entryFrame, mkF, argsToLocals, Value.category]; done) | rfl
def Q5_4 (Z : State) (a1 : Addr) (a2 : Addr) (kc3 : ClassId) (p4 : Int32) (h0 : Heap) (n0 : Nat) (v : Option Value) (h : Heap) (L : List Loc) : Prop := v = some (.int p4) ∧ Fr n0 L ∧ h = h0
set_option maxRecDepth 65536 in
set_option maxHeartbeats 40000000 in
theorem rm5_4 (l : Launch) (Z : State) (a0 : Array Value) (hw : ∀ d ∈ tables_1, d.before a0 Z = true) (ws : List Jvm.Cond) (a1 : Addr) (a2 : Addr) (kc3 : ClassId) (p4 : Int32) (h0 : Heap) (n0 : Nat) (Z0 : n0 ≤ h0.size) (F_a1_indices : Fld Z h0 a1 "com/example/hubclear/hubclear/clearing/SparseVector" "indices" "[I" (.ref a2)) (V_a2 : Arv Z h0 a2 kc3 .int (1 : Int32) [(.int p4)] (.int (0 : Int32))) :
    MetFree l (⟨"com/example/hubclear/hubclear/clearing/SparseVector", "index", "(I)I"⟩ : MethodName) (head1 (Jvm.Cond.code (⟨"com/example/hubclear/hubclear/clearing/SparseVector", "index", "(I)I"⟩ : MethodName) prog_51_method_4_code 2 (some .int) :: ws) ({ frames := 0, cells := 0, slots := 0, locals := 0 } : Room)) (fun a U => a = #[(.ref a1), (.int (0 : Int32))] ∧ Z.Warmed39 U.vm ∧ U.heap = h0) (fun _ _ _ _ _ => True) (fun _ U o U' => ∃ v L, o = .returned v ∧ Q5_4 Z a1 a2 kc3 p4 h0 n0 v U'.heap L ∧ FrameEnd U o U' L ({ frames := 0, cells := 0, slots := 0, locals := 0 } : Room).cells ({ frames := 0, cells := 0, slots := 0, locals := 0 } : Room).slots) := by
  refine MetFree.of_bodySF (plainFor_of_name pn_com_example_hubclear_hubclear_clearing_SparseVector) hisR ?_
  intro p e s m args below meth c s₁ Bd hml0 hP hK
  obtain ⟨rfl, hZ, hh⟩ := hP
  have hx := Bd.exec
  have hby := Bd.bytes
  have hml : c.maxLocals = 2 := hml0
  have hown : s.vm.findClass "com/example/hubclear/hubclear/clearing/SparseVector" = some m.cls := findClass_of_methodNamed Bd.named
  have hnm := (name_of_methodNamed Bd.named Bd.method).1
  have X0 : Stand p l e ({ frames := 0, cells := 0, slots := 0, locals := 0 } : Room) s m #[(.ref a1), (.int (0 : Int32))] below meth c s₁ [] 0 0 := Stand.of_body Bd
  have e0 : s₁.heap = h0 := by rw [← hh, Bd.state]; rfl
  have N0 := Fr.nil n0
  have pre0 : ∀ t, Steps p.tables e below (s₁.setTop (mkF m 0 #[.val (.ref a1), .val (.int (0 : Int32))] [])) t → Steps p.tables e below (s₁.setTop (entryFrame m #[(.ref a1), (.int (0 : Int32))] 2)) t := fun t k => castTop (ef5_4 m a1) k
  obtain ⟨T1, X1, e1, st1⟩ := getF X0 hx hZ hown (host := "") (Or.inl (own_w19 hw)) Via.refl e0 F_a1_indices (g := (mkF m 1 #[.val (.ref a1), .val (.int (0 : Int32))] [(.ref a1)])) rfl rfl (hb hby d5_1)
  obtain ⟨cl2, Ar2, qk2, Sz2, Ng2, Ha2, Gf2⟩ := id V_a2
  have hin2 : ¬ ((0 : Int32) < 0 ∨ cl2.slots.size ≤ ((0 : Int32)).toNatClampNeg) := inb_of Sz2 ⟨by decide, by decide⟩
  have hat2 : cl2.slots[((0 : Int32)).toNatClampNeg]? = some (.int p4) := Has.at Ha2 hin2 rfl
  obtain ⟨fs, hr, hrun, hended, hW, hsame⟩ := X1.leave (v := some (.int p4)) (fun h => by rw [Bd.returns] at h; cases h)
  refine ⟨_, _, pre0 _ ?_, hrun, hended, _, _, rfl, ?_, ⟨_, rfl⟩, hW, hsame.mono (by decide) (by decide)⟩
  · show Steps p.tables e below (s₁.setTop (mkF m 0 #[.val (.ref a1), .val (.int (0 : Int32))] [])) _
    refine XS.aloadN X0.here hx rfl (hb hby d5_0) rfl rfl ?_
    show Steps p.tables e below (s₁.setTop (mkF m 1 #[.val (.ref a1), .val (.int (0 : Int32))] [(.ref a1)])) _
    refine st1 _ ?_
    show Steps p.tables e below (T1.setTop (mkF m 4 #[.val (.ref a1), .val (.int (0 : Int32))] [(.ref a2)])) _
    refine XS.iloadN X1.here hx rfl (hb hby d5_4) rfl ?_
    show Steps p.tables e below (T1.setTop (mkF m 5 #[.val (.ref a1), .val (.int (0 : Int32))] [(.int (0 : Int32)), (.ref a2)])) _
    refine X1.iaload hx (j := (0 : Int32)) (v := (.int p4)) (by rw [e1]; exact Ar2.1) (State.isArrayOf_alike hZ.alike Ar2.2.1) Ar2.2.2 hin2 hat2 (g := (mkF m 5 #[.val (.ref a1), .val (.int (0 : Int32))] [(.int (0 : Int32)), (.ref a2)])) rfl rfl (hb hby d5_5) _ ?_
    show Steps p.tables e below (T1.setTop (mkF m 6 #[.val (.ref a1), .val (.int (0 : Int32))] [(.int p4)])) _
    exact retI X1 hx Bd.returns (hb hby d5_6) hr
  · show Q5_4 Z a1 a2 kc3 p4 h0 n0 _ T1.heap _
    rw [e1]
    exact ⟨rfl, N0, rfl⟩
theorem ef6_5 (m : MethodId) (a1 : Addr) : entryFrame m #[(.ref a1), (.int (0 : Int32))] 2 = mkF m 0 #[.val (.ref a1), .val (.int (0 : Int32))] [] := by first | (simp [entryFrame, mkF, argsToLocals, Value.category]; done) | rfl
def Q6_5 (Z : State) (a1 : Addr) (a2 : Addr) (kc3 : ClassId) (a4 : Addr) (h0 : Heap) (n0 : Nat) (v : Option Value) (h : Heap) (L : List Loc) : Prop := v = some (.ref a4) ∧ Fr n0 L ∧ h = h0
set_option maxRecDepth 65536 in
set_option maxHeartbeats 40000000 in
theorem rm6_5 (l : Launch) (Z : State) (a0 : Array Value) (hw : ∀ d ∈ tables_1, d.before a0 Z = true) (ws : List Jvm.Cond) (a1 : Addr) (a2 : Addr) (kc3 : ClassId) (a4 : Addr) (h0 : Heap) (n0 : Nat) (Z0 : n0 ≤ h0.size) (F_a1_values : Fld Z h0 a1 "com/example/hubclear/hubclear/clearing/SparseVector" "values" "[Lcom/example/hubclear/hubclear/Rational;" (.ref a2)) (V_a2 : Arv Z h0 a2 kc3 (.object "com/example/hubclear/hubclear/Rational") (1 : Int32) [(.ref a4)] .null) :
    MetFree l (⟨"com/example/hubclear/hubclear/clearing/SparseVector", "value", "(I)Lcom/example/hubclear/hubclear/Rational;"⟩ : MethodName) (head1 (Jvm.Cond.code (⟨"com/example/hubclear/hubclear/clearing/SparseVector", "value", "(I)Lcom/example/hubclear/hubclear/Rational;"⟩ : MethodName) prog_51_method_5_code 2 (some (.object "com/example/hubclear/hubclear/Rational")) :: ws) ({ frames := 0, cells := 0, slots := 0, locals := 0 } : Room)) (fun a U => a = #[(.ref a1), (.int (0 : Int32))] ∧ Z.Warmed39 U.vm ∧ U.heap = h0) (fun _ _ _ _ _ => True) (fun _ U o U' => ∃ v L, o = .returned v ∧ Q6_5 Z a1 a2 kc3 a4 h0 n0 v U'.heap L ∧ FrameEnd U o U' L ({ frames := 0, cells := 0, slots := 0, locals := 0 } : Room).cells ({ frames := 0, cells := 0, slots := 0, locals := 0 } : Room).slots) := by
  refine MetFree.of_bodySF (plainFor_of_name pn_com_example_hubclear_hubclear_clearing_SparseVector) hisR ?_
  intro p e s m args below meth c s₁ Bd hml0 hP hK
  obtain ⟨rfl, hZ, hh⟩ := hP
  have hx := Bd.exec
  have hby := Bd.bytes
  have hml : c.maxLocals = 2 := hml0
  have hown : s.vm.findClass "com/example/hubclear/hubclear/clearing/SparseVector" = some m.cls := findClass_of_methodNamed Bd.named
  have hnm := (name_of_methodNamed Bd.named Bd.method).1
  have X0 : Stand p l e ({ frames := 0, cells := 0, slots := 0, locals := 0 } : Room) s m #[(.ref a1), (.int (0 : Int32))] below meth c s₁ [] 0 0 := Stand.of_body Bd
  have e0 : s₁.heap = h0 := by rw [← hh, Bd.state]; rfl
  have N0 := Fr.nil n0
  have pre0 : ∀ t, Steps p.tables e below (s₁.setTop (mkF m 0 #[.val (.ref a1), .val (.int (0 : Int32))] [])) t → Steps p.tables e below (s₁.setTop (entryFrame m #[(.ref a1), (.int (0 : Int32))] 2)) t := fun t k => castTop (ef6_5 m a1) k
  obtain ⟨T1, X1, e1, st1⟩ := getF X0 hx hZ hown (host := "") (Or.inl (own_w21 hw)) Via.refl e0 F_a1_values (g := (mkF m 1 #[.val (.ref a1), .val (.int (0 : Int32))] [(.ref a1)])) rfl rfl (hb hby d6_1)
  obtain ⟨cl2, Ar2, qk2, Sz2, Ng2, Ha2, Gf2⟩ := id V_a2
  have hin2 : ¬ ((0 : Int32) < 0 ∨ cl2.slots.size ≤ ((0 : Int32)).toNatClampNeg) := inb_of Sz2 ⟨by decide, by decide⟩
  have hat2 : cl2.slots[((0 : Int32)).toNatClampNeg]? = some (.ref a4) := Has.at Ha2 hin2 rfl
  obtain ⟨fs, hr, hrun, hended, hW, hsame⟩ := X1.leave (v := some (.ref a4)) (fun h => by rw [Bd.returns] at h; cases h)
  refine ⟨_, _, pre0 _ ?_, hrun, hended, _, _, rfl, ?_, ⟨_, rfl⟩, hW, hsame.mono (by decide) (by decide)⟩
  · show Steps p.tables e below (s₁.setTop (mkF m 0 #[.val (.ref a1), .val (.int (0 : Int32))] [])) _
    refine XS.aloadN X0.here hx rfl (hb hby d6_0) rfl rfl ?_
    show Steps p.tables e below (s₁.setTop (mkF m 1 #[.val (.ref a1), .val (.int (0 : Int32))] [(.ref a1)])) _
    refine st1 _ ?_
    show Steps p.tables e below (T1.setTop (mkF m 4 #[.val (.ref a1), .val (.int (0 : Int32))] [(.ref a2)])) _
    refine XS.iloadN X1.here hx rfl (hb hby d6_4) rfl ?_
    show Steps p.tables e below (T1.setTop (mkF m 5 #[.val (.ref a1), .val (.int (0 : Int32))] [(.int (0 : Int32)), (.ref a2)])) _
    refine X1.aaload hx (j := (0 : Int32)) (v := (.ref a4)) (by rw [e1]; exact Ar2.1) (State.isArrayOf_alike hZ.alike Ar2.2.1) rfl Ar2.2.2 hin2 hat2 (g := (mkF m 5 #[.val (.ref a1), .val (.int (0 : Int32))] [(.int (0 : Int32)), (.ref a2)])) rfl rfl (hb hby d6_5) _ ?_
    show Steps p.tables e below (T1.setTop (mkF m 6 #[.val (.ref a1), .val (.int (0 : Int32))] [(.ref a4)])) _
    exact retOut X1 hx Bd.returns rfl (Or.inr (Or.inr (Or.inr (Or.inr ⟨rfl, rfl, rfl⟩)))) (hb hby d6_6) hr
  · show Q6_5 Z a1 a2 kc3 a4 h0 n0 _ T1.heap _
    rw [e1]
    exact ⟨rfl, N0, rfl⟩
theorem ef8_6 (m : MethodId) (a1 : Addr) : entryFrame m #[(.ref a1)] 1 = mkF m 0 #[.val (.ref a1)] [] := by first | (simp [entryFrame, mkF, argsToLocals, Value.category]; done) | rfl
def Q8_6 (Z : State) (a1 : Addr) (h0 : Heap) (n0 : Nat) (v : Option Value) (h : Heap) (L : List Loc) : Prop := v = some (.int (1 : Int32)) ∧ Fr n0 L ∧ h = h0
set_option maxRecDepth 65536 in
set_option maxHeartbeats 40000000 in
theorem rm8_6 (l : Launch) (Z : State) (a0 : Array Value) (hw : ∀ d ∈ tables_1, d.before a0 Z = true) (ws : List Jvm.Cond) (a1 : Addr) (h0 : Heap) (n0 : Nat) (Z0 : n0 ≤ h0.size) (F_a1_bigNumerator : Fld Z h0 a1 "com/example/hubclear/hubclear/Rational" "bigNumerator" "Ljava/math/BigInteger;" .null) :
    MetFree l (⟨"com/example/hubclear/hubclear/Rational", "isSmall", "()Z"⟩ : MethodName) (head1 (Jvm.Cond.code (⟨"com/example/hubclear/hubclear/Rational", "isSmall", "()Z"⟩ : MethodName) prog_18_method_6_code 1 (some .boolean) :: ws) ({ frames := 0, cells := 0, slots := 0, locals := 0 } : Room)) (fun a U => a = #[(.ref a1)] ∧ Z.Warmed39 U.vm ∧ U.heap = h0) (fun _ _ _ _ _ => True) (fun _ U o U' => ∃ v L, o = .returned v ∧ Q8_6 Z a1 h0 n0 v U'.heap L ∧ FrameEnd U o U' L ({ frames := 0, cells := 0, slots := 0, locals := 0 } : Room).cells ({ frames := 0, cells := 0, slots := 0, locals := 0 } : Room).slots) := by
  refine MetFree.of_bodySF (plainFor_of_name pn_com_example_hubclear_hubclear_Rational) hisR ?_
  intro p e s m args below meth c s₁ Bd hml0 hP hK
  obtain ⟨rfl, hZ, hh⟩ := hP
  have hx := Bd.exec
  have hby := Bd.bytes
  have hml : c.maxLocals = 1 := hml0
  have hown : s.vm.findClass "com/example/hubclear/hubclear/Rational" = some m.cls := findClass_of_methodNamed Bd.named
  have hnm := (name_of_methodNamed Bd.named Bd.method).1
  have X0 : Stand p l e ({ frames := 0, cells := 0, slots := 0, locals := 0 } : Room) s m #[(.ref a1)] below meth c s₁ [] 0 0 := Stand.of_body Bd
  have e0 : s₁.heap = h0 := by rw [← hh, Bd.state]; rfl
  have N0 := Fr.nil n0
  have pre0 : ∀ t, Steps p.tables e below (s₁.setTop (mkF m 0 #[.val (.ref a1)] [])) t → Steps p.tables e below (s₁.setTop (entryFrame m #[(.ref a1)] 1)) t := fun t k => castTop (ef8_6 m a1) k
  obtain ⟨T1, X1, e1, st1⟩ := getF X0 hx hZ hown (host := "") (Or.inl (own_w51 hw)) Via.refl e0 F_a1_bigNumerator (g := (mkF m 1 #[.val (.ref a1)] [(.ref a1)])) rfl rfl (hb hby d8_1)
  obtain ⟨fs, hr, hrun, hended, hW, hsame⟩ := X1.leave (v := some (.int (1 : Int32))) (fun h => by rw [Bd.returns] at h; cases h)
  refine ⟨_, _, pre0 _ ?_, hrun, hended, _, _, rfl, ?_, ⟨_, rfl⟩, hW, hsame.mono (by decide) (by decide)⟩
  · show Steps p.tables e below (s₁.setTop (mkF m 0 #[.val (.ref a1)] [])) _
    refine XS.aloadN X0.here hx rfl (hb hby d8_0) rfl rfl ?_
    show Steps p.tables e below (s₁.setTop (mkF m 1 #[.val (.ref a1)] [(.ref a1)])) _
    refine st1 _ ?_
    show Steps p.tables e below (T1.setTop (mkF m 4 #[.val (.ref a1)] [.null])) _
    refine XS.ifnonnullNo X1.here hx rfl (hb hby d8_4) rfl ?_
    show Steps p.tables e below (T1.setTop (mkF m 7 #[.val (.ref a1)] [])) _
    refine XS.iconst X1.here hx rfl (hb hby d8_7) ?_
    show Steps p.tables e below (T1.setTop (mkF m 8 #[.val (.ref a1)] [(.int (1 : Int32))])) _
    refine XS.goto X1.here hx rfl (pc0 := 8) (pc' := 12) rfl (hb hby d8_8) (by decide) (by decide) ?_
    show Steps p.tables e below (T1.setTop (mkF m 12 #[.val (.ref a1)] [(.int (1 : Int32))])) _
    exact retN X1 hx (t := .boolean) Bd.returns (by simp) (hb hby d8_12) hr
  · show Q8_6 Z a1 h0 n0 _ T1.heap _
    rw [e1]
    exact ⟨rfl, N0, rfl⟩
theorem ef7_7 (m : MethodId) (a1 : Addr) : entryFrame m #[(.ref a1), (.ref a1)] 3 = mkF m 0 #[.val (.ref a1), .val (.ref a1), .unset] [] := by first | (simp [entryFrame, mkF, argsToLocals, Value.category]; done) | rfl
def Q7_7 (Z : State) (a1 : Addr) (h0 : Heap) (n0 : Nat) (v : Option Value) (h : Heap) (L : List Loc) : Prop := v = some (.int (1 : Int32)) ∧ Fr n0 L ∧ h = h0
set_option maxRecDepth 65536 in
set_option maxHeartbeats 40000000 in
theorem rm7_7 (l : Launch) (Z : State) (a0 : Array Value) (hw : ∀ d ∈ tables_1, d.before a0 Z = true) (ws : List Jvm.Cond) (a1 : Addr) (h0 : Heap) (n0 : Nat) (Z0 : n0 ≤ h0.size) (E_a1 : Exa Z h0 a1 "com/example/hubclear/hubclear/Rational") (F_a1_bigNumerator : Fld Z h0 a1 "com/example/hubclear/hubclear/Rational" "bigNumerator" "Ljava/math/BigInteger;" .null) (F_a1_numerator : Fld Z h0 a1 "com/example/hubclear/hubclear/Rational" "numerator" "J" (.long (1 : Int64))) (F_a1_denominator : Fld Z h0 a1 "com/example/hubclear/hubclear/Rational" "denominator" "J" (.long (1 : Int64))) :
    MetFree l (⟨"com/example/hubclear/hubclear/Rational", "equals", "(Ljava/lang/Object;)Z"⟩ : MethodName) (head1 (Jvm.Cond.code (⟨"com/example/hubclear/hubclear/Rational", "equals", "(Ljava/lang/Object;)Z"⟩ : MethodName) prog_18_method_28_code 3 (some .boolean) :: ws) ({ frames := 1, cells := 0, slots := 0, locals := 12 } : Room)) (fun a U => a = #[(.ref a1), (.ref a1)] ∧ Z.Warmed39 U.vm ∧ U.heap = h0) (fun _ _ _ _ _ => True) (fun _ U o U' => ∃ v L, o = .returned v ∧ Q7_7 Z a1 h0 n0 v U'.heap L ∧ FrameEnd U o U' L ({ frames := 1, cells := 0, slots := 0, locals := 12 } : Room).cells ({ frames := 1, cells := 0, slots := 0, locals := 12 } : Room).slots) := by
  refine MetFree.of_bodySF (plainFor_of_name pn_com_example_hubclear_hubclear_Rational) hisR ?_
  intro p e s m args below meth c s₁ Bd hml0 hP hK
  obtain ⟨rfl, hZ, hh⟩ := hP
  have hx := Bd.exec
  have hby := Bd.bytes
  have hml : c.maxLocals = 3 := hml0
  have hown : s.vm.findClass "com/example/hubclear/hubclear/Rational" = some m.cls := findClass_of_methodNamed Bd.named
  have hnm := (name_of_methodNamed Bd.named Bd.method).1
  have X0 : Stand p l e ({ frames := 1, cells := 0, slots := 0, locals := 12 } : Room) s m #[(.ref a1), (.ref a1)] below meth c s₁ [] 0 0 := Stand.of_body Bd
  have e0 : s₁.heap = h0 := by rw [← hh, Bd.state]; rfl
  have N0 := Fr.nil n0
  have pre0 : ∀ t, Steps p.tables e below (s₁.setTop (mkF m 0 #[.val (.ref a1), .val (.ref a1), .unset] [])) t → Steps p.tables e below (s₁.setTop (entryFrame m #[(.ref a1), (.ref a1)] 3)) t := fun t k => castTop (ef7_7 m a1) k
  obtain ⟨T1, X1, e1, st1⟩ := instY X0 hx hZ hown (own_w46 hw) e0 (Ins.self E_a1) (g := (mkF m 1 #[.val (.ref a1), .val (.ref a1), .unset] [(.ref a1)])) rfl rfl (hb hby d7_1)
  obtain ⟨T2, X2, e2, st2⟩ := castY X1 hx hZ hown (own_w46 hw) e1 (Ins.self E_a1) (g := (mkF m 8 #[.val (.ref a1), .val (.ref a1), .unset] [(.ref a1)])) rfl rfl (hb hby d7_8)
  obtain ⟨cq3, q3, q3'⟩ := E_a1.cell
  obtain ⟨_, _, ⟨T3, L3, k3, n3⟩, -, X3, ⟨Lc3, hQ3, l3, y3, z3⟩, st3⟩ := X2.privateBack hx (y := (⟨"com/example/hubclear/hubclear/Rational", "isSmall", "()Z"⟩ : MethodName)) hown (mvT hZ (own_w47 hw)) (mvT hZ (own_w48 hw)) (own_sel_priv (args := #[]) (y := (⟨"com/example/hubclear/hubclear/Rational", "isSmall", "()Z"⟩ : MethodName)) (mvT hZ (own_w44 hw)) rfl (Cond.privateMethod_at (mvP hZ (own_w49 hw) (args := #[]))) (mvT hZ (own_w48 hw)) (by decide)) (Cond.privateMethod_at (mvP hZ (own_w49 hw) (args := #[]))) (mvT hZ (own_w50 hw)) (by decide) (backOf (W := 0) (rm8_6 l Z a0 hw [] a1 h0 n0 Z0 F_a1_bigNumerator) hZ (own_w50 hw) (own_w10 hw) (by decide) (by decide)) (g := (mkF m 18 #[.val (.ref a1), .val (.ref a1), .val (.ref a1)] [(.ref a1)])) rfl (by rw [hml]; rfl) (Steps.refl _) (a := a1) (by rw [e2]; exact q3) q3' (argsL := []) (rest := []) (lenOf pd___Z rfl) rfl (by show 2 * 0 + _ ≤ _; exact Nat.le_of_eq rfl) (hb hby d7_18) (fun _ _ => ⟨rfl, e2, (by decide : 0 + 0 ≤ _), (by decide : 0 + 0 ≤ _)⟩)
  dsimp only [Pt.U, Pt.locs, Pt.cells, Pt.slots] at X3 l3 y3 z3 st3 hQ3
  subst l3 y3 z3
  obtain ⟨rfl, N3q, e3⟩ := hQ3
  have N3 := Fr.app N0 N3q
  obtain ⟨cq4, q4, q4'⟩ := E_a1.cell
  obtain ⟨_, _, ⟨T4, L4, k4, n4⟩, -, X4, ⟨Lc4, hQ4, l4, y4, z4⟩, st4⟩ := X3.privateBack hx (y := (⟨"com/example/hubclear/hubclear/Rational", "isSmall", "()Z"⟩ : MethodName)) hown (mvT hZ (own_w47 hw)) (mvT hZ (own_w48 hw)) (own_sel_priv (args := #[]) (y := (⟨"com/example/hubclear/hubclear/Rational", "isSmall", "()Z"⟩ : MethodName)) (mvT hZ (own_w44 hw)) rfl (Cond.privateMethod_at (mvP hZ (own_w49 hw) (args := #[]))) (mvT hZ (own_w48 hw)) (by decide)) (Cond.privateMethod_at (mvP hZ (own_w49 hw) (args := #[]))) (mvT hZ (own_w50 hw)) (by decide) (backOf (W := 0) (rm8_6 l Z a0 hw [] a1 h0 n0 Z0 F_a1_bigNumerator) hZ (own_w50 hw) (own_w10 hw) (by decide) (by decide)) (g := (mkF m 32 #[.val (.ref a1), .val (.ref a1), .val (.ref a1)] [(.ref a1)])) rfl (by rw [hml]; rfl) (Steps.refl _) (a := a1) (by rw [e3]; exact q4) q4' (argsL := []) (rest := []) (lenOf pd___Z rfl) rfl (by show 2 * 0 + _ ≤ _; exact Nat.le_of_eq rfl) (hb hby d7_32) (fun _ _ => ⟨rfl, e3, (by decide : 0 + 0 ≤ _), (by decide : 0 + 0 ≤ _)⟩)
  dsimp only [Pt.U, Pt.locs, Pt.cells, Pt.slots] at X4 l4 y4 z4 st4 hQ4
  subst l4 y4 z4
  obtain ⟨rfl, N4q, e4⟩ := hQ4
  have N4 := Fr.app N3 N4q
  obtain ⟨cq5, q5, q5'⟩ := E_a1.cell
  obtain ⟨_, _, ⟨T5, L5, k5, n5⟩, -, X5, ⟨Lc5, hQ5, l5, y5, z5⟩, st5⟩ := X4.privateBack hx (y := (⟨"com/example/hubclear/hubclear/Rational", "isSmall", "()Z"⟩ : MethodName)) hown (mvT hZ (own_w47 hw)) (mvT hZ (own_w48 hw)) (own_sel_priv (args := #[]) (y := (⟨"com/example/hubclear/hubclear/Rational", "isSmall", "()Z"⟩ : MethodName)) (mvT hZ (own_w44 hw)) rfl (Cond.privateMethod_at (mvP hZ (own_w49 hw) (args := #[]))) (mvT hZ (own_w48 hw)) (by decide)) (Cond.privateMethod_at (mvP hZ (own_w49 hw) (args := #[]))) (mvT hZ (own_w50 hw)) (by decide) (backOf (W := 0) (rm8_6 l Z a0 hw [] a1 h0 n0 Z0 F_a1_bigNumerator) hZ (own_w50 hw) (own_w10 hw) (by decide) (by decide)) (g := (mkF m 39 #[.val (.ref a1), .val (.ref a1), .val (.ref a1)] [(.ref a1)])) rfl (by rw [hml]; rfl) (Steps.refl _) (a := a1) (by rw [e4]; exact q5) q5' (argsL := []) (rest := []) (lenOf pd___Z rfl) rfl (by show 2 * 0 + _ ≤ _; exact Nat.le_of_eq rfl) (hb hby d7_39) (fun _ _ => ⟨rfl, e4, (by decide : 0 + 0 ≤ _), (by decide : 0 + 0 ≤ _)⟩)
  dsimp only [Pt.U, Pt.locs, Pt.cells, Pt.slots] at X5 l5 y5 z5 st5 hQ5
  subst l5 y5 z5
  obtain ⟨rfl, N5q, e5⟩ := hQ5
  have N5 := Fr.app N4 N5q
  obtain ⟨T6, X6, e6, st6⟩ := getF X5 hx hZ hown (host := "") (Or.inl (own_w53 hw)) Via.refl e5 F_a1_numerator (g := (mkF m 46 #[.val (.ref a1), .val (.ref a1), .val (.ref a1)] [(.ref a1)])) rfl rfl (hb hby d7_46)
  obtain ⟨T7, X7, e7, st7⟩ := getF X6 hx hZ hown (host := "") (Or.inl (own_w53 hw)) Via.refl e6 F_a1_numerator (g := (mkF m 50 #[.val (.ref a1), .val (.ref a1), .val (.ref a1)] [(.ref a1), (.long (1 : Int64))])) rfl rfl (hb hby d7_50)
  obtain ⟨T8, X8, e8, st8⟩ := getF X7 hx hZ hown (host := "") (Or.inl (own_w55 hw)) Via.refl e7 F_a1_denominator (g := (mkF m 58 #[.val (.ref a1), .val (.ref a1), .val (.ref a1)] [(.ref a1)])) rfl rfl (hb hby d7_58)
  obtain ⟨T9, X9, e9, st9⟩ := getF X8 hx hZ hown (host := "") (Or.inl (own_w55 hw)) Via.refl e8 F_a1_denominator (g := (mkF m 62 #[.val (.ref a1), .val (.ref a1), .val (.ref a1)] [(.ref a1), (.long (1 : Int64))])) rfl rfl (hb hby d7_62)
  obtain ⟨fs, hr, hrun, hended, hW, hsame⟩ := X9.leave (v := some (.int (1 : Int32))) (fun h => by rw [Bd.returns] at h; cases h)
  refine ⟨_, _, pre0 _ ?_, hrun, hended, _, _, rfl, ?_, ⟨_, rfl⟩, hW, hsame.mono (by decide) (by decide)⟩
  · show Steps p.tables e below (s₁.setTop (mkF m 0 #[.val (.ref a1), .val (.ref a1), .unset] [])) _
    refine XS.aloadN X0.here hx rfl (hb hby d7_0) rfl rfl ?_
    show Steps p.tables e below (s₁.setTop (mkF m 1 #[.val (.ref a1), .val (.ref a1), .unset] [(.ref a1)])) _
    refine st1 _ ?_
    show Steps p.tables e below (T1.setTop (mkF m 4 #[.val (.ref a1), .val (.ref a1), .unset] [(.int (1 : Int32))])) _
    refine XS.ifNo X1.here hx rfl (hb hby d7_4) rfl ((if0 _ _).trans (feq (by decide : ¬ ((1 : Int32) = (0 : Int32)))).1) ?_
    show Steps p.tables e below (T1.setTop (mkF m 7 #[.val (.ref a1), .val (.ref a1), .unset] [])) _
    refine XS.aloadN X1.here hx rfl (hb hby d7_7) rfl rfl ?_
    show Steps p.tables e below (T1.setTop (mkF m 8 #[.val (.ref a1), .val (.ref a1), .unset] [(.ref a1)])) _
    refine st2 _ ?_
    show Steps p.tables e below (T2.setTop (mkF m 11 #[.val (.ref a1), .val (.ref a1), .unset] [(.ref a1)])) _
    refine XS.astoreN X2.here hx rfl (hb hby d7_11) rfl rfl (l' := #[.val (.ref a1), .val (.ref a1), .val (.ref a1)]) rfl ?_
    show Steps p.tables e below (T2.setTop (mkF m 12 #[.val (.ref a1), .val (.ref a1), .val (.ref a1)] [])) _
    refine XS.goto X2.here hx rfl (pc0 := 12) (pc' := 17) rfl (hb hby d7_12) (by decide) (by decide) ?_
    show Steps p.tables e below (T2.setTop (mkF m 17 #[.val (.ref a1), .val (.ref a1), .val (.ref a1)] [])) _
    refine XS.aloadN X2.here hx rfl (hb hby d7_17) rfl rfl ?_
    show Steps p.tables e below (T2.setTop (mkF m 18 #[.val (.ref a1), .val (.ref a1), .val (.ref a1)] [(.ref a1)])) _
    refine st3.trans ?_
    show Steps p.tables e below (T3.setTop (mkF m 21 #[.val (.ref a1), .val (.ref a1), .val (.ref a1)] [(.int (1 : Int32))])) _
    refine XS.ifYes X3.here hx rfl (pc0 := 21) (pc' := 31) rfl (hb hby d7_21) rfl ((if0 _ _).trans (feq (by decide : ¬ ((1 : Int32) = (0 : Int32)))).2) (by decide) (by decide) ?_
    show Steps p.tables e below (T3.setTop (mkF m 31 #[.val (.ref a1), .val (.ref a1), .val (.ref a1)] [])) _
    refine XS.aloadN X3.here hx rfl (hb hby d7_31) rfl rfl ?_
    show Steps p.tables e below (T3.setTop (mkF m 32 #[.val (.ref a1), .val (.ref a1), .val (.ref a1)] [(.ref a1)])) _
    refine st4.trans ?_
    show Steps p.tables e below (T4.setTop (mkF m 35 #[.val (.ref a1), .val (.ref a1), .val (.ref a1)] [(.int (1 : Int32))])) _
    refine XS.ifNo X4.here hx rfl (hb hby d7_35) rfl ((if0 _ _).trans (feq (by decide : ¬ ((1 : Int32) = (0 : Int32)))).1) ?_
    show Steps p.tables e below (T4.setTop (mkF m 38 #[.val (.ref a1), .val (.ref a1), .val (.ref a1)] [])) _
    refine XS.aloadN X4.here hx rfl (hb hby d7_38) rfl rfl ?_
    show Steps p.tables e below (T4.setTop (mkF m 39 #[.val (.ref a1), .val (.ref a1), .val (.ref a1)] [(.ref a1)])) _
    refine st5.trans ?_
    show Steps p.tables e below (T5.setTop (mkF m 42 #[.val (.ref a1), .val (.ref a1), .val (.ref a1)] [(.int (1 : Int32))])) _
    refine XS.ifNo X5.here hx rfl (hb hby d7_42) rfl ((if0 _ _).trans (feq (by decide : ¬ ((1 : Int32) = (0 : Int32)))).1) ?_
    show Steps p.tables e below (T5.setTop (mkF m 45 #[.val (.ref a1), .val (.ref a1), .val (.ref a1)] [])) _
    refine XS.aloadN X5.here hx rfl (hb hby d7_45) rfl rfl ?_
    show Steps p.tables e below (T5.setTop (mkF m 46 #[.val (.ref a1), .val (.ref a1), .val (.ref a1)] [(.ref a1)])) _
    refine st6 _ ?_
    show Steps p.tables e below (T6.setTop (mkF m 49 #[.val (.ref a1), .val (.ref a1), .val (.ref a1)] [(.long (1 : Int64))])) _
    refine XS.aloadN X6.here hx rfl (hb hby d7_49) rfl rfl ?_
    show Steps p.tables e below (T6.setTop (mkF m 50 #[.val (.ref a1), .val (.ref a1), .val (.ref a1)] [(.ref a1), (.long (1 : Int64))])) _
    refine st7 _ ?_
    show Steps p.tables e below (T7.setTop (mkF m 53 #[.val (.ref a1), .val (.ref a1), .val (.ref a1)] [(.long (1 : Int64)), (.long (1 : Int64))])) _
    refine XS.lcmp X7.here hx rfl (hb hby d7_53) rfl ?_
    show Steps p.tables e below (T7.setTop (mkF m 54 #[.val (.ref a1), .val (.ref a1), .val (.ref a1)] [(.int (lcmpW (1 : Int64) (1 : Int64)))])) _
    rw [(by decide : (lcmpW (1 : Int64) (1 : Int64)) = (0 : Int32))]
    show Steps p.tables e below (T7.setTop (mkF m 54 #[.val (.ref a1), .val (.ref a1), .val (.ref a1)] [(.int (0 : Int32))])) _
    refine XS.ifNo X7.here hx rfl (hb hby d7_54) rfl ((if0 _ _).trans (teq (by decide : (0 : Int32) = (0 : Int32))).2) ?_
    show Steps p.tables e below (T7.setTop (mkF m 57 #[.val (.ref a1), .val (.ref a1), .val (.ref a1)] [])) _
    refine XS.aloadN X7.here hx rfl (hb hby d7_57) rfl rfl ?_
    show Steps p.tables e below (T7.setTop (mkF m 58 #[.val (.ref a1), .val (.ref a1), .val (.ref a1)] [(.ref a1)])) _
    refine st8 _ ?_
    show Steps p.tables e below (T8.setTop (mkF m 61 #[.val (.ref a1), .val (.ref a1), .val (.ref a1)] [(.long (1 : Int64))])) _
    refine XS.aloadN X8.here hx rfl (hb hby d7_61) rfl rfl ?_
    show Steps p.tables e below (T8.setTop (mkF m 62 #[.val (.ref a1), .val (.ref a1), .val (.ref a1)] [(.ref a1), (.long (1 : Int64))])) _
    refine st9 _ ?_
    show Steps p.tables e below (T9.setTop (mkF m 65 #[.val (.ref a1), .val (.ref a1), .val (.ref a1)] [(.long (1 : Int64)), (.long (1 : Int64))])) _
    refine XS.lcmp X9.here hx rfl (hb hby d7_65) rfl ?_
    show Steps p.tables e below (T9.setTop (mkF m 66 #[.val (.ref a1), .val (.ref a1), .val (.ref a1)] [(.int (lcmpW (1 : Int64) (1 : Int64)))])) _
    rw [(by decide : (lcmpW (1 : Int64) (1 : Int64)) = (0 : Int32))]
    show Steps p.tables e below (T9.setTop (mkF m 66 #[.val (.ref a1), .val (.ref a1), .val (.ref a1)] [(.int (0 : Int32))])) _
    refine XS.ifNo X9.here hx rfl (hb hby d7_66) rfl ((if0 _ _).trans (teq (by decide : (0 : Int32) = (0 : Int32))).2) ?_
    show Steps p.tables e below (T9.setTop (mkF m 69 #[.val (.ref a1), .val (.ref a1), .val (.ref a1)] [])) _
    refine XS.iconst X9.here hx rfl (hb hby d7_69) ?_
    show Steps p.tables e below (T9.setTop (mkF m 70 #[.val (.ref a1), .val (.ref a1), .val (.ref a1)] [(.int (1 : Int32))])) _
    refine XS.goto X9.here hx rfl (pc0 := 70) (pc' := 74) rfl (hb hby d7_70) (by decide) (by decide) ?_
    show Steps p.tables e below (T9.setTop (mkF m 74 #[.val (.ref a1), .val (.ref a1), .val (.ref a1)] [(.int (1 : Int32))])) _
    exact retN X9 hx (t := .boolean) Bd.returns (by simp) (hb hby d7_74) hr
  · show Q7_7 Z a1 h0 n0 _ T9.heap _
    rw [e9]
    exact ⟨rfl, N5, rfl⟩
theorem ef11_8 (m : MethodId) : entryFrame m #[(.int (1 : Int32)), (.int (0 : Int32)), (.int (1 : Int32))] 3 = mkF m 0 #[.val (.int (1 : Int32)), .val (.int (0 : Int32)), .val (.int (1 : Int32))] [] := by first | (simp [entryFrame, mkF, argsToLocals, Value.category]; done) | rfl
def Q11_8 (Z : State) (h0 : Heap) (n0 : Nat) (v : Option Value) (h : Heap) (L : List Loc) : Prop := v = none ∧ Fr n0 L ∧ h = h0
set_option maxRecDepth 65536 in
set_option maxHeartbeats 40000000 in
theorem rm11_8 (l : Launch) (Z : State) (a0 : Array Value) (hw : ∀ d ∈ tables_1, d.before a0 Z = true) (ws : List Jvm.Cond) (h0 : Heap) (n0 : Nat) (Z0 : n0 ≤ h0.size) :
    MetFree l (⟨"java/util/Arrays", "rangeCheck", "(III)V"⟩ : MethodName) (head1 (Jvm.Cond.code (⟨"java/util/Arrays", "rangeCheck", "(III)V"⟩ : MethodName) jdk_65_method_30_code 3 none :: ws) ({ frames := 0, cells := 0, slots := 0, locals := 0 } : Room)) (fun a U => a = #[(.int (1 : Int32)), (.int (0 : Int32)), (.int (1 : Int32))] ∧ Z.Warmed39 U.vm ∧ U.heap = h0) (fun _ _ _ _ _ => True) (fun _ U o U' => ∃ v L, o = .returned v ∧ Q11_8 Z h0 n0 v U'.heap L ∧ FrameEnd U o U' L ({ frames := 0, cells := 0, slots := 0, locals := 0 } : Room).cells ({ frames := 0, cells := 0, slots := 0, locals := 0 } : Room).slots) := by
  refine MetFree.of_bodySF (plainFor_of_name pn_java_util_Arrays) hisR ?_
  intro p e s m args below meth c s₁ Bd hml0 hP hK
  obtain ⟨rfl, hZ, hh⟩ := hP
  have hx := Bd.exec
  have hby := Bd.bytes
  have hml : c.maxLocals = 3 := hml0
  have hown : s.vm.findClass "java/util/Arrays" = some m.cls := findClass_of_methodNamed Bd.named
  have hnm := (name_of_methodNamed Bd.named Bd.method).1
  have X0 : Stand p l e ({ frames := 0, cells := 0, slots := 0, locals := 0 } : Room) s m #[(.int (1 : Int32)), (.int (0 : Int32)), (.int (1 : Int32))] below meth c s₁ [] 0 0 := Stand.of_body Bd
  have e0 : s₁.heap = h0 := by rw [← hh, Bd.state]; rfl
  have N0 := Fr.nil n0
  have pre0 : ∀ t, Steps p.tables e below (s₁.setTop (mkF m 0 #[.val (.int (1 : Int32)), .val (.int (0 : Int32)), .val (.int (1 : Int32))] [])) t → Steps p.tables e below (s₁.setTop (entryFrame m #[(.int (1 : Int32)), (.int (0 : Int32)), (.int (1 : Int32))] 3)) t := fun t k => castTop (ef11_8 m) k
  obtain ⟨fs, hr, hrun, hended, hW, hsame⟩ := X0.leave (v := none) (fun _ => rfl)
  refine ⟨_, _, pre0 _ ?_, hrun, hended, _, _, rfl, ?_, ⟨_, rfl⟩, hW, hsame.mono (by decide) (by decide)⟩
  · show Steps p.tables e below (s₁.setTop (mkF m 0 #[.val (.int (1 : Int32)), .val (.int (0 : Int32)), .val (.int (1 : Int32))] [])) _
    refine XS.iloadN X0.here hx rfl (hb hby d11_0) rfl ?_
    show Steps p.tables e below (s₁.setTop (mkF m 1 #[.val (.int (1 : Int32)), .val (.int (0 : Int32)), .val (.int (1 : Int32))] [(.int (0 : Int32))])) _
    refine XS.iloadN X0.here hx rfl (hb hby d11_1) rfl ?_
    show Steps p.tables e below (s₁.setTop (mkF m 2 #[.val (.int (1 : Int32)), .val (.int (0 : Int32)), .val (.int (1 : Int32))] [(.int (1 : Int32)), (.int (0 : Int32))])) _
    refine XS.icmpYes X0.here hx rfl (pc0 := 2) (pc' := 46) rfl (hb hby d11_2) rfl (flt (by decide : ¬ ((1 : Int32) < (0 : Int32)))).2.2.2 (by decide) (by decide) ?_
    show Steps p.tables e below (s₁.setTop (mkF m 46 #[.val (.int (1 : Int32)), .val (.int (0 : Int32)), .val (.int (1 : Int32))] [])) _
    refine XS.iloadN X0.here hx rfl (hb hby d11_46) rfl ?_
    show Steps p.tables e below (s₁.setTop (mkF m 47 #[.val (.int (1 : Int32)), .val (.int (0 : Int32)), .val (.int (1 : Int32))] [(.int (0 : Int32))])) _
    refine XS.ifYes X0.here hx rfl (pc0 := 47) (pc' := 59) rfl (hb hby d11_47) rfl ((if0 _ _).trans (flt (by decide : ¬ ((0 : Int32) < (0 : Int32)))).2.1) (by decide) (by decide) ?_
    show Steps p.tables e below (s₁.setTop (mkF m 59 #[.val (.int (1 : Int32)), .val (.int (0 : Int32)), .val (.int (1 : Int32))] [])) _
    refine XS.iloadN X0.here hx rfl (hb hby d11_59) rfl ?_
    show Steps p.tables e below (s₁.setTop (mkF m 60 #[.val (.int (1 : Int32)), .val (.int (0 : Int32)), .val (.int (1 : Int32))] [(.int (1 : Int32))])) _
    refine XS.iloadN X0.here hx rfl (hb hby d11_60) rfl ?_
    show Steps p.tables e below (s₁.setTop (mkF m 61 #[.val (.int (1 : Int32)), .val (.int (0 : Int32)), .val (.int (1 : Int32))] [(.int (1 : Int32)), (.int (1 : Int32))])) _
    refine XS.icmpYes X0.here hx rfl (pc0 := 61) (pc' := 73) rfl (hb hby d11_61) rfl (flt (by decide : ¬ ((1 : Int32) < (1 : Int32)))).2.2.2 (by decide) (by decide) ?_
    show Steps p.tables e below (s₁.setTop (mkF m 73 #[.val (.int (1 : Int32)), .val (.int (0 : Int32)), .val (.int (1 : Int32))] [])) _
    exact X0.returnOut hx Bd.returns (hb hby d11_73) hr
  · show Q11_8 Z h0 n0 _ s₁.heap _
    rw [e0]
    exact ⟨rfl, N0, rfl⟩
theorem ef12_9 (m : MethodId) (a1 : Addr) (p2 : Int32) : entryFrame m #[(.ref a1), (.int (0 : Int32)), (.int (1 : Int32)), (.int p2)] 8 = mkF m 0 #[.val (.ref a1), .val (.int (0 : Int32)), .val (.int (1 : Int32)), .val (.int p2), .unset, .unset, .unset, .unset] [] := by first | (simp [entryFrame, mkF, argsToLocals, Value.category]; done) | rfl
def Q12_9 (Z : State) (a1 : Addr) (p2 : Int32) (kc3 : ClassId) (h0 : Heap) (n0 : Nat) (v : Option Value) (h : Heap) (L : List Loc) : Prop := v = some (.int (0 : Int32)) ∧ Fr n0 L ∧ h = h0
set_option maxRecDepth 65536 in
set_option maxHeartbeats 40000000 in
theorem rm12_9 (l : Launch) (Z : State) (a0 : Array Value) (hw : ∀ d ∈ tables_1, d.before a0 Z = true) (ws : List Jvm.Cond) (a1 : Addr) (p2 : Int32) (kc3 : ClassId) (h0 : Heap) (n0 : Nat) (Z0 : n0 ≤ h0.size) (V_a1 : Arv Z h0 a1 kc3 .int (1 : Int32) [(.int p2)] (.int (0 : Int32))) :
    MetFree l (⟨"java/util/Arrays", "binarySearch0", "([IIII)I"⟩ : MethodName) (head1 (Jvm.Cond.code (⟨"java/util/Arrays", "binarySearch0", "([IIII)I"⟩ : MethodName) jdk_65_method_59_code 8 (some .int) :: ws) ({ frames := 0, cells := 0, slots := 0, locals := 0 } : Room)) (fun a U => a = #[(.ref a1), (.int (0 : Int32)), (.int (1 : Int32)), (.int p2)] ∧ Z.Warmed39 U.vm ∧ U.heap = h0) (fun _ _ _ _ _ => True) (fun _ U o U' => ∃ v L, o = .returned v ∧ Q12_9 Z a1 p2 kc3 h0 n0 v U'.heap L ∧ FrameEnd U o U' L ({ frames := 0, cells := 0, slots := 0, locals := 0 } : Room).cells ({ frames := 0, cells := 0, slots := 0, locals := 0 } : Room).slots) := by
  refine MetFree.of_bodySF (plainFor_of_name pn_java_util_Arrays) hisR ?_
  intro p e s m args below meth c s₁ Bd hml0 hP hK
  obtain ⟨rfl, hZ, hh⟩ := hP
  have hx := Bd.exec
  have hby := Bd.bytes
  have hml : c.maxLocals = 8 := hml0
  have hown : s.vm.findClass "java/util/Arrays" = some m.cls := findClass_of_methodNamed Bd.named
  have hnm := (name_of_methodNamed Bd.named Bd.method).1
  have X0 : Stand p l e ({ frames := 0, cells := 0, slots := 0, locals := 0 } : Room) s m #[(.ref a1), (.int (0 : Int32)), (.int (1 : Int32)), (.int p2)] below meth c s₁ [] 0 0 := Stand.of_body Bd
  have e0 : s₁.heap = h0 := by rw [← hh, Bd.state]; rfl
  have N0 := Fr.nil n0
  have pre0 : ∀ t, Steps p.tables e below (s₁.setTop (mkF m 0 #[.val (.ref a1), .val (.int (0 : Int32)), .val (.int (1 : Int32)), .val (.int p2), .unset, .unset, .unset, .unset] [])) t → Steps p.tables e below (s₁.setTop (entryFrame m #[(.ref a1), (.int (0 : Int32)), (.int (1 : Int32)), (.int p2)] 8)) t := fun t k => castTop (ef12_9 m a1 p2) k
  obtain ⟨cl1, Ar1, qk1, Sz1, Ng1, Ha1, Gf1⟩ := id V_a1
  have hin1 : ¬ ((0 : Int32) < 0 ∨ cl1.slots.size ≤ ((0 : Int32)).toNatClampNeg) := inb_of Sz1 ⟨by decide, by decide⟩
  have hat1 : cl1.slots[((0 : Int32)).toNatClampNeg]? = some (.int p2) := Has.at Ha1 hin1 rfl
  obtain ⟨fs, hr, hrun, hended, hW, hsame⟩ := X0.leave (v := some (.int (0 : Int32))) (fun h => by rw [Bd.returns] at h; cases h)
  refine ⟨_, _, pre0 _ ?_, hrun, hended, _, _, rfl, ?_, ⟨_, rfl⟩, hW, hsame.mono (by decide) (by decide)⟩
  · show Steps p.tables e below (s₁.setTop (mkF m 0 #[.val (.ref a1), .val (.int (0 : Int32)), .val (.int (1 : Int32)), .val (.int p2), .unset, .unset, .unset, .unset] [])) _
    refine XS.iloadN X0.here hx rfl (hb hby d12_0) rfl ?_
    show Steps p.tables e below (s₁.setTop (mkF m 1 #[.val (.ref a1), .val (.int (0 : Int32)), .val (.int (1 : Int32)), .val (.int p2), .unset, .unset, .unset, .unset] [(.int (0 : Int32))])) _
    refine XS.istore X0.here hx rfl (hb hby d12_1) rfl (l' := #[.val (.ref a1), .val (.int (0 : Int32)), .val (.int (1 : Int32)), .val (.int p2), .val (.int (0 : Int32)), .unset, .unset, .unset]) rfl ?_
    show Steps p.tables e below (s₁.setTop (mkF m 3 #[.val (.ref a1), .val (.int (0 : Int32)), .val (.int (1 : Int32)), .val (.int p2), .val (.int (0 : Int32)), .unset, .unset, .unset] [])) _
    refine XS.iloadN X0.here hx rfl (hb hby d12_3) rfl ?_
    show Steps p.tables e below (s₁.setTop (mkF m 4 #[.val (.ref a1), .val (.int (0 : Int32)), .val (.int (1 : Int32)), .val (.int p2), .val (.int (0 : Int32)), .unset, .unset, .unset] [(.int (1 : Int32))])) _
    refine XS.iconst X0.here hx rfl (hb hby d12_4) ?_
    show Steps p.tables e below (s₁.setTop (mkF m 5 #[.val (.ref a1), .val (.int (0 : Int32)), .val (.int (1 : Int32)), .val (.int p2), .val (.int (0 : Int32)), .unset, .unset, .unset] [(.int (1 : Int32)), (.int (1 : Int32))])) _
    refine XS.isub X0.here hx rfl (hb hby d12_5) rfl ?_
    show Steps p.tables e below (s₁.setTop (mkF m 6 #[.val (.ref a1), .val (.int (0 : Int32)), .val (.int (1 : Int32)), .val (.int p2), .val (.int (0 : Int32)), .unset, .unset, .unset] [(.int ((1 : Int32) - (1 : Int32)))])) _
    rw [(by decide : ((1 : Int32) - (1 : Int32)) = (0 : Int32))]
    show Steps p.tables e below (s₁.setTop (mkF m 6 #[.val (.ref a1), .val (.int (0 : Int32)), .val (.int (1 : Int32)), .val (.int p2), .val (.int (0 : Int32)), .unset, .unset, .unset] [(.int (0 : Int32))])) _
    refine XS.istore X0.here hx rfl (hb hby d12_6) rfl (l' := #[.val (.ref a1), .val (.int (0 : Int32)), .val (.int (1 : Int32)), .val (.int p2), .val (.int (0 : Int32)), .val (.int (0 : Int32)), .unset, .unset]) rfl ?_
    show Steps p.tables e below (s₁.setTop (mkF m 8 #[.val (.ref a1), .val (.int (0 : Int32)), .val (.int (1 : Int32)), .val (.int p2), .val (.int (0 : Int32)), .val (.int (0 : Int32)), .unset, .unset] [])) _
    refine XS.iload X0.here hx rfl (hb hby d12_8) rfl ?_
    show Steps p.tables e below (s₁.setTop (mkF m 10 #[.val (.ref a1), .val (.int (0 : Int32)), .val (.int (1 : Int32)), .val (.int p2), .val (.int (0 : Int32)), .val (.int (0 : Int32)), .unset, .unset] [(.int (0 : Int32))])) _
    refine XS.iload X0.here hx rfl (hb hby d12_10) rfl ?_
    show Steps p.tables e below (s₁.setTop (mkF m 12 #[.val (.ref a1), .val (.int (0 : Int32)), .val (.int (1 : Int32)), .val (.int p2), .val (.int (0 : Int32)), .val (.int (0 : Int32)), .unset, .unset] [(.int (0 : Int32)), (.int (0 : Int32))])) _
    refine XS.icmpNo X0.here hx rfl (hb hby d12_12) rfl (flt (by decide : ¬ ((0 : Int32) < (0 : Int32)))).2.2.1 ?_
    show Steps p.tables e below (s₁.setTop (mkF m 15 #[.val (.ref a1), .val (.int (0 : Int32)), .val (.int (1 : Int32)), .val (.int p2), .val (.int (0 : Int32)), .val (.int (0 : Int32)), .unset, .unset] [])) _
    refine XS.iload X0.here hx rfl (hb hby d12_15) rfl ?_
    show Steps p.tables e below (s₁.setTop (mkF m 17 #[.val (.ref a1), .val (.int (0 : Int32)), .val (.int (1 : Int32)), .val (.int p2), .val (.int (0 : Int32)), .val (.int (0 : Int32)), .unset, .unset] [(.int (0 : Int32))])) _
    refine XS.iload X0.here hx rfl (hb hby d12_17) rfl ?_
    show Steps p.tables e below (s₁.setTop (mkF m 19 #[.val (.ref a1), .val (.int (0 : Int32)), .val (.int (1 : Int32)), .val (.int p2), .val (.int (0 : Int32)), .val (.int (0 : Int32)), .unset, .unset] [(.int (0 : Int32)), (.int (0 : Int32))])) _
    refine XS.iadd X0.here hx rfl (hb hby d12_19) rfl ?_
    show Steps p.tables e below (s₁.setTop (mkF m 20 #[.val (.ref a1), .val (.int (0 : Int32)), .val (.int (1 : Int32)), .val (.int p2), .val (.int (0 : Int32)), .val (.int (0 : Int32)), .unset, .unset] [(.int ((0 : Int32) + (0 : Int32)))])) _
    rw [(by decide : ((0 : Int32) + (0 : Int32)) = (0 : Int32))]
    show Steps p.tables e below (s₁.setTop (mkF m 20 #[.val (.ref a1), .val (.int (0 : Int32)), .val (.int (1 : Int32)), .val (.int p2), .val (.int (0 : Int32)), .val (.int (0 : Int32)), .unset, .unset] [(.int (0 : Int32))])) _
    refine XS.iconst X0.here hx rfl (hb hby d12_20) ?_
    show Steps p.tables e below (s₁.setTop (mkF m 21 #[.val (.ref a1), .val (.int (0 : Int32)), .val (.int (1 : Int32)), .val (.int p2), .val (.int (0 : Int32)), .val (.int (0 : Int32)), .unset, .unset] [(.int (1 : Int32)), (.int (0 : Int32))])) _
    refine XS.iushr X0.here hx rfl (hb hby d12_21) rfl ?_
    show Steps p.tables e below (s₁.setTop (mkF m 22 #[.val (.ref a1), .val (.int (0 : Int32)), .val (.int (1 : Int32)), .val (.int p2), .val (.int (0 : Int32)), .val (.int (0 : Int32)), .unset, .unset] [(.int (((0 : Int32).toUInt32 >>> ((1 : Int32) &&& 31).toUInt32).toInt32))])) _
    rw [(by decide : (((0 : Int32).toUInt32 >>> ((1 : Int32) &&& 31).toUInt32).toInt32) = (0 : Int32))]
    show Steps p.tables e below (s₁.setTop (mkF m 22 #[.val (.ref a1), .val (.int (0 : Int32)), .val (.int (1 : Int32)), .val (.int p2), .val (.int (0 : Int32)), .val (.int (0 : Int32)), .unset, .unset] [(.int (0 : Int32))])) _
    refine XS.istore X0.here hx rfl (hb hby d12_22) rfl (l' := #[.val (.ref a1), .val (.int (0 : Int32)), .val (.int (1 : Int32)), .val (.int p2), .val (.int (0 : Int32)), .val (.int (0 : Int32)), .val (.int (0 : Int32)), .unset]) rfl ?_
    show Steps p.tables e below (s₁.setTop (mkF m 24 #[.val (.ref a1), .val (.int (0 : Int32)), .val (.int (1 : Int32)), .val (.int p2), .val (.int (0 : Int32)), .val (.int (0 : Int32)), .val (.int (0 : Int32)), .unset] [])) _
    refine XS.aloadN X0.here hx rfl (hb hby d12_24) rfl rfl ?_
    show Steps p.tables e below (s₁.setTop (mkF m 25 #[.val (.ref a1), .val (.int (0 : Int32)), .val (.int (1 : Int32)), .val (.int p2), .val (.int (0 : Int32)), .val (.int (0 : Int32)), .val (.int (0 : Int32)), .unset] [(.ref a1)])) _
    refine XS.iload X0.here hx rfl (hb hby d12_25) rfl ?_
    show Steps p.tables e below (s₁.setTop (mkF m 27 #[.val (.ref a1), .val (.int (0 : Int32)), .val (.int (1 : Int32)), .val (.int p2), .val (.int (0 : Int32)), .val (.int (0 : Int32)), .val (.int (0 : Int32)), .unset] [(.int (0 : Int32)), (.ref a1)])) _
    refine X0.iaload hx (j := (0 : Int32)) (v := (.int p2)) (by rw [e0]; exact Ar1.1) (State.isArrayOf_alike hZ.alike Ar1.2.1) Ar1.2.2 hin1 hat1 (g := (mkF m 27 #[.val (.ref a1), .val (.int (0 : Int32)), .val (.int (1 : Int32)), .val (.int p2), .val (.int (0 : Int32)), .val (.int (0 : Int32)), .val (.int (0 : Int32)), .unset] [(.int (0 : Int32)), (.ref a1)])) rfl rfl (hb hby d12_27) _ ?_
    show Steps p.tables e below (s₁.setTop (mkF m 28 #[.val (.ref a1), .val (.int (0 : Int32)), .val (.int (1 : Int32)), .val (.int p2), .val (.int (0 : Int32)), .val (.int (0 : Int32)), .val (.int (0 : Int32)), .unset] [(.int p2)])) _
    refine XS.istore X0.here hx rfl (hb hby d12_28) rfl (l' := #[.val (.ref a1), .val (.int (0 : Int32)), .val (.int (1 : Int32)), .val (.int p2), .val (.int (0 : Int32)), .val (.int (0 : Int32)), .val (.int (0 : Int32)), .val (.int p2)]) rfl ?_
    show Steps p.tables e below (s₁.setTop (mkF m 30 #[.val (.ref a1), .val (.int (0 : Int32)), .val (.int (1 : Int32)), .val (.int p2), .val (.int (0 : Int32)), .val (.int (0 : Int32)), .val (.int (0 : Int32)), .val (.int p2)] [])) _
    refine XS.iload X0.here hx rfl (hb hby d12_30) rfl ?_
    show Steps p.tables e below (s₁.setTop (mkF m 32 #[.val (.ref a1), .val (.int (0 : Int32)), .val (.int (1 : Int32)), .val (.int p2), .val (.int (0 : Int32)), .val (.int (0 : Int32)), .val (.int (0 : Int32)), .val (.int p2)] [(.int p2)])) _
    refine XS.iloadN X0.here hx rfl (hb hby d12_32) rfl ?_
    show Steps p.tables e below (s₁.setTop (mkF m 33 #[.val (.ref a1), .val (.int (0 : Int32)), .val (.int (1 : Int32)), .val (.int p2), .val (.int (0 : Int32)), .val (.int (0 : Int32)), .val (.int (0 : Int32)), .val (.int p2)] [(.int p2), (.int p2)])) _
    refine XS.icmpYes X0.here hx rfl (pc0 := 33) (pc' := 45) rfl (hb hby d12_33) rfl (flt (Int32.lt_irrefl : ¬ (p2 < p2))).2.1 (by decide) (by decide) ?_
    show Steps p.tables e below (s₁.setTop (mkF m 45 #[.val (.ref a1), .val (.int (0 : Int32)), .val (.int (1 : Int32)), .val (.int p2), .val (.int (0 : Int32)), .val (.int (0 : Int32)), .val (.int (0 : Int32)), .val (.int p2)] [])) _
    refine XS.iload X0.here hx rfl (hb hby d12_45) rfl ?_
    show Steps p.tables e below (s₁.setTop (mkF m 47 #[.val (.ref a1), .val (.int (0 : Int32)), .val (.int (1 : Int32)), .val (.int p2), .val (.int (0 : Int32)), .val (.int (0 : Int32)), .val (.int (0 : Int32)), .val (.int p2)] [(.int p2)])) _
    refine XS.iloadN X0.here hx rfl (hb hby d12_47) rfl ?_
    show Steps p.tables e below (s₁.setTop (mkF m 48 #[.val (.ref a1), .val (.int (0 : Int32)), .val (.int (1 : Int32)), .val (.int p2), .val (.int (0 : Int32)), .val (.int (0 : Int32)), .val (.int (0 : Int32)), .val (.int p2)] [(.int p2), (.int p2)])) _
    refine XS.icmpYes X0.here hx rfl (pc0 := 48) (pc' := 60) rfl (hb hby d12_48) rfl (flt (Int32.lt_irrefl : ¬ (p2 < p2))).2.2.2 (by decide) (by decide) ?_
    show Steps p.tables e below (s₁.setTop (mkF m 60 #[.val (.ref a1), .val (.int (0 : Int32)), .val (.int (1 : Int32)), .val (.int p2), .val (.int (0 : Int32)), .val (.int (0 : Int32)), .val (.int (0 : Int32)), .val (.int p2)] [])) _
    refine XS.iload X0.here hx rfl (hb hby d12_60) rfl ?_
    show Steps p.tables e below (s₁.setTop (mkF m 62 #[.val (.ref a1), .val (.int (0 : Int32)), .val (.int (1 : Int32)), .val (.int p2), .val (.int (0 : Int32)), .val (.int (0 : Int32)), .val (.int (0 : Int32)), .val (.int p2)] [(.int (0 : Int32))])) _
    exact retI X0 hx Bd.returns (hb hby d12_62) hr
  · show Q12_9 Z a1 p2 kc3 h0 n0 _ s₁.heap _
    rw [e0]
    exact ⟨rfl, N0, rfl⟩
theorem ef10_10 (m : MethodId) (a1 : Addr) (p2 : Int32) : entryFrame m #[(.ref a1), (.int (0 : Int32)), (.int (1 : Int32)), (.int p2)] 4 = mkF m 0 #[.val (.ref a1), .val (.int (0 : Int32)), .val (.int (1 : Int32)), .val (.int p2)] [] := by first | (simp [entryFrame, mkF, argsToLocals, Value.category]; done) | rfl
def Q10_10 (Z : State) (a1 : Addr) (p2 : Int32) (kc3 : ClassId) (h0 : Heap) (n0 : Nat) (v : Option Value) (h : Heap) (L : List Loc) : Prop := v = some (.int (0 : Int32)) ∧ Fr n0 L ∧ h = h0
set_option maxRecDepth 65536 in
set_option maxHeartbeats 40000000 in
theorem rm10_10 (l : Launch) (Z : State) (a0 : Array Value) (hw : ∀ d ∈ tables_1, d.before a0 Z = true) (ws : List Jvm.Cond) (a1 : Addr) (p2 : Int32) (kc3 : ClassId) (h0 : Heap) (n0 : Nat) (Z0 : n0 ≤ h0.size) (V_a1 : Arv Z h0 a1 kc3 .int (1 : Int32) [(.int p2)] (.int (0 : Int32))) :
    MetFree l (⟨"java/util/Arrays", "binarySearch", "([IIII)I"⟩ : MethodName) (head1 (Jvm.Cond.code (⟨"java/util/Arrays", "binarySearch", "([IIII)I"⟩ : MethodName) jdk_65_method_58_code 4 (some .int) :: ws) ({ frames := 1, cells := 0, slots := 0, locals := 19 } : Room)) (fun a U => a = #[(.ref a1), (.int (0 : Int32)), (.int (1 : Int32)), (.int p2)] ∧ Z.Warmed39 U.vm ∧ U.heap = h0) (fun _ _ _ _ _ => True) (fun _ U o U' => ∃ v L, o = .returned v ∧ Q10_10 Z a1 p2 kc3 h0 n0 v U'.heap L ∧ FrameEnd U o U' L ({ frames := 1, cells := 0, slots := 0, locals := 19 } : Room).cells ({ frames := 1, cells := 0, slots := 0, locals := 19 } : Room).slots) := by
  refine MetFree.of_bodySF (plainFor_of_name pn_java_util_Arrays) hisR ?_
  intro p e s m args below meth c s₁ Bd hml0 hP hK
  obtain ⟨rfl, hZ, hh⟩ := hP
  have hx := Bd.exec
  have hby := Bd.bytes
  have hml : c.maxLocals = 4 := hml0
  have hown : s.vm.findClass "java/util/Arrays" = some m.cls := findClass_of_methodNamed Bd.named
  have hnm := (name_of_methodNamed Bd.named Bd.method).1
  have X0 : Stand p l e ({ frames := 1, cells := 0, slots := 0, locals := 19 } : Room) s m #[(.ref a1), (.int (0 : Int32)), (.int (1 : Int32)), (.int p2)] below meth c s₁ [] 0 0 := Stand.of_body Bd
  have e0 : s₁.heap = h0 := by rw [← hh, Bd.state]; rfl
  have N0 := Fr.nil n0
  have pre0 : ∀ t, Steps p.tables e below (s₁.setTop (mkF m 0 #[.val (.ref a1), .val (.int (0 : Int32)), .val (.int (1 : Int32)), .val (.int p2)] [])) t → Steps p.tables e below (s₁.setTop (entryFrame m #[(.ref a1), (.int (0 : Int32)), (.int (1 : Int32)), (.int p2)] 4)) t := fun t k => castTop (ef10_10 m a1 p2) k
  obtain ⟨cl1, Ar1, -, Sz1, Ng1, -, -⟩ := id V_a1
  obtain ⟨_, _, ⟨T2, L2, k2, n2⟩, -, X2, ⟨Lc2, hQ2, l2, y2, z2⟩, st2⟩ := Jvm.LawKit.callS X0 hx (y := (⟨"java/util/Arrays", "rangeCheck", "(III)V"⟩ : MethodName)) hown (mvT hZ (own_w66 hw)) (mvT hZ (own_w67 hw)) (mvT hZ (own_w64 hw)) (mvT hZ (own_w68 hw)) (by decide) (backOf (W := 0) (rm11_8 l Z a0 hw []  h0 n0 Z0 ) hZ (own_w68 hw) (own_w64 hw) (by decide) (by decide)) (g := (mkF m 4 #[.val (.ref a1), .val (.int (0 : Int32)), .val (.int (1 : Int32)), .val (.int p2)] [(.int (1 : Int32)), (.int (0 : Int32)), (.int (1 : Int32))])) rfl (by rw [hml]; rfl) (argsL := [(.int (1 : Int32)), (.int (0 : Int32)), (.int (1 : Int32))]) (rest := []) (lenOf pd__III_V rfl) rfl (by show 2 * 0 + _ ≤ _; exact Nat.le_of_eq rfl) (hb hby d10_4) (fun _ _ => ⟨rfl, e0, (by decide : 0 + 0 ≤ _), (by decide : 0 + 0 ≤ _)⟩)
  dsimp only [Pt.U, Pt.locs, Pt.cells, Pt.slots] at X2 l2 y2 z2 st2 hQ2
  subst l2 y2 z2
  obtain ⟨rfl, N2q, e2⟩ := hQ2
  have N2 := Fr.app N0 N2q
  obtain ⟨_, _, ⟨T3, L3, k3, n3⟩, -, X3, ⟨Lc3, hQ3, l3, y3, z3⟩, st3⟩ := Jvm.LawKit.callS X2 hx (y := (⟨"java/util/Arrays", "binarySearch0", "([IIII)I"⟩ : MethodName)) hown (mvT hZ (own_w69 hw)) (mvT hZ (own_w70 hw)) (mvT hZ (own_w64 hw)) (mvT hZ (own_w71 hw)) (by decide) (backOf (W := 0) (rm12_9 l Z a0 hw [] a1 p2 kc3 h0 n0 Z0 V_a1) hZ (own_w71 hw) (own_w64 hw) (by decide) (by decide)) (g := (mkF m 11 #[.val (.ref a1), .val (.int (0 : Int32)), .val (.int (1 : Int32)), .val (.int p2)] [(.int p2), (.int (1 : Int32)), (.int (0 : Int32)), (.ref a1)])) rfl (by rw [hml]; rfl) (argsL := [(.ref a1), (.int (0 : Int32)), (.int (1 : Int32)), (.int p2)]) (rest := []) (lenOf pd___IIII_I rfl) rfl (by show 2 * 0 + _ ≤ _; exact Nat.le_of_eq rfl) (hb hby d10_11) (fun _ _ => ⟨rfl, e2, (by decide : 0 + 0 ≤ _), (by decide : 0 + 0 ≤ _)⟩)
  dsimp only [Pt.U, Pt.locs, Pt.cells, Pt.slots] at X3 l3 y3 z3 st3 hQ3
  subst l3 y3 z3
  obtain ⟨rfl, N3q, e3⟩ := hQ3
  have N3 := Fr.app N2 N3q
  obtain ⟨fs, hr, hrun, hended, hW, hsame⟩ := X3.leave (v := some (.int (0 : Int32))) (fun h => by rw [Bd.returns] at h; cases h)
  refine ⟨_, _, pre0 _ ?_, hrun, hended, _, _, rfl, ?_, ⟨_, rfl⟩, hW, hsame.mono (by decide) (by decide)⟩
  · show Steps p.tables e below (s₁.setTop (mkF m 0 #[.val (.ref a1), .val (.int (0 : Int32)), .val (.int (1 : Int32)), .val (.int p2)] [])) _
    refine XS.aloadN X0.here hx rfl (hb hby d10_0) rfl rfl ?_
    show Steps p.tables e below (s₁.setTop (mkF m 1 #[.val (.ref a1), .val (.int (0 : Int32)), .val (.int (1 : Int32)), .val (.int p2)] [(.ref a1)])) _
    refine X0.arraylength hx (by rw [e0]; exact Ar1.1) (State.isArrayOf_alike hZ.alike Ar1.2.1) (g := (mkF m 1 #[.val (.ref a1), .val (.int (0 : Int32)), .val (.int (1 : Int32)), .val (.int p2)] [(.ref a1)])) rfl rfl (hb hby d10_1) _ ?_
    rw [len_of Sz1 Ng1]
    show Steps p.tables e below (s₁.setTop (mkF m 2 #[.val (.ref a1), .val (.int (0 : Int32)), .val (.int (1 : Int32)), .val (.int p2)] [(.int (1 : Int32))])) _
    refine XS.iloadN X0.here hx rfl (hb hby d10_2) rfl ?_
    show Steps p.tables e below (s₁.setTop (mkF m 3 #[.val (.ref a1), .val (.int (0 : Int32)), .val (.int (1 : Int32)), .val (.int p2)] [(.int (0 : Int32)), (.int (1 : Int32))])) _
    refine XS.iloadN X0.here hx rfl (hb hby d10_3) rfl ?_
    show Steps p.tables e below (s₁.setTop (mkF m 4 #[.val (.ref a1), .val (.int (0 : Int32)), .val (.int (1 : Int32)), .val (.int p2)] [(.int (1 : Int32)), (.int (0 : Int32)), (.int (1 : Int32))])) _
    refine st2 _ ?_
    show Steps p.tables e below (T2.setTop (mkF m 7 #[.val (.ref a1), .val (.int (0 : Int32)), .val (.int (1 : Int32)), .val (.int p2)] [])) _
    refine XS.aloadN X2.here hx rfl (hb hby d10_7) rfl rfl ?_
    show Steps p.tables e below (T2.setTop (mkF m 8 #[.val (.ref a1), .val (.int (0 : Int32)), .val (.int (1 : Int32)), .val (.int p2)] [(.ref a1)])) _
    refine XS.iloadN X2.here hx rfl (hb hby d10_8) rfl ?_
    show Steps p.tables e below (T2.setTop (mkF m 9 #[.val (.ref a1), .val (.int (0 : Int32)), .val (.int (1 : Int32)), .val (.int p2)] [(.int (0 : Int32)), (.ref a1)])) _
    refine XS.iloadN X2.here hx rfl (hb hby d10_9) rfl ?_
    show Steps p.tables e below (T2.setTop (mkF m 10 #[.val (.ref a1), .val (.int (0 : Int32)), .val (.int (1 : Int32)), .val (.int p2)] [(.int (1 : Int32)), (.int (0 : Int32)), (.ref a1)])) _
    refine XS.iloadN X2.here hx rfl (hb hby d10_10) rfl ?_
    show Steps p.tables e below (T2.setTop (mkF m 11 #[.val (.ref a1), .val (.int (0 : Int32)), .val (.int (1 : Int32)), .val (.int p2)] [(.int p2), (.int (1 : Int32)), (.int (0 : Int32)), (.ref a1)])) _
    refine st3 _ ?_
    show Steps p.tables e below (T3.setTop (mkF m 14 #[.val (.ref a1), .val (.int (0 : Int32)), .val (.int (1 : Int32)), .val (.int p2)] [(.int (0 : Int32))])) _
    exact retI X3 hx Bd.returns (hb hby d10_14) hr
  · show Q10_10 Z a1 p2 kc3 h0 n0 _ T3.heap _
    rw [e3]
    exact ⟨rfl, N3, rfl⟩
theorem ef9_11 (m : MethodId) (a1 : Addr) (p2 : Int32) : entryFrame m #[(.ref a1), (.int p2)] 3 = mkF m 0 #[.val (.ref a1), .val (.int p2), .unset] [] := by first | (simp [entryFrame, mkF, argsToLocals, Value.category]; done) | rfl
def Q9_11 (Z : State) (a1 : Addr) (p2 : Int32) (a3 : Addr) (kc4 : ClassId) (a5 : Addr) (kc6 : ClassId) (a7 : Addr) (h0 : Heap) (n0 : Nat) (v : Option Value) (h : Heap) (L : List Loc) : Prop := v = some (.ref a7) ∧ Fr n0 L ∧ h = h0
set_option maxRecDepth 65536 in
set_option maxHeartbeats 40000000 in
theorem rm9_11 (l : Launch) (Z : State) (a0 : Array Value) (hw : ∀ d ∈ tables_1, d.before a0 Z = true) (ws : List Jvm.Cond) (a1 : Addr) (p2 : Int32) (a3 : Addr) (kc4 : ClassId) (a5 : Addr) (kc6 : ClassId) (a7 : Addr) (h0 : Heap) (n0 : Nat) (Z0 : n0 ≤ h0.size) (F_a1_indices : Fld Z h0 a1 "com/example/hubclear/hubclear/clearing/SparseVector" "indices" "[I" (.ref a3)) (F_a1_size : Fld Z h0 a1 "com/example/hubclear/hubclear/clearing/SparseVector" "size" "I" (.int (1 : Int32))) (V_a3 : Arv Z h0 a3 kc4 .int (1 : Int32) [(.int p2)] (.int (0 : Int32))) (F_a1_values : Fld Z h0 a1 "com/example/hubclear/hubclear/clearing/SparseVector" "values" "[Lcom/example/hubclear/hubclear/Rational;" (.ref a5)) (V_a5 : Arv Z h0 a5 kc6 (.object "com/example/hubclear/hubclear/Rational") (1 : Int32) [(.ref a7)] .null) :
    MetFree l (⟨"com/example/hubclear/hubclear/clearing/SparseVector", "get", "(I)Lcom/example/hubclear/hubclear/Rational;"⟩ : MethodName) (head1 (Jvm.Cond.code (⟨"com/example/hubclear/hubclear/clearing/SparseVector", "get", "(I)Lcom/example/hubclear/hubclear/Rational;"⟩ : MethodName) prog_51_method_6_code 3 (some (.object "com/example/hubclear/hubclear/Rational")) :: ws) ({ frames := 2, cells := 0, slots := 0, locals := 34 } : Room)) (fun a U => a = #[(.ref a1), (.int p2)] ∧ Z.Warmed39 U.vm ∧ U.heap = h0) (fun _ _ _ _ _ => True) (fun _ U o U' => ∃ v L, o = .returned v ∧ Q9_11 Z a1 p2 a3 kc4 a5 kc6 a7 h0 n0 v U'.heap L ∧ FrameEnd U o U' L ({ frames := 2, cells := 0, slots := 0, locals := 34 } : Room).cells ({ frames := 2, cells := 0, slots := 0, locals := 34 } : Room).slots) := by
  refine MetFree.of_bodySF (plainFor_of_name pn_com_example_hubclear_hubclear_clearing_SparseVector) hisR ?_
  intro p e s m args below meth c s₁ Bd hml0 hP hK
  obtain ⟨rfl, hZ, hh⟩ := hP
  have hx := Bd.exec
  have hby := Bd.bytes
  have hml : c.maxLocals = 3 := hml0
  have hown : s.vm.findClass "com/example/hubclear/hubclear/clearing/SparseVector" = some m.cls := findClass_of_methodNamed Bd.named
  have hnm := (name_of_methodNamed Bd.named Bd.method).1
  have X0 : Stand p l e ({ frames := 2, cells := 0, slots := 0, locals := 34 } : Room) s m #[(.ref a1), (.int p2)] below meth c s₁ [] 0 0 := Stand.of_body Bd
  have e0 : s₁.heap = h0 := by rw [← hh, Bd.state]; rfl
  have N0 := Fr.nil n0
  have pre0 : ∀ t, Steps p.tables e below (s₁.setTop (mkF m 0 #[.val (.ref a1), .val (.int p2), .unset] [])) t → Steps p.tables e below (s₁.setTop (entryFrame m #[(.ref a1), (.int p2)] 3)) t := fun t k => castTop (ef9_11 m a1 p2) k
  obtain ⟨T1, X1, e1, st1⟩ := getF X0 hx hZ hown (host := "") (Or.inl (own_w19 hw)) Via.refl e0 F_a1_indices (g := (mkF m 1 #[.val (.ref a1), .val (.int p2), .unset] [(.ref a1)])) rfl rfl (hb hby d9_1)
  obtain ⟨T2, X2, e2, st2⟩ := getF X1 hx hZ hown (host := "") (Or.inl (own_w23 hw)) Via.refl e1 F_a1_size (g := (mkF m 6 #[.val (.ref a1), .val (.int p2), .unset] [(.ref a1), (.int (0 : Int32)), (.ref a3)])) rfl rfl (hb hby d9_6)
  obtain ⟨_, _, ⟨T3, L3, k3, n3⟩, -, X3, ⟨Lc3, hQ3, l3, y3, z3⟩, st3⟩ := Jvm.LawKit.callS X2 hx (y := (⟨"java/util/Arrays", "binarySearch", "([IIII)I"⟩ : MethodName)) hown (mvT hZ (own_w62 hw)) (mvT hZ (own_w63 hw)) (mvT hZ (own_w64 hw)) (mvT hZ (own_w65 hw)) (by decide) (backOf (W := 0) (rm10_10 l Z a0 hw [] a3 p2 kc4 h0 n0 Z0 V_a3) hZ (own_w65 hw) (own_w64 hw) (by decide) (by decide)) (g := (mkF m 10 #[.val (.ref a1), .val (.int p2), .unset] [(.int p2), (.int (1 : Int32)), (.int (0 : Int32)), (.ref a3)])) rfl (by rw [hml]; rfl) (argsL := [(.ref a3), (.int (0 : Int32)), (.int (1 : Int32)), (.int p2)]) (rest := []) (lenOf pd___IIII_I rfl) rfl (by show 2 * 0 + _ ≤ _; exact Nat.le_of_eq rfl) (hb hby d9_10) (fun _ _ => ⟨rfl, e2, (by decide : 0 + 0 ≤ _), (by decide : 0 + 0 ≤ _)⟩)
  dsimp only [Pt.U, Pt.locs, Pt.cells, Pt.slots] at X3 l3 y3 z3 st3 hQ3
  subst l3 y3 z3
  obtain ⟨rfl, N3q, e3⟩ := hQ3
  have N3 := Fr.app N0 N3q
  obtain ⟨T4, X4, e4, st4⟩ := getF X3 hx hZ hown (host := "") (Or.inl (own_w21 hw)) Via.refl e3 F_a1_values (g := (mkF m 25 #[.val (.ref a1), .val (.int p2), .val (.int (0 : Int32))] [(.ref a1)])) rfl rfl (hb hby d9_25)
  obtain ⟨cl5, Ar5, qk5, Sz5, Ng5, Ha5, Gf5⟩ := id V_a5
  have hin5 : ¬ ((0 : Int32) < 0 ∨ cl5.slots.size ≤ ((0 : Int32)).toNatClampNeg) := inb_of Sz5 ⟨by decide, by decide⟩
  have hat5 : cl5.slots[((0 : Int32)).toNatClampNeg]? = some (.ref a7) := Has.at Ha5 hin5 rfl
  obtain ⟨fs, hr, hrun, hended, hW, hsame⟩ := X4.leave (v := some (.ref a7)) (fun h => by rw [Bd.returns] at h; cases h)
  refine ⟨_, _, pre0 _ ?_, hrun, hended, _, _, rfl, ?_, ⟨_, rfl⟩, hW, hsame.mono (by decide) (by decide)⟩
  · show Steps p.tables e below (s₁.setTop (mkF m 0 #[.val (.ref a1), .val (.int p2), .unset] [])) _
    refine XS.aloadN X0.here hx rfl (hb hby d9_0) rfl rfl ?_
    show Steps p.tables e below (s₁.setTop (mkF m 1 #[.val (.ref a1), .val (.int p2), .unset] [(.ref a1)])) _
    refine st1 _ ?_
    show Steps p.tables e below (T1.setTop (mkF m 4 #[.val (.ref a1), .val (.int p2), .unset] [(.ref a3)])) _
    refine XS.iconst X1.here hx rfl (hb hby d9_4) ?_
    show Steps p.tables e below (T1.setTop (mkF m 5 #[.val (.ref a1), .val (.int p2), .unset] [(.int (0 : Int32)), (.ref a3)])) _
    refine XS.aloadN X1.here hx rfl (hb hby d9_5) rfl rfl ?_
    show Steps p.tables e below (T1.setTop (mkF m 6 #[.val (.ref a1), .val (.int p2), .unset] [(.ref a1), (.int (0 : Int32)), (.ref a3)])) _
    refine st2 _ ?_
    show Steps p.tables e below (T2.setTop (mkF m 9 #[.val (.ref a1), .val (.int p2), .unset] [(.int (1 : Int32)), (.int (0 : Int32)), (.ref a3)])) _
    refine XS.iloadN X2.here hx rfl (hb hby d9_9) rfl ?_
    show Steps p.tables e below (T2.setTop (mkF m 10 #[.val (.ref a1), .val (.int p2), .unset] [(.int p2), (.int (1 : Int32)), (.int (0 : Int32)), (.ref a3)])) _
    refine st3 _ ?_
    show Steps p.tables e below (T3.setTop (mkF m 13 #[.val (.ref a1), .val (.int p2), .unset] [(.int (0 : Int32))])) _
    refine XS.istoreN X3.here hx rfl (hb hby d9_13) rfl (l' := #[.val (.ref a1), .val (.int p2), .val (.int (0 : Int32))]) rfl ?_
    show Steps p.tables e below (T3.setTop (mkF m 14 #[.val (.ref a1), .val (.int p2), .val (.int (0 : Int32))] [])) _
    refine XS.iloadN X3.here hx rfl (hb hby d9_14) rfl ?_
    show Steps p.tables e below (T3.setTop (mkF m 15 #[.val (.ref a1), .val (.int p2), .val (.int (0 : Int32))] [(.int (0 : Int32))])) _
    refine XS.ifYes X3.here hx rfl (pc0 := 15) (pc' := 24) rfl (hb hby d9_15) rfl ((if0 _ _).trans (flt (by decide : ¬ ((0 : Int32) < (0 : Int32)))).2.1) (by decide) (by decide) ?_
    show Steps p.tables e below (T3.setTop (mkF m 24 #[.val (.ref a1), .val (.int p2), .val (.int (0 : Int32))] [])) _
    refine XS.aloadN X3.here hx rfl (hb hby d9_24) rfl rfl ?_
    show Steps p.tables e below (T3.setTop (mkF m 25 #[.val (.ref a1), .val (.int p2), .val (.int (0 : Int32))] [(.ref a1)])) _
    refine st4 _ ?_
    show Steps p.tables e below (T4.setTop (mkF m 28 #[.val (.ref a1), .val (.int p2), .val (.int (0 : Int32))] [(.ref a5)])) _
    refine XS.iloadN X4.here hx rfl (hb hby d9_28) rfl ?_
    show Steps p.tables e below (T4.setTop (mkF m 29 #[.val (.ref a1), .val (.int p2), .val (.int (0 : Int32))] [(.int (0 : Int32)), (.ref a5)])) _
    refine X4.aaload hx (j := (0 : Int32)) (v := (.ref a7)) (by rw [e4]; exact Ar5.1) (State.isArrayOf_alike hZ.alike Ar5.2.1) rfl Ar5.2.2 hin5 hat5 (g := (mkF m 29 #[.val (.ref a1), .val (.int p2), .val (.int (0 : Int32))] [(.int (0 : Int32)), (.ref a5)])) rfl rfl (hb hby d9_29) _ ?_
    show Steps p.tables e below (T4.setTop (mkF m 30 #[.val (.ref a1), .val (.int p2), .val (.int (0 : Int32))] [(.ref a7)])) _
    exact retOut X4 hx Bd.returns rfl (Or.inr (Or.inr (Or.inr (Or.inr ⟨rfl, rfl, rfl⟩)))) (hb hby d9_30) hr
  · show Q9_11 Z a1 p2 a3 kc4 a5 kc6 a7 h0 n0 _ T4.heap _
    rw [e4]
    exact ⟨rfl, N3, rfl⟩
theorem ef12_12 (m : MethodId) (a1 : Addr) (p2 : Int32) : entryFrame m #[(.ref a1), (.int (0 : Int32)), (.int (1 : Int32)), (.int p2)] 8 = mkF m 0 #[.val (.ref a1), .val (.int (0 : Int32)), .val (.int (1 : Int32)), .val (.int p2), .unset, .unset, .unset, .unset] [] := by first | (simp [entryFrame, mkF, argsToLocals, Value.category]; done) | rfl
def Q12_12 (Z : State) (a1 : Addr) (p2 : Int32) (kc3 : ClassId) (p4 : Int32) (h0 : Heap) (n0 : Nat) (v : Option Value) (h : Heap) (L : List Loc) : Prop := v = some (.int (-2 : Int32)) ∧ Fr n0 L ∧ h = h0
set_option maxRecDepth 65536 in
set_option maxHeartbeats 40000000 in
theorem rm12_12 (l : Launch) (Z : State) (a0 : Array Value) (hw : ∀ d ∈ tables_1, d.before a0 Z = true) (ws : List Jvm.Cond) (a1 : Addr) (p2 : Int32) (kc3 : ClassId) (p4 : Int32) (h0 : Heap) (n0 : Nat) (Z0 : n0 ≤ h0.size) (V_a1 : Arv Z h0 a1 kc3 .int (1 : Int32) [(.int p4)] (.int (0 : Int32))) (hc1 : p4 < p2) :
    MetFree l (⟨"java/util/Arrays", "binarySearch0", "([IIII)I"⟩ : MethodName) (head1 (Jvm.Cond.code (⟨"java/util/Arrays", "binarySearch0", "([IIII)I"⟩ : MethodName) jdk_65_method_59_code 8 (some .int) :: ws) ({ frames := 0, cells := 0, slots := 0, locals := 0 } : Room)) (fun a U => a = #[(.ref a1), (.int (0 : Int32)), (.int (1 : Int32)), (.int p2)] ∧ Z.Warmed39 U.vm ∧ U.heap = h0) (fun _ _ _ _ _ => True) (fun _ U o U' => ∃ v L, o = .returned v ∧ Q12_12 Z a1 p2 kc3 p4 h0 n0 v U'.heap L ∧ FrameEnd U o U' L ({ frames := 0, cells := 0, slots := 0, locals := 0 } : Room).cells ({ frames := 0, cells := 0, slots := 0, locals := 0 } : Room).slots) := by
  refine MetFree.of_bodySF (plainFor_of_name pn_java_util_Arrays) hisR ?_
  intro p e s m args below meth c s₁ Bd hml0 hP hK
  obtain ⟨rfl, hZ, hh⟩ := hP
  have hx := Bd.exec
  have hby := Bd.bytes
  have hml : c.maxLocals = 8 := hml0
  have hown : s.vm.findClass "java/util/Arrays" = some m.cls := findClass_of_methodNamed Bd.named
  have hnm := (name_of_methodNamed Bd.named Bd.method).1
  have X0 : Stand p l e ({ frames := 0, cells := 0, slots := 0, locals := 0 } : Room) s m #[(.ref a1), (.int (0 : Int32)), (.int (1 : Int32)), (.int p2)] below meth c s₁ [] 0 0 := Stand.of_body Bd
  have e0 : s₁.heap = h0 := by rw [← hh, Bd.state]; rfl
  have N0 := Fr.nil n0
  have pre0 : ∀ t, Steps p.tables e below (s₁.setTop (mkF m 0 #[.val (.ref a1), .val (.int (0 : Int32)), .val (.int (1 : Int32)), .val (.int p2), .unset, .unset, .unset, .unset] [])) t → Steps p.tables e below (s₁.setTop (entryFrame m #[(.ref a1), (.int (0 : Int32)), (.int (1 : Int32)), (.int p2)] 8)) t := fun t k => castTop (ef12_12 m a1 p2) k
  obtain ⟨cl1, Ar1, qk1, Sz1, Ng1, Ha1, Gf1⟩ := id V_a1
  have hin1 : ¬ ((0 : Int32) < 0 ∨ cl1.slots.size ≤ ((0 : Int32)).toNatClampNeg) := inb_of Sz1 ⟨by decide, by decide⟩
  have hat1 : cl1.slots[((0 : Int32)).toNatClampNeg]? = some (.int p4) := Has.at Ha1 hin1 rfl
  obtain ⟨fs, hr, hrun, hended, hW, hsame⟩ := X0.leave (v := some (.int (-2 : Int32))) (fun h => by rw [Bd.returns] at h; cases h)
  refine ⟨_, _, pre0 _ ?_, hrun, hended, _, _, rfl, ?_, ⟨_, rfl⟩, hW, hsame.mono (by decide) (by decide)⟩
  · show Steps p.tables e below (s₁.setTop (mkF m 0 #[.val (.ref a1), .val (.int (0 : Int32)), .val (.int (1 : Int32)), .val (.int p2), .unset, .unset, .unset, .unset] [])) _
    refine XS.iloadN X0.here hx rfl (hb hby d12_0) rfl ?_
    show Steps p.tables e below (s₁.setTop (mkF m 1 #[.val (.ref a1), .val (.int (0 : Int32)), .val (.int (1 : Int32)), .val (.int p2), .unset, .unset, .unset, .unset] [(.int (0 : Int32))])) _
    refine XS.istore X0.here hx rfl (hb hby d12_1) rfl (l' := #[.val (.ref a1), .val (.int (0 : Int32)), .val (.int (1 : Int32)), .val (.int p2), .val (.int (0 : Int32)), .unset, .unset, .unset]) rfl ?_
    show Steps p.tables e below (s₁.setTop (mkF m 3 #[.val (.ref a1), .val (.int (0 : Int32)), .val (.int (1 : Int32)), .val (.int p2), .val (.int (0 : Int32)), .unset, .unset, .unset] [])) _
    refine XS.iloadN X0.here hx rfl (hb hby d12_3) rfl ?_
    show Steps p.tables e below (s₁.setTop (mkF m 4 #[.val (.ref a1), .val (.int (0 : Int32)), .val (.int (1 : Int32)), .val (.int p2), .val (.int (0 : Int32)), .unset, .unset, .unset] [(.int (1 : Int32))])) _
    refine XS.iconst X0.here hx rfl (hb hby d12_4) ?_
    show Steps p.tables e below (s₁.setTop (mkF m 5 #[.val (.ref a1), .val (.int (0 : Int32)), .val (.int (1 : Int32)), .val (.int p2), .val (.int (0 : Int32)), .unset, .unset, .unset] [(.int (1 : Int32)), (.int (1 : Int32))])) _
    refine XS.isub X0.here hx rfl (hb hby d12_5) rfl ?_
    show Steps p.tables e below (s₁.setTop (mkF m 6 #[.val (.ref a1), .val (.int (0 : Int32)), .val (.int (1 : Int32)), .val (.int p2), .val (.int (0 : Int32)), .unset, .unset, .unset] [(.int ((1 : Int32) - (1 : Int32)))])) _
    rw [(by decide : ((1 : Int32) - (1 : Int32)) = (0 : Int32))]
    show Steps p.tables e below (s₁.setTop (mkF m 6 #[.val (.ref a1), .val (.int (0 : Int32)), .val (.int (1 : Int32)), .val (.int p2), .val (.int (0 : Int32)), .unset, .unset, .unset] [(.int (0 : Int32))])) _
    refine XS.istore X0.here hx rfl (hb hby d12_6) rfl (l' := #[.val (.ref a1), .val (.int (0 : Int32)), .val (.int (1 : Int32)), .val (.int p2), .val (.int (0 : Int32)), .val (.int (0 : Int32)), .unset, .unset]) rfl ?_
    show Steps p.tables e below (s₁.setTop (mkF m 8 #[.val (.ref a1), .val (.int (0 : Int32)), .val (.int (1 : Int32)), .val (.int p2), .val (.int (0 : Int32)), .val (.int (0 : Int32)), .unset, .unset] [])) _
    refine XS.iload X0.here hx rfl (hb hby d12_8) rfl ?_
    show Steps p.tables e below (s₁.setTop (mkF m 10 #[.val (.ref a1), .val (.int (0 : Int32)), .val (.int (1 : Int32)), .val (.int p2), .val (.int (0 : Int32)), .val (.int (0 : Int32)), .unset, .unset] [(.int (0 : Int32))])) _
    refine XS.iload X0.here hx rfl (hb hby d12_10) rfl ?_
    show Steps p.tables e below (s₁.setTop (mkF m 12 #[.val (.ref a1), .val (.int (0 : Int32)), .val (.int (1 : Int32)), .val (.int p2), .val (.int (0 : Int32)), .val (.int (0 : Int32)), .unset, .unset] [(.int (0 : Int32)), (.int (0 : Int32))])) _
    refine XS.icmpNo X0.here hx rfl (hb hby d12_12) rfl (flt (by decide : ¬ ((0 : Int32) < (0 : Int32)))).2.2.1 ?_
    show Steps p.tables e below (s₁.setTop (mkF m 15 #[.val (.ref a1), .val (.int (0 : Int32)), .val (.int (1 : Int32)), .val (.int p2), .val (.int (0 : Int32)), .val (.int (0 : Int32)), .unset, .unset] [])) _
    refine XS.iload X0.here hx rfl (hb hby d12_15) rfl ?_
    show Steps p.tables e below (s₁.setTop (mkF m 17 #[.val (.ref a1), .val (.int (0 : Int32)), .val (.int (1 : Int32)), .val (.int p2), .val (.int (0 : Int32)), .val (.int (0 : Int32)), .unset, .unset] [(.int (0 : Int32))])) _
    refine XS.iload X0.here hx rfl (hb hby d12_17) rfl ?_
    show Steps p.tables e below (s₁.setTop (mkF m 19 #[.val (.ref a1), .val (.int (0 : Int32)), .val (.int (1 : Int32)), .val (.int p2), .val (.int (0 : Int32)), .val (.int (0 : Int32)), .unset, .unset] [(.int (0 : Int32)), (.int (0 : Int32))])) _
    refine XS.iadd X0.here hx rfl (hb hby d12_19) rfl ?_
    show Steps p.tables e below (s₁.setTop (mkF m 20 #[.val (.ref a1), .val (.int (0 : Int32)), .val (.int (1 : Int32)), .val (.int p2), .val (.int (0 : Int32)), .val (.int (0 : Int32)), .unset, .unset] [(.int ((0 : Int32) + (0 : Int32)))])) _
    rw [(by decide : ((0 : Int32) + (0 : Int32)) = (0 : Int32))]
    show Steps p.tables e below (s₁.setTop (mkF m 20 #[.val (.ref a1), .val (.int (0 : Int32)), .val (.int (1 : Int32)), .val (.int p2), .val (.int (0 : Int32)), .val (.int (0 : Int32)), .unset, .unset] [(.int (0 : Int32))])) _
    refine XS.iconst X0.here hx rfl (hb hby d12_20) ?_
    show Steps p.tables e below (s₁.setTop (mkF m 21 #[.val (.ref a1), .val (.int (0 : Int32)), .val (.int (1 : Int32)), .val (.int p2), .val (.int (0 : Int32)), .val (.int (0 : Int32)), .unset, .unset] [(.int (1 : Int32)), (.int (0 : Int32))])) _
    refine XS.iushr X0.here hx rfl (hb hby d12_21) rfl ?_
    show Steps p.tables e below (s₁.setTop (mkF m 22 #[.val (.ref a1), .val (.int (0 : Int32)), .val (.int (1 : Int32)), .val (.int p2), .val (.int (0 : Int32)), .val (.int (0 : Int32)), .unset, .unset] [(.int (((0 : Int32).toUInt32 >>> ((1 : Int32) &&& 31).toUInt32).toInt32))])) _
    rw [(by decide : (((0 : Int32).toUInt32 >>> ((1 : Int32) &&& 31).toUInt32).toInt32) = (0 : Int32))]
    show Steps p.tables e below (s₁.setTop (mkF m 22 #[.val (.ref a1), .val (.int (0 : Int32)), .val (.int (1 : Int32)), .val (.int p2), .val (.int (0 : Int32)), .val (.int (0 : Int32)), .unset, .unset] [(.int (0 : Int32))])) _
    refine XS.istore X0.here hx rfl (hb hby d12_22) rfl (l' := #[.val (.ref a1), .val (.int (0 : Int32)), .val (.int (1 : Int32)), .val (.int p2), .val (.int (0 : Int32)), .val (.int (0 : Int32)), .val (.int (0 : Int32)), .unset]) rfl ?_
    show Steps p.tables e below (s₁.setTop (mkF m 24 #[.val (.ref a1), .val (.int (0 : Int32)), .val (.int (1 : Int32)), .val (.int p2), .val (.int (0 : Int32)), .val (.int (0 : Int32)), .val (.int (0 : Int32)), .unset] [])) _
    refine XS.aloadN X0.here hx rfl (hb hby d12_24) rfl rfl ?_
    show Steps p.tables e below (s₁.setTop (mkF m 25 #[.val (.ref a1), .val (.int (0 : Int32)), .val (.int (1 : Int32)), .val (.int p2), .val (.int (0 : Int32)), .val (.int (0 : Int32)), .val (.int (0 : Int32)), .unset] [(.ref a1)])) _
    refine XS.iload X0.here hx rfl (hb hby d12_25) rfl ?_
    show Steps p.tables e below (s₁.setTop (mkF m 27 #[.val (.ref a1), .val (.int (0 : Int32)), .val (.int (1 : Int32)), .val (.int p2), .val (.int (0 : Int32)), .val (.int (0 : Int32)), .val (.int (0 : Int32)), .unset] [(.int (0 : Int32)), (.ref a1)])) _
    refine X0.iaload hx (j := (0 : Int32)) (v := (.int p4)) (by rw [e0]; exact Ar1.1) (State.isArrayOf_alike hZ.alike Ar1.2.1) Ar1.2.2 hin1 hat1 (g := (mkF m 27 #[.val (.ref a1), .val (.int (0 : Int32)), .val (.int (1 : Int32)), .val (.int p2), .val (.int (0 : Int32)), .val (.int (0 : Int32)), .val (.int (0 : Int32)), .unset] [(.int (0 : Int32)), (.ref a1)])) rfl rfl (hb hby d12_27) _ ?_
    show Steps p.tables e below (s₁.setTop (mkF m 28 #[.val (.ref a1), .val (.int (0 : Int32)), .val (.int (1 : Int32)), .val (.int p2), .val (.int (0 : Int32)), .val (.int (0 : Int32)), .val (.int (0 : Int32)), .unset] [(.int p4)])) _
    refine XS.istore X0.here hx rfl (hb hby d12_28) rfl (l' := #[.val (.ref a1), .val (.int (0 : Int32)), .val (.int (1 : Int32)), .val (.int p2), .val (.int (0 : Int32)), .val (.int (0 : Int32)), .val (.int (0 : Int32)), .val (.int p4)]) rfl ?_
    show Steps p.tables e below (s₁.setTop (mkF m 30 #[.val (.ref a1), .val (.int (0 : Int32)), .val (.int (1 : Int32)), .val (.int p2), .val (.int (0 : Int32)), .val (.int (0 : Int32)), .val (.int (0 : Int32)), .val (.int p4)] [])) _
    refine XS.iload X0.here hx rfl (hb hby d12_30) rfl ?_
    show Steps p.tables e below (s₁.setTop (mkF m 32 #[.val (.ref a1), .val (.int (0 : Int32)), .val (.int (1 : Int32)), .val (.int p2), .val (.int (0 : Int32)), .val (.int (0 : Int32)), .val (.int (0 : Int32)), .val (.int p4)] [(.int p4)])) _
    refine XS.iloadN X0.here hx rfl (hb hby d12_32) rfl ?_
    show Steps p.tables e below (s₁.setTop (mkF m 33 #[.val (.ref a1), .val (.int (0 : Int32)), .val (.int (1 : Int32)), .val (.int p2), .val (.int (0 : Int32)), .val (.int (0 : Int32)), .val (.int (0 : Int32)), .val (.int p4)] [(.int p2), (.int p4)])) _
    refine XS.icmpNo X0.here hx rfl (hb hby d12_33) rfl (tlt hc1).2.1 ?_
    show Steps p.tables e below (s₁.setTop (mkF m 36 #[.val (.ref a1), .val (.int (0 : Int32)), .val (.int (1 : Int32)), .val (.int p2), .val (.int (0 : Int32)), .val (.int (0 : Int32)), .val (.int (0 : Int32)), .val (.int p4)] [])) _
    refine XS.iload X0.here hx rfl (hb hby d12_36) rfl ?_
    show Steps p.tables e below (s₁.setTop (mkF m 38 #[.val (.ref a1), .val (.int (0 : Int32)), .val (.int (1 : Int32)), .val (.int p2), .val (.int (0 : Int32)), .val (.int (0 : Int32)), .val (.int (0 : Int32)), .val (.int p4)] [(.int (0 : Int32))])) _
    refine XS.iconst X0.here hx rfl (hb hby d12_38) ?_
    show Steps p.tables e below (s₁.setTop (mkF m 39 #[.val (.ref a1), .val (.int (0 : Int32)), .val (.int (1 : Int32)), .val (.int p2), .val (.int (0 : Int32)), .val (.int (0 : Int32)), .val (.int (0 : Int32)), .val (.int p4)] [(.int (1 : Int32)), (.int (0 : Int32))])) _
    refine XS.iadd X0.here hx rfl (hb hby d12_39) rfl ?_
    show Steps p.tables e below (s₁.setTop (mkF m 40 #[.val (.ref a1), .val (.int (0 : Int32)), .val (.int (1 : Int32)), .val (.int p2), .val (.int (0 : Int32)), .val (.int (0 : Int32)), .val (.int (0 : Int32)), .val (.int p4)] [(.int ((0 : Int32) + (1 : Int32)))])) _
    rw [(by decide : ((0 : Int32) + (1 : Int32)) = (1 : Int32))]
    show Steps p.tables e below (s₁.setTop (mkF m 40 #[.val (.ref a1), .val (.int (0 : Int32)), .val (.int (1 : Int32)), .val (.int p2), .val (.int (0 : Int32)), .val (.int (0 : Int32)), .val (.int (0 : Int32)), .val (.int p4)] [(.int (1 : Int32))])) _
    refine XS.istore X0.here hx rfl (hb hby d12_40) rfl (l' := #[.val (.ref a1), .val (.int (0 : Int32)), .val (.int (1 : Int32)), .val (.int p2), .val (.int (1 : Int32)), .val (.int (0 : Int32)), .val (.int (0 : Int32)), .val (.int p4)]) rfl ?_
    show Steps p.tables e below (s₁.setTop (mkF m 42 #[.val (.ref a1), .val (.int (0 : Int32)), .val (.int (1 : Int32)), .val (.int p2), .val (.int (1 : Int32)), .val (.int (0 : Int32)), .val (.int (0 : Int32)), .val (.int p4)] [])) _
    refine XS.goto X0.here hx rfl (pc0 := 42) (pc' := 63) rfl (hb hby d12_42) (by decide) (by decide) ?_
    show Steps p.tables e below (s₁.setTop (mkF m 63 #[.val (.ref a1), .val (.int (0 : Int32)), .val (.int (1 : Int32)), .val (.int p2), .val (.int (1 : Int32)), .val (.int (0 : Int32)), .val (.int (0 : Int32)), .val (.int p4)] [])) _
    refine XS.goto X0.here hx rfl (pc0 := 63) (pc' := 8) rfl (hb hby d12_63) (by decide) (by decide) ?_
    show Steps p.tables e below (s₁.setTop (mkF m 8 #[.val (.ref a1), .val (.int (0 : Int32)), .val (.int (1 : Int32)), .val (.int p2), .val (.int (1 : Int32)), .val (.int (0 : Int32)), .val (.int (0 : Int32)), .val (.int p4)] [])) _
    refine XS.iload X0.here hx rfl (hb hby d12_8) rfl ?_
    show Steps p.tables e below (s₁.setTop (mkF m 10 #[.val (.ref a1), .val (.int (0 : Int32)), .val (.int (1 : Int32)), .val (.int p2), .val (.int (1 : Int32)), .val (.int (0 : Int32)), .val (.int (0 : Int32)), .val (.int p4)] [(.int (1 : Int32))])) _
    refine XS.iload X0.here hx rfl (hb hby d12_10) rfl ?_
    show Steps p.tables e below (s₁.setTop (mkF m 12 #[.val (.ref a1), .val (.int (0 : Int32)), .val (.int (1 : Int32)), .val (.int p2), .val (.int (1 : Int32)), .val (.int (0 : Int32)), .val (.int (0 : Int32)), .val (.int p4)] [(.int (0 : Int32)), (.int (1 : Int32))])) _
    refine XS.icmpYes X0.here hx rfl (pc0 := 12) (pc' := 66) rfl (hb hby d12_12) rfl (tlt (by decide : (0 : Int32) < (1 : Int32))).2.2.1 (by decide) (by decide) ?_
    show Steps p.tables e below (s₁.setTop (mkF m 66 #[.val (.ref a1), .val (.int (0 : Int32)), .val (.int (1 : Int32)), .val (.int p2), .val (.int (1 : Int32)), .val (.int (0 : Int32)), .val (.int (0 : Int32)), .val (.int p4)] [])) _
    refine XS.iload X0.here hx rfl (hb hby d12_66) rfl ?_
    show Steps p.tables e below (s₁.setTop (mkF m 68 #[.val (.ref a1), .val (.int (0 : Int32)), .val (.int (1 : Int32)), .val (.int p2), .val (.int (1 : Int32)), .val (.int (0 : Int32)), .val (.int (0 : Int32)), .val (.int p4)] [(.int (1 : Int32))])) _
    refine XS.iconst X0.here hx rfl (hb hby d12_68) ?_
    show Steps p.tables e below (s₁.setTop (mkF m 69 #[.val (.ref a1), .val (.int (0 : Int32)), .val (.int (1 : Int32)), .val (.int p2), .val (.int (1 : Int32)), .val (.int (0 : Int32)), .val (.int (0 : Int32)), .val (.int p4)] [(.int (1 : Int32)), (.int (1 : Int32))])) _
    refine XS.iadd X0.here hx rfl (hb hby d12_69) rfl ?_
    show Steps p.tables e below (s₁.setTop (mkF m 70 #[.val (.ref a1), .val (.int (0 : Int32)), .val (.int (1 : Int32)), .val (.int p2), .val (.int (1 : Int32)), .val (.int (0 : Int32)), .val (.int (0 : Int32)), .val (.int p4)] [(.int ((1 : Int32) + (1 : Int32)))])) _
    rw [(by decide : ((1 : Int32) + (1 : Int32)) = (2 : Int32))]
    show Steps p.tables e below (s₁.setTop (mkF m 70 #[.val (.ref a1), .val (.int (0 : Int32)), .val (.int (1 : Int32)), .val (.int p2), .val (.int (1 : Int32)), .val (.int (0 : Int32)), .val (.int (0 : Int32)), .val (.int p4)] [(.int (2 : Int32))])) _
    refine XS.ineg X0.here hx rfl (hb hby d12_70) rfl ?_
    show Steps p.tables e below (s₁.setTop (mkF m 71 #[.val (.ref a1), .val (.int (0 : Int32)), .val (.int (1 : Int32)), .val (.int p2), .val (.int (1 : Int32)), .val (.int (0 : Int32)), .val (.int (0 : Int32)), .val (.int p4)] [(.int (-(2 : Int32)))])) _
    rw [(by decide : (-(2 : Int32)) = (-2 : Int32))]
    show Steps p.tables e below (s₁.setTop (mkF m 71 #[.val (.ref a1), .val (.int (0 : Int32)), .val (.int (1 : Int32)), .val (.int p2), .val (.int (1 : Int32)), .val (.int (0 : Int32)), .val (.int (0 : Int32)), .val (.int p4)] [(.int (-2 : Int32))])) _
    exact retI X0 hx Bd.returns (hb hby d12_71) hr
  · show Q12_12 Z a1 p2 kc3 p4 h0 n0 _ s₁.heap _
    rw [e0]
    exact ⟨rfl, N0, rfl⟩
theorem ef12_13 (m : MethodId) (a1 : Addr) (p2 : Int32) : entryFrame m #[(.ref a1), (.int (0 : Int32)), (.int (1 : Int32)), (.int p2)] 8 = mkF m 0 #[.val (.ref a1), .val (.int (0 : Int32)), .val (.int (1 : Int32)), .val (.int p2), .unset, .unset, .unset, .unset] [] := by first | (simp [entryFrame, mkF, argsToLocals, Value.category]; done) | rfl
def Q12_13 (Z : State) (a1 : Addr) (p2 : Int32) (kc3 : ClassId) (p4 : Int32) (h0 : Heap) (n0 : Nat) (v : Option Value) (h : Heap) (L : List Loc) : Prop := v = some (.int (-1 : Int32)) ∧ Fr n0 L ∧ h = h0
set_option maxRecDepth 65536 in
set_option maxHeartbeats 40000000 in
theorem rm12_13 (l : Launch) (Z : State) (a0 : Array Value) (hw : ∀ d ∈ tables_1, d.before a0 Z = true) (ws : List Jvm.Cond) (a1 : Addr) (p2 : Int32) (kc3 : ClassId) (p4 : Int32) (h0 : Heap) (n0 : Nat) (Z0 : n0 ≤ h0.size) (V_a1 : Arv Z h0 a1 kc3 .int (1 : Int32) [(.int p4)] (.int (0 : Int32))) (hc1 : ¬ (p4 < p2)) (hc2 : p2 < p4) :
    MetFree l (⟨"java/util/Arrays", "binarySearch0", "([IIII)I"⟩ : MethodName) (head1 (Jvm.Cond.code (⟨"java/util/Arrays", "binarySearch0", "([IIII)I"⟩ : MethodName) jdk_65_method_59_code 8 (some .int) :: ws) ({ frames := 0, cells := 0, slots := 0, locals := 0 } : Room)) (fun a U => a = #[(.ref a1), (.int (0 : Int32)), (.int (1 : Int32)), (.int p2)] ∧ Z.Warmed39 U.vm ∧ U.heap = h0) (fun _ _ _ _ _ => True) (fun _ U o U' => ∃ v L, o = .returned v ∧ Q12_13 Z a1 p2 kc3 p4 h0 n0 v U'.heap L ∧ FrameEnd U o U' L ({ frames := 0, cells := 0, slots := 0, locals := 0 } : Room).cells ({ frames := 0, cells := 0, slots := 0, locals := 0 } : Room).slots) := by
  refine MetFree.of_bodySF (plainFor_of_name pn_java_util_Arrays) hisR ?_
  intro p e s m args below meth c s₁ Bd hml0 hP hK
  obtain ⟨rfl, hZ, hh⟩ := hP
  have hx := Bd.exec
  have hby := Bd.bytes
  have hml : c.maxLocals = 8 := hml0
  have hown : s.vm.findClass "java/util/Arrays" = some m.cls := findClass_of_methodNamed Bd.named
  have hnm := (name_of_methodNamed Bd.named Bd.method).1
  have X0 : Stand p l e ({ frames := 0, cells := 0, slots := 0, locals := 0 } : Room) s m #[(.ref a1), (.int (0 : Int32)), (.int (1 : Int32)), (.int p2)] below meth c s₁ [] 0 0 := Stand.of_body Bd
  have e0 : s₁.heap = h0 := by rw [← hh, Bd.state]; rfl
  have N0 := Fr.nil n0
  have pre0 : ∀ t, Steps p.tables e below (s₁.setTop (mkF m 0 #[.val (.ref a1), .val (.int (0 : Int32)), .val (.int (1 : Int32)), .val (.int p2), .unset, .unset, .unset, .unset] [])) t → Steps p.tables e below (s₁.setTop (entryFrame m #[(.ref a1), (.int (0 : Int32)), (.int (1 : Int32)), (.int p2)] 8)) t := fun t k => castTop (ef12_13 m a1 p2) k
  obtain ⟨cl1, Ar1, qk1, Sz1, Ng1, Ha1, Gf1⟩ := id V_a1
  have hin1 : ¬ ((0 : Int32) < 0 ∨ cl1.slots.size ≤ ((0 : Int32)).toNatClampNeg) := inb_of Sz1 ⟨by decide, by decide⟩
  have hat1 : cl1.slots[((0 : Int32)).toNatClampNeg]? = some (.int p4) := Has.at Ha1 hin1 rfl
  obtain ⟨fs, hr, hrun, hended, hW, hsame⟩ := X0.leave (v := some (.int (-1 : Int32))) (fun h => by rw [Bd.returns] at h; cases h)
  refine ⟨_, _, pre0 _ ?_, hrun, hended, _, _, rfl, ?_, ⟨_, rfl⟩, hW, hsame.mono (by decide) (by decide)⟩
  · show Steps p.tables e below (s₁.setTop (mkF m 0 #[.val (.ref a1), .val (.int (0 : Int32)), .val (.int (1 : Int32)), .val (.int p2), .unset, .unset, .unset, .unset] [])) _
    refine XS.iloadN X0.here hx rfl (hb hby d12_0) rfl ?_
    show Steps p.tables e below (s₁.setTop (mkF m 1 #[.val (.ref a1), .val (.int (0 : Int32)), .val (.int (1 : Int32)), .val (.int p2), .unset, .unset, .unset, .unset] [(.int (0 : Int32))])) _
    refine XS.istore X0.here hx rfl (hb hby d12_1) rfl (l' := #[.val (.ref a1), .val (.int (0 : Int32)), .val (.int (1 : Int32)), .val (.int p2), .val (.int (0 : Int32)), .unset, .unset, .unset]) rfl ?_
    show Steps p.tables e below (s₁.setTop (mkF m 3 #[.val (.ref a1), .val (.int (0 : Int32)), .val (.int (1 : Int32)), .val (.int p2), .val (.int (0 : Int32)), .unset, .unset, .unset] [])) _
    refine XS.iloadN X0.here hx rfl (hb hby d12_3) rfl ?_
    show Steps p.tables e below (s₁.setTop (mkF m 4 #[.val (.ref a1), .val (.int (0 : Int32)), .val (.int (1 : Int32)), .val (.int p2), .val (.int (0 : Int32)), .unset, .unset, .unset] [(.int (1 : Int32))])) _
    refine XS.iconst X0.here hx rfl (hb hby d12_4) ?_
    show Steps p.tables e below (s₁.setTop (mkF m 5 #[.val (.ref a1), .val (.int (0 : Int32)), .val (.int (1 : Int32)), .val (.int p2), .val (.int (0 : Int32)), .unset, .unset, .unset] [(.int (1 : Int32)), (.int (1 : Int32))])) _
    refine XS.isub X0.here hx rfl (hb hby d12_5) rfl ?_
    show Steps p.tables e below (s₁.setTop (mkF m 6 #[.val (.ref a1), .val (.int (0 : Int32)), .val (.int (1 : Int32)), .val (.int p2), .val (.int (0 : Int32)), .unset, .unset, .unset] [(.int ((1 : Int32) - (1 : Int32)))])) _
    rw [(by decide : ((1 : Int32) - (1 : Int32)) = (0 : Int32))]
    show Steps p.tables e below (s₁.setTop (mkF m 6 #[.val (.ref a1), .val (.int (0 : Int32)), .val (.int (1 : Int32)), .val (.int p2), .val (.int (0 : Int32)), .unset, .unset, .unset] [(.int (0 : Int32))])) _
    refine XS.istore X0.here hx rfl (hb hby d12_6) rfl (l' := #[.val (.ref a1), .val (.int (0 : Int32)), .val (.int (1 : Int32)), .val (.int p2), .val (.int (0 : Int32)), .val (.int (0 : Int32)), .unset, .unset]) rfl ?_
    show Steps p.tables e below (s₁.setTop (mkF m 8 #[.val (.ref a1), .val (.int (0 : Int32)), .val (.int (1 : Int32)), .val (.int p2), .val (.int (0 : Int32)), .val (.int (0 : Int32)), .unset, .unset] [])) _
    refine XS.iload X0.here hx rfl (hb hby d12_8) rfl ?_
    show Steps p.tables e below (s₁.setTop (mkF m 10 #[.val (.ref a1), .val (.int (0 : Int32)), .val (.int (1 : Int32)), .val (.int p2), .val (.int (0 : Int32)), .val (.int (0 : Int32)), .unset, .unset] [(.int (0 : Int32))])) _
    refine XS.iload X0.here hx rfl (hb hby d12_10) rfl ?_
    show Steps p.tables e below (s₁.setTop (mkF m 12 #[.val (.ref a1), .val (.int (0 : Int32)), .val (.int (1 : Int32)), .val (.int p2), .val (.int (0 : Int32)), .val (.int (0 : Int32)), .unset, .unset] [(.int (0 : Int32)), (.int (0 : Int32))])) _
    refine XS.icmpNo X0.here hx rfl (hb hby d12_12) rfl (flt (by decide : ¬ ((0 : Int32) < (0 : Int32)))).2.2.1 ?_
    show Steps p.tables e below (s₁.setTop (mkF m 15 #[.val (.ref a1), .val (.int (0 : Int32)), .val (.int (1 : Int32)), .val (.int p2), .val (.int (0 : Int32)), .val (.int (0 : Int32)), .unset, .unset] [])) _
    refine XS.iload X0.here hx rfl (hb hby d12_15) rfl ?_
    show Steps p.tables e below (s₁.setTop (mkF m 17 #[.val (.ref a1), .val (.int (0 : Int32)), .val (.int (1 : Int32)), .val (.int p2), .val (.int (0 : Int32)), .val (.int (0 : Int32)), .unset, .unset] [(.int (0 : Int32))])) _
    refine XS.iload X0.here hx rfl (hb hby d12_17) rfl ?_
    show Steps p.tables e below (s₁.setTop (mkF m 19 #[.val (.ref a1), .val (.int (0 : Int32)), .val (.int (1 : Int32)), .val (.int p2), .val (.int (0 : Int32)), .val (.int (0 : Int32)), .unset, .unset] [(.int (0 : Int32)), (.int (0 : Int32))])) _
    refine XS.iadd X0.here hx rfl (hb hby d12_19) rfl ?_
    show Steps p.tables e below (s₁.setTop (mkF m 20 #[.val (.ref a1), .val (.int (0 : Int32)), .val (.int (1 : Int32)), .val (.int p2), .val (.int (0 : Int32)), .val (.int (0 : Int32)), .unset, .unset] [(.int ((0 : Int32) + (0 : Int32)))])) _
    rw [(by decide : ((0 : Int32) + (0 : Int32)) = (0 : Int32))]
    show Steps p.tables e below (s₁.setTop (mkF m 20 #[.val (.ref a1), .val (.int (0 : Int32)), .val (.int (1 : Int32)), .val (.int p2), .val (.int (0 : Int32)), .val (.int (0 : Int32)), .unset, .unset] [(.int (0 : Int32))])) _
    refine XS.iconst X0.here hx rfl (hb hby d12_20) ?_
    show Steps p.tables e below (s₁.setTop (mkF m 21 #[.val (.ref a1), .val (.int (0 : Int32)), .val (.int (1 : Int32)), .val (.int p2), .val (.int (0 : Int32)), .val (.int (0 : Int32)), .unset, .unset] [(.int (1 : Int32)), (.int (0 : Int32))])) _
    refine XS.iushr X0.here hx rfl (hb hby d12_21) rfl ?_
    show Steps p.tables e below (s₁.setTop (mkF m 22 #[.val (.ref a1), .val (.int (0 : Int32)), .val (.int (1 : Int32)), .val (.int p2), .val (.int (0 : Int32)), .val (.int (0 : Int32)), .unset, .unset] [(.int (((0 : Int32).toUInt32 >>> ((1 : Int32) &&& 31).toUInt32).toInt32))])) _
    rw [(by decide : (((0 : Int32).toUInt32 >>> ((1 : Int32) &&& 31).toUInt32).toInt32) = (0 : Int32))]
    show Steps p.tables e below (s₁.setTop (mkF m 22 #[.val (.ref a1), .val (.int (0 : Int32)), .val (.int (1 : Int32)), .val (.int p2), .val (.int (0 : Int32)), .val (.int (0 : Int32)), .unset, .unset] [(.int (0 : Int32))])) _
    refine XS.istore X0.here hx rfl (hb hby d12_22) rfl (l' := #[.val (.ref a1), .val (.int (0 : Int32)), .val (.int (1 : Int32)), .val (.int p2), .val (.int (0 : Int32)), .val (.int (0 : Int32)), .val (.int (0 : Int32)), .unset]) rfl ?_
    show Steps p.tables e below (s₁.setTop (mkF m 24 #[.val (.ref a1), .val (.int (0 : Int32)), .val (.int (1 : Int32)), .val (.int p2), .val (.int (0 : Int32)), .val (.int (0 : Int32)), .val (.int (0 : Int32)), .unset] [])) _
    refine XS.aloadN X0.here hx rfl (hb hby d12_24) rfl rfl ?_
    show Steps p.tables e below (s₁.setTop (mkF m 25 #[.val (.ref a1), .val (.int (0 : Int32)), .val (.int (1 : Int32)), .val (.int p2), .val (.int (0 : Int32)), .val (.int (0 : Int32)), .val (.int (0 : Int32)), .unset] [(.ref a1)])) _
    refine XS.iload X0.here hx rfl (hb hby d12_25) rfl ?_
    show Steps p.tables e below (s₁.setTop (mkF m 27 #[.val (.ref a1), .val (.int (0 : Int32)), .val (.int (1 : Int32)), .val (.int p2), .val (.int (0 : Int32)), .val (.int (0 : Int32)), .val (.int (0 : Int32)), .unset] [(.int (0 : Int32)), (.ref a1)])) _
    refine X0.iaload hx (j := (0 : Int32)) (v := (.int p4)) (by rw [e0]; exact Ar1.1) (State.isArrayOf_alike hZ.alike Ar1.2.1) Ar1.2.2 hin1 hat1 (g := (mkF m 27 #[.val (.ref a1), .val (.int (0 : Int32)), .val (.int (1 : Int32)), .val (.int p2), .val (.int (0 : Int32)), .val (.int (0 : Int32)), .val (.int (0 : Int32)), .unset] [(.int (0 : Int32)), (.ref a1)])) rfl rfl (hb hby d12_27) _ ?_
    show Steps p.tables e below (s₁.setTop (mkF m 28 #[.val (.ref a1), .val (.int (0 : Int32)), .val (.int (1 : Int32)), .val (.int p2), .val (.int (0 : Int32)), .val (.int (0 : Int32)), .val (.int (0 : Int32)), .unset] [(.int p4)])) _
    refine XS.istore X0.here hx rfl (hb hby d12_28) rfl (l' := #[.val (.ref a1), .val (.int (0 : Int32)), .val (.int (1 : Int32)), .val (.int p2), .val (.int (0 : Int32)), .val (.int (0 : Int32)), .val (.int (0 : Int32)), .val (.int p4)]) rfl ?_
    show Steps p.tables e below (s₁.setTop (mkF m 30 #[.val (.ref a1), .val (.int (0 : Int32)), .val (.int (1 : Int32)), .val (.int p2), .val (.int (0 : Int32)), .val (.int (0 : Int32)), .val (.int (0 : Int32)), .val (.int p4)] [])) _
    refine XS.iload X0.here hx rfl (hb hby d12_30) rfl ?_
    show Steps p.tables e below (s₁.setTop (mkF m 32 #[.val (.ref a1), .val (.int (0 : Int32)), .val (.int (1 : Int32)), .val (.int p2), .val (.int (0 : Int32)), .val (.int (0 : Int32)), .val (.int (0 : Int32)), .val (.int p4)] [(.int p4)])) _
    refine XS.iloadN X0.here hx rfl (hb hby d12_32) rfl ?_
    show Steps p.tables e below (s₁.setTop (mkF m 33 #[.val (.ref a1), .val (.int (0 : Int32)), .val (.int (1 : Int32)), .val (.int p2), .val (.int (0 : Int32)), .val (.int (0 : Int32)), .val (.int (0 : Int32)), .val (.int p4)] [(.int p2), (.int p4)])) _
    refine XS.icmpYes X0.here hx rfl (pc0 := 33) (pc' := 45) rfl (hb hby d12_33) rfl (flt hc1).2.1 (by decide) (by decide) ?_
    show Steps p.tables e below (s₁.setTop (mkF m 45 #[.val (.ref a1), .val (.int (0 : Int32)), .val (.int (1 : Int32)), .val (.int p2), .val (.int (0 : Int32)), .val (.int (0 : Int32)), .val (.int (0 : Int32)), .val (.int p4)] [])) _
    refine XS.iload X0.here hx rfl (hb hby d12_45) rfl ?_
    show Steps p.tables e below (s₁.setTop (mkF m 47 #[.val (.ref a1), .val (.int (0 : Int32)), .val (.int (1 : Int32)), .val (.int p2), .val (.int (0 : Int32)), .val (.int (0 : Int32)), .val (.int (0 : Int32)), .val (.int p4)] [(.int p4)])) _
    refine XS.iloadN X0.here hx rfl (hb hby d12_47) rfl ?_
    show Steps p.tables e below (s₁.setTop (mkF m 48 #[.val (.ref a1), .val (.int (0 : Int32)), .val (.int (1 : Int32)), .val (.int p2), .val (.int (0 : Int32)), .val (.int (0 : Int32)), .val (.int (0 : Int32)), .val (.int p4)] [(.int p2), (.int p4)])) _
    refine XS.icmpNo X0.here hx rfl (hb hby d12_48) rfl (tlt hc2).2.2.2 ?_
    show Steps p.tables e below (s₁.setTop (mkF m 51 #[.val (.ref a1), .val (.int (0 : Int32)), .val (.int (1 : Int32)), .val (.int p2), .val (.int (0 : Int32)), .val (.int (0 : Int32)), .val (.int (0 : Int32)), .val (.int p4)] [])) _
    refine XS.iload X0.here hx rfl (hb hby d12_51) rfl ?_
    show Steps p.tables e below (s₁.setTop (mkF m 53 #[.val (.ref a1), .val (.int (0 : Int32)), .val (.int (1 : Int32)), .val (.int p2), .val (.int (0 : Int32)), .val (.int (0 : Int32)), .val (.int (0 : Int32)), .val (.int p4)] [(.int (0 : Int32))])) _
    refine XS.iconst X0.here hx rfl (hb hby d12_53) ?_
    show Steps p.tables e below (s₁.setTop (mkF m 54 #[.val (.ref a1), .val (.int (0 : Int32)), .val (.int (1 : Int32)), .val (.int p2), .val (.int (0 : Int32)), .val (.int (0 : Int32)), .val (.int (0 : Int32)), .val (.int p4)] [(.int (1 : Int32)), (.int (0 : Int32))])) _
    refine XS.isub X0.here hx rfl (hb hby d12_54) rfl ?_
    show Steps p.tables e below (s₁.setTop (mkF m 55 #[.val (.ref a1), .val (.int (0 : Int32)), .val (.int (1 : Int32)), .val (.int p2), .val (.int (0 : Int32)), .val (.int (0 : Int32)), .val (.int (0 : Int32)), .val (.int p4)] [(.int ((0 : Int32) - (1 : Int32)))])) _
    rw [(by decide : ((0 : Int32) - (1 : Int32)) = (-1 : Int32))]
    show Steps p.tables e below (s₁.setTop (mkF m 55 #[.val (.ref a1), .val (.int (0 : Int32)), .val (.int (1 : Int32)), .val (.int p2), .val (.int (0 : Int32)), .val (.int (0 : Int32)), .val (.int (0 : Int32)), .val (.int p4)] [(.int (-1 : Int32))])) _
    refine XS.istore X0.here hx rfl (hb hby d12_55) rfl (l' := #[.val (.ref a1), .val (.int (0 : Int32)), .val (.int (1 : Int32)), .val (.int p2), .val (.int (0 : Int32)), .val (.int (-1 : Int32)), .val (.int (0 : Int32)), .val (.int p4)]) rfl ?_
    show Steps p.tables e below (s₁.setTop (mkF m 57 #[.val (.ref a1), .val (.int (0 : Int32)), .val (.int (1 : Int32)), .val (.int p2), .val (.int (0 : Int32)), .val (.int (-1 : Int32)), .val (.int (0 : Int32)), .val (.int p4)] [])) _
    refine XS.goto X0.here hx rfl (pc0 := 57) (pc' := 63) rfl (hb hby d12_57) (by decide) (by decide) ?_
    show Steps p.tables e below (s₁.setTop (mkF m 63 #[.val (.ref a1), .val (.int (0 : Int32)), .val (.int (1 : Int32)), .val (.int p2), .val (.int (0 : Int32)), .val (.int (-1 : Int32)), .val (.int (0 : Int32)), .val (.int p4)] [])) _
    refine XS.goto X0.here hx rfl (pc0 := 63) (pc' := 8) rfl (hb hby d12_63) (by decide) (by decide) ?_
    show Steps p.tables e below (s₁.setTop (mkF m 8 #[.val (.ref a1), .val (.int (0 : Int32)), .val (.int (1 : Int32)), .val (.int p2), .val (.int (0 : Int32)), .val (.int (-1 : Int32)), .val (.int (0 : Int32)), .val (.int p4)] [])) _
    refine XS.iload X0.here hx rfl (hb hby d12_8) rfl ?_
    show Steps p.tables e below (s₁.setTop (mkF m 10 #[.val (.ref a1), .val (.int (0 : Int32)), .val (.int (1 : Int32)), .val (.int p2), .val (.int (0 : Int32)), .val (.int (-1 : Int32)), .val (.int (0 : Int32)), .val (.int p4)] [(.int (0 : Int32))])) _
    refine XS.iload X0.here hx rfl (hb hby d12_10) rfl ?_
    show Steps p.tables e below (s₁.setTop (mkF m 12 #[.val (.ref a1), .val (.int (0 : Int32)), .val (.int (1 : Int32)), .val (.int p2), .val (.int (0 : Int32)), .val (.int (-1 : Int32)), .val (.int (0 : Int32)), .val (.int p4)] [(.int (-1 : Int32)), (.int (0 : Int32))])) _
    refine XS.icmpYes X0.here hx rfl (pc0 := 12) (pc' := 66) rfl (hb hby d12_12) rfl (tlt (by decide : (-1 : Int32) < (0 : Int32))).2.2.1 (by decide) (by decide) ?_
    show Steps p.tables e below (s₁.setTop (mkF m 66 #[.val (.ref a1), .val (.int (0 : Int32)), .val (.int (1 : Int32)), .val (.int p2), .val (.int (0 : Int32)), .val (.int (-1 : Int32)), .val (.int (0 : Int32)), .val (.int p4)] [])) _
    refine XS.iload X0.here hx rfl (hb hby d12_66) rfl ?_
    show Steps p.tables e below (s₁.setTop (mkF m 68 #[.val (.ref a1), .val (.int (0 : Int32)), .val (.int (1 : Int32)), .val (.int p2), .val (.int (0 : Int32)), .val (.int (-1 : Int32)), .val (.int (0 : Int32)), .val (.int p4)] [(.int (0 : Int32))])) _
    refine XS.iconst X0.here hx rfl (hb hby d12_68) ?_
    show Steps p.tables e below (s₁.setTop (mkF m 69 #[.val (.ref a1), .val (.int (0 : Int32)), .val (.int (1 : Int32)), .val (.int p2), .val (.int (0 : Int32)), .val (.int (-1 : Int32)), .val (.int (0 : Int32)), .val (.int p4)] [(.int (1 : Int32)), (.int (0 : Int32))])) _
    refine XS.iadd X0.here hx rfl (hb hby d12_69) rfl ?_
    show Steps p.tables e below (s₁.setTop (mkF m 70 #[.val (.ref a1), .val (.int (0 : Int32)), .val (.int (1 : Int32)), .val (.int p2), .val (.int (0 : Int32)), .val (.int (-1 : Int32)), .val (.int (0 : Int32)), .val (.int p4)] [(.int ((0 : Int32) + (1 : Int32)))])) _
    rw [(by decide : ((0 : Int32) + (1 : Int32)) = (1 : Int32))]
    show Steps p.tables e below (s₁.setTop (mkF m 70 #[.val (.ref a1), .val (.int (0 : Int32)), .val (.int (1 : Int32)), .val (.int p2), .val (.int (0 : Int32)), .val (.int (-1 : Int32)), .val (.int (0 : Int32)), .val (.int p4)] [(.int (1 : Int32))])) _
    refine XS.ineg X0.here hx rfl (hb hby d12_70) rfl ?_
    show Steps p.tables e below (s₁.setTop (mkF m 71 #[.val (.ref a1), .val (.int (0 : Int32)), .val (.int (1 : Int32)), .val (.int p2), .val (.int (0 : Int32)), .val (.int (-1 : Int32)), .val (.int (0 : Int32)), .val (.int p4)] [(.int (-(1 : Int32)))])) _
    rw [(by decide : (-(1 : Int32)) = (-1 : Int32))]
    show Steps p.tables e below (s₁.setTop (mkF m 71 #[.val (.ref a1), .val (.int (0 : Int32)), .val (.int (1 : Int32)), .val (.int p2), .val (.int (0 : Int32)), .val (.int (-1 : Int32)), .val (.int (0 : Int32)), .val (.int p4)] [(.int (-1 : Int32))])) _
    exact retI X0 hx Bd.returns (hb hby d12_71) hr
  · show Q12_13 Z a1 p2 kc3 p4 h0 n0 _ s₁.heap _
    rw [e0]
    exact ⟨rfl, N0, rfl⟩
theorem ef12_14 (m : MethodId) (a1 : Addr) (p2 : Int32) : entryFrame m #[(.ref a1), (.int (0 : Int32)), (.int (1 : Int32)), (.int p2)] 8 = mkF m 0 #[.val (.ref a1), .val (.int (0 : Int32)), .val (.int (1 : Int32)), .val (.int p2), .unset, .unset, .unset, .unset] [] := by first | (simp [entryFrame, mkF, argsToLocals, Value.category]; done) | rfl
def Q12_14 (Z : State) (a1 : Addr) (p2 : Int32) (kc3 : ClassId) (p4 : Int32) (h0 : Heap) (n0 : Nat) (v : Option Value) (h : Heap) (L : List Loc) : Prop := v = some (.int (0 : Int32)) ∧ Fr n0 L ∧ h = h0
set_option maxRecDepth 65536 in
set_option maxHeartbeats 40000000 in
theorem rm12_14 (l : Launch) (Z : State) (a0 : Array Value) (hw : ∀ d ∈ tables_1, d.before a0 Z = true) (ws : List Jvm.Cond) (a1 : Addr) (p2 : Int32) (kc3 : ClassId) (p4 : Int32) (h0 : Heap) (n0 : Nat) (Z0 : n0 ≤ h0.size) (V_a1 : Arv Z h0 a1 kc3 .int (1 : Int32) [(.int p4)] (.int (0 : Int32))) (hc1 : ¬ (p4 < p2)) (hc2 : ¬ (p2 < p4)) :
    MetFree l (⟨"java/util/Arrays", "binarySearch0", "([IIII)I"⟩ : MethodName) (head1 (Jvm.Cond.code (⟨"java/util/Arrays", "binarySearch0", "([IIII)I"⟩ : MethodName) jdk_65_method_59_code 8 (some .int) :: ws) ({ frames := 0, cells := 0, slots := 0, locals := 0 } : Room)) (fun a U => a = #[(.ref a1), (.int (0 : Int32)), (.int (1 : Int32)), (.int p2)] ∧ Z.Warmed39 U.vm ∧ U.heap = h0) (fun _ _ _ _ _ => True) (fun _ U o U' => ∃ v L, o = .returned v ∧ Q12_14 Z a1 p2 kc3 p4 h0 n0 v U'.heap L ∧ FrameEnd U o U' L ({ frames := 0, cells := 0, slots := 0, locals := 0 } : Room).cells ({ frames := 0, cells := 0, slots := 0, locals := 0 } : Room).slots) := by
  refine MetFree.of_bodySF (plainFor_of_name pn_java_util_Arrays) hisR ?_
  intro p e s m args below meth c s₁ Bd hml0 hP hK
  obtain ⟨rfl, hZ, hh⟩ := hP
  have hx := Bd.exec
  have hby := Bd.bytes
  have hml : c.maxLocals = 8 := hml0
  have hown : s.vm.findClass "java/util/Arrays" = some m.cls := findClass_of_methodNamed Bd.named
  have hnm := (name_of_methodNamed Bd.named Bd.method).1
  have X0 : Stand p l e ({ frames := 0, cells := 0, slots := 0, locals := 0 } : Room) s m #[(.ref a1), (.int (0 : Int32)), (.int (1 : Int32)), (.int p2)] below meth c s₁ [] 0 0 := Stand.of_body Bd
  have e0 : s₁.heap = h0 := by rw [← hh, Bd.state]; rfl
  have N0 := Fr.nil n0
  have pre0 : ∀ t, Steps p.tables e below (s₁.setTop (mkF m 0 #[.val (.ref a1), .val (.int (0 : Int32)), .val (.int (1 : Int32)), .val (.int p2), .unset, .unset, .unset, .unset] [])) t → Steps p.tables e below (s₁.setTop (entryFrame m #[(.ref a1), (.int (0 : Int32)), (.int (1 : Int32)), (.int p2)] 8)) t := fun t k => castTop (ef12_14 m a1 p2) k
  obtain ⟨cl1, Ar1, qk1, Sz1, Ng1, Ha1, Gf1⟩ := id V_a1
  have hin1 : ¬ ((0 : Int32) < 0 ∨ cl1.slots.size ≤ ((0 : Int32)).toNatClampNeg) := inb_of Sz1 ⟨by decide, by decide⟩
  have hat1 : cl1.slots[((0 : Int32)).toNatClampNeg]? = some (.int p4) := Has.at Ha1 hin1 rfl
  obtain ⟨fs, hr, hrun, hended, hW, hsame⟩ := X0.leave (v := some (.int (0 : Int32))) (fun h => by rw [Bd.returns] at h; cases h)
  refine ⟨_, _, pre0 _ ?_, hrun, hended, _, _, rfl, ?_, ⟨_, rfl⟩, hW, hsame.mono (by decide) (by decide)⟩
  · show Steps p.tables e below (s₁.setTop (mkF m 0 #[.val (.ref a1), .val (.int (0 : Int32)), .val (.int (1 : Int32)), .val (.int p2), .unset, .unset, .unset, .unset] [])) _
    refine XS.iloadN X0.here hx rfl (hb hby d12_0) rfl ?_
    show Steps p.tables e below (s₁.setTop (mkF m 1 #[.val (.ref a1), .val (.int (0 : Int32)), .val (.int (1 : Int32)), .val (.int p2), .unset, .unset, .unset, .unset] [(.int (0 : Int32))])) _
    refine XS.istore X0.here hx rfl (hb hby d12_1) rfl (l' := #[.val (.ref a1), .val (.int (0 : Int32)), .val (.int (1 : Int32)), .val (.int p2), .val (.int (0 : Int32)), .unset, .unset, .unset]) rfl ?_
    show Steps p.tables e below (s₁.setTop (mkF m 3 #[.val (.ref a1), .val (.int (0 : Int32)), .val (.int (1 : Int32)), .val (.int p2), .val (.int (0 : Int32)), .unset, .unset, .unset] [])) _
    refine XS.iloadN X0.here hx rfl (hb hby d12_3) rfl ?_
    show Steps p.tables e below (s₁.setTop (mkF m 4 #[.val (.ref a1), .val (.int (0 : Int32)), .val (.int (1 : Int32)), .val (.int p2), .val (.int (0 : Int32)), .unset, .unset, .unset] [(.int (1 : Int32))])) _
    refine XS.iconst X0.here hx rfl (hb hby d12_4) ?_
    show Steps p.tables e below (s₁.setTop (mkF m 5 #[.val (.ref a1), .val (.int (0 : Int32)), .val (.int (1 : Int32)), .val (.int p2), .val (.int (0 : Int32)), .unset, .unset, .unset] [(.int (1 : Int32)), (.int (1 : Int32))])) _
    refine XS.isub X0.here hx rfl (hb hby d12_5) rfl ?_
    show Steps p.tables e below (s₁.setTop (mkF m 6 #[.val (.ref a1), .val (.int (0 : Int32)), .val (.int (1 : Int32)), .val (.int p2), .val (.int (0 : Int32)), .unset, .unset, .unset] [(.int ((1 : Int32) - (1 : Int32)))])) _
    rw [(by decide : ((1 : Int32) - (1 : Int32)) = (0 : Int32))]
    show Steps p.tables e below (s₁.setTop (mkF m 6 #[.val (.ref a1), .val (.int (0 : Int32)), .val (.int (1 : Int32)), .val (.int p2), .val (.int (0 : Int32)), .unset, .unset, .unset] [(.int (0 : Int32))])) _
    refine XS.istore X0.here hx rfl (hb hby d12_6) rfl (l' := #[.val (.ref a1), .val (.int (0 : Int32)), .val (.int (1 : Int32)), .val (.int p2), .val (.int (0 : Int32)), .val (.int (0 : Int32)), .unset, .unset]) rfl ?_
    show Steps p.tables e below (s₁.setTop (mkF m 8 #[.val (.ref a1), .val (.int (0 : Int32)), .val (.int (1 : Int32)), .val (.int p2), .val (.int (0 : Int32)), .val (.int (0 : Int32)), .unset, .unset] [])) _
    refine XS.iload X0.here hx rfl (hb hby d12_8) rfl ?_
    show Steps p.tables e below (s₁.setTop (mkF m 10 #[.val (.ref a1), .val (.int (0 : Int32)), .val (.int (1 : Int32)), .val (.int p2), .val (.int (0 : Int32)), .val (.int (0 : Int32)), .unset, .unset] [(.int (0 : Int32))])) _
    refine XS.iload X0.here hx rfl (hb hby d12_10) rfl ?_
    show Steps p.tables e below (s₁.setTop (mkF m 12 #[.val (.ref a1), .val (.int (0 : Int32)), .val (.int (1 : Int32)), .val (.int p2), .val (.int (0 : Int32)), .val (.int (0 : Int32)), .unset, .unset] [(.int (0 : Int32)), (.int (0 : Int32))])) _
    refine XS.icmpNo X0.here hx rfl (hb hby d12_12) rfl (flt (by decide : ¬ ((0 : Int32) < (0 : Int32)))).2.2.1 ?_
    show Steps p.tables e below (s₁.setTop (mkF m 15 #[.val (.ref a1), .val (.int (0 : Int32)), .val (.int (1 : Int32)), .val (.int p2), .val (.int (0 : Int32)), .val (.int (0 : Int32)), .unset, .unset] [])) _
    refine XS.iload X0.here hx rfl (hb hby d12_15) rfl ?_
    show Steps p.tables e below (s₁.setTop (mkF m 17 #[.val (.ref a1), .val (.int (0 : Int32)), .val (.int (1 : Int32)), .val (.int p2), .val (.int (0 : Int32)), .val (.int (0 : Int32)), .unset, .unset] [(.int (0 : Int32))])) _
    refine XS.iload X0.here hx rfl (hb hby d12_17) rfl ?_
    show Steps p.tables e below (s₁.setTop (mkF m 19 #[.val (.ref a1), .val (.int (0 : Int32)), .val (.int (1 : Int32)), .val (.int p2), .val (.int (0 : Int32)), .val (.int (0 : Int32)), .unset, .unset] [(.int (0 : Int32)), (.int (0 : Int32))])) _
    refine XS.iadd X0.here hx rfl (hb hby d12_19) rfl ?_
    show Steps p.tables e below (s₁.setTop (mkF m 20 #[.val (.ref a1), .val (.int (0 : Int32)), .val (.int (1 : Int32)), .val (.int p2), .val (.int (0 : Int32)), .val (.int (0 : Int32)), .unset, .unset] [(.int ((0 : Int32) + (0 : Int32)))])) _
    rw [(by decide : ((0 : Int32) + (0 : Int32)) = (0 : Int32))]
    show Steps p.tables e below (s₁.setTop (mkF m 20 #[.val (.ref a1), .val (.int (0 : Int32)), .val (.int (1 : Int32)), .val (.int p2), .val (.int (0 : Int32)), .val (.int (0 : Int32)), .unset, .unset] [(.int (0 : Int32))])) _
    refine XS.iconst X0.here hx rfl (hb hby d12_20) ?_
    show Steps p.tables e below (s₁.setTop (mkF m 21 #[.val (.ref a1), .val (.int (0 : Int32)), .val (.int (1 : Int32)), .val (.int p2), .val (.int (0 : Int32)), .val (.int (0 : Int32)), .unset, .unset] [(.int (1 : Int32)), (.int (0 : Int32))])) _
    refine XS.iushr X0.here hx rfl (hb hby d12_21) rfl ?_
    show Steps p.tables e below (s₁.setTop (mkF m 22 #[.val (.ref a1), .val (.int (0 : Int32)), .val (.int (1 : Int32)), .val (.int p2), .val (.int (0 : Int32)), .val (.int (0 : Int32)), .unset, .unset] [(.int (((0 : Int32).toUInt32 >>> ((1 : Int32) &&& 31).toUInt32).toInt32))])) _
    rw [(by decide : (((0 : Int32).toUInt32 >>> ((1 : Int32) &&& 31).toUInt32).toInt32) = (0 : Int32))]
    show Steps p.tables e below (s₁.setTop (mkF m 22 #[.val (.ref a1), .val (.int (0 : Int32)), .val (.int (1 : Int32)), .val (.int p2), .val (.int (0 : Int32)), .val (.int (0 : Int32)), .unset, .unset] [(.int (0 : Int32))])) _
    refine XS.istore X0.here hx rfl (hb hby d12_22) rfl (l' := #[.val (.ref a1), .val (.int (0 : Int32)), .val (.int (1 : Int32)), .val (.int p2), .val (.int (0 : Int32)), .val (.int (0 : Int32)), .val (.int (0 : Int32)), .unset]) rfl ?_
    show Steps p.tables e below (s₁.setTop (mkF m 24 #[.val (.ref a1), .val (.int (0 : Int32)), .val (.int (1 : Int32)), .val (.int p2), .val (.int (0 : Int32)), .val (.int (0 : Int32)), .val (.int (0 : Int32)), .unset] [])) _
    refine XS.aloadN X0.here hx rfl (hb hby d12_24) rfl rfl ?_
    show Steps p.tables e below (s₁.setTop (mkF m 25 #[.val (.ref a1), .val (.int (0 : Int32)), .val (.int (1 : Int32)), .val (.int p2), .val (.int (0 : Int32)), .val (.int (0 : Int32)), .val (.int (0 : Int32)), .unset] [(.ref a1)])) _
    refine XS.iload X0.here hx rfl (hb hby d12_25) rfl ?_
    show Steps p.tables e below (s₁.setTop (mkF m 27 #[.val (.ref a1), .val (.int (0 : Int32)), .val (.int (1 : Int32)), .val (.int p2), .val (.int (0 : Int32)), .val (.int (0 : Int32)), .val (.int (0 : Int32)), .unset] [(.int (0 : Int32)), (.ref a1)])) _
    refine X0.iaload hx (j := (0 : Int32)) (v := (.int p4)) (by rw [e0]; exact Ar1.1) (State.isArrayOf_alike hZ.alike Ar1.2.1) Ar1.2.2 hin1 hat1 (g := (mkF m 27 #[.val (.ref a1), .val (.int (0 : Int32)), .val (.int (1 : Int32)), .val (.int p2), .val (.int (0 : Int32)), .val (.int (0 : Int32)), .val (.int (0 : Int32)), .unset] [(.int (0 : Int32)), (.ref a1)])) rfl rfl (hb hby d12_27) _ ?_
    show Steps p.tables e below (s₁.setTop (mkF m 28 #[.val (.ref a1), .val (.int (0 : Int32)), .val (.int (1 : Int32)), .val (.int p2), .val (.int (0 : Int32)), .val (.int (0 : Int32)), .val (.int (0 : Int32)), .unset] [(.int p4)])) _
    refine XS.istore X0.here hx rfl (hb hby d12_28) rfl (l' := #[.val (.ref a1), .val (.int (0 : Int32)), .val (.int (1 : Int32)), .val (.int p2), .val (.int (0 : Int32)), .val (.int (0 : Int32)), .val (.int (0 : Int32)), .val (.int p4)]) rfl ?_
    show Steps p.tables e below (s₁.setTop (mkF m 30 #[.val (.ref a1), .val (.int (0 : Int32)), .val (.int (1 : Int32)), .val (.int p2), .val (.int (0 : Int32)), .val (.int (0 : Int32)), .val (.int (0 : Int32)), .val (.int p4)] [])) _
    refine XS.iload X0.here hx rfl (hb hby d12_30) rfl ?_
    show Steps p.tables e below (s₁.setTop (mkF m 32 #[.val (.ref a1), .val (.int (0 : Int32)), .val (.int (1 : Int32)), .val (.int p2), .val (.int (0 : Int32)), .val (.int (0 : Int32)), .val (.int (0 : Int32)), .val (.int p4)] [(.int p4)])) _
    refine XS.iloadN X0.here hx rfl (hb hby d12_32) rfl ?_
    show Steps p.tables e below (s₁.setTop (mkF m 33 #[.val (.ref a1), .val (.int (0 : Int32)), .val (.int (1 : Int32)), .val (.int p2), .val (.int (0 : Int32)), .val (.int (0 : Int32)), .val (.int (0 : Int32)), .val (.int p4)] [(.int p2), (.int p4)])) _
    refine XS.icmpYes X0.here hx rfl (pc0 := 33) (pc' := 45) rfl (hb hby d12_33) rfl (flt hc1).2.1 (by decide) (by decide) ?_
    show Steps p.tables e below (s₁.setTop (mkF m 45 #[.val (.ref a1), .val (.int (0 : Int32)), .val (.int (1 : Int32)), .val (.int p2), .val (.int (0 : Int32)), .val (.int (0 : Int32)), .val (.int (0 : Int32)), .val (.int p4)] [])) _
    refine XS.iload X0.here hx rfl (hb hby d12_45) rfl ?_
    show Steps p.tables e below (s₁.setTop (mkF m 47 #[.val (.ref a1), .val (.int (0 : Int32)), .val (.int (1 : Int32)), .val (.int p2), .val (.int (0 : Int32)), .val (.int (0 : Int32)), .val (.int (0 : Int32)), .val (.int p4)] [(.int p4)])) _
    refine XS.iloadN X0.here hx rfl (hb hby d12_47) rfl ?_
    show Steps p.tables e below (s₁.setTop (mkF m 48 #[.val (.ref a1), .val (.int (0 : Int32)), .val (.int (1 : Int32)), .val (.int p2), .val (.int (0 : Int32)), .val (.int (0 : Int32)), .val (.int (0 : Int32)), .val (.int p4)] [(.int p2), (.int p4)])) _
    refine XS.icmpYes X0.here hx rfl (pc0 := 48) (pc' := 60) rfl (hb hby d12_48) rfl (flt hc2).2.2.2 (by decide) (by decide) ?_
    show Steps p.tables e below (s₁.setTop (mkF m 60 #[.val (.ref a1), .val (.int (0 : Int32)), .val (.int (1 : Int32)), .val (.int p2), .val (.int (0 : Int32)), .val (.int (0 : Int32)), .val (.int (0 : Int32)), .val (.int p4)] [])) _
    refine XS.iload X0.here hx rfl (hb hby d12_60) rfl ?_
    show Steps p.tables e below (s₁.setTop (mkF m 62 #[.val (.ref a1), .val (.int (0 : Int32)), .val (.int (1 : Int32)), .val (.int p2), .val (.int (0 : Int32)), .val (.int (0 : Int32)), .val (.int (0 : Int32)), .val (.int p4)] [(.int (0 : Int32))])) _
    exact retI X0 hx Bd.returns (hb hby d12_62) hr
  · show Q12_14 Z a1 p2 kc3 p4 h0 n0 _ s₁.heap _
    rw [e0]
    exact ⟨rfl, N0, rfl⟩
theorem ef10_15 (m : MethodId) (a1 : Addr) (p2 : Int32) : entryFrame m #[(.ref a1), (.int (0 : Int32)), (.int (1 : Int32)), (.int p2)] 4 = mkF m 0 #[.val (.ref a1), .val (.int (0 : Int32)), .val (.int (1 : Int32)), .val (.int p2)] [] := by first | (simp [entryFrame, mkF, argsToLocals, Value.category]; done) | rfl
def Q10_15 (Z : State) (a1 : Addr) (p2 : Int32) (kc3 : ClassId) (p4 : Int32) (h0 : Heap) (n0 : Nat) (v : Option Value) (h : Heap) (L : List Loc) : Prop := v = some (.int (-2 : Int32)) ∧ Fr n0 L ∧ h = h0
set_option maxRecDepth 65536 in
set_option maxHeartbeats 40000000 in
theorem rm10_15 (l : Launch) (Z : State) (a0 : Array Value) (hw : ∀ d ∈ tables_1, d.before a0 Z = true) (ws : List Jvm.Cond) (a1 : Addr) (p2 : Int32) (kc3 : ClassId) (p4 : Int32) (h0 : Heap) (n0 : Nat) (Z0 : n0 ≤ h0.size) (V_a1 : Arv Z h0 a1 kc3 .int (1 : Int32) [(.int p4)] (.int (0 : Int32))) (hc1 : p4 < p2) :
    MetFree l (⟨"java/util/Arrays", "binarySearch", "([IIII)I"⟩ : MethodName) (head1 (Jvm.Cond.code (⟨"java/util/Arrays", "binarySearch", "([IIII)I"⟩ : MethodName) jdk_65_method_58_code 4 (some .int) :: ws) ({ frames := 1, cells := 0, slots := 0, locals := 19 } : Room)) (fun a U => a = #[(.ref a1), (.int (0 : Int32)), (.int (1 : Int32)), (.int p2)] ∧ Z.Warmed39 U.vm ∧ U.heap = h0) (fun _ _ _ _ _ => True) (fun _ U o U' => ∃ v L, o = .returned v ∧ Q10_15 Z a1 p2 kc3 p4 h0 n0 v U'.heap L ∧ FrameEnd U o U' L ({ frames := 1, cells := 0, slots := 0, locals := 19 } : Room).cells ({ frames := 1, cells := 0, slots := 0, locals := 19 } : Room).slots) := by
  refine MetFree.of_bodySF (plainFor_of_name pn_java_util_Arrays) hisR ?_
  intro p e s m args below meth c s₁ Bd hml0 hP hK
  obtain ⟨rfl, hZ, hh⟩ := hP
  have hx := Bd.exec
  have hby := Bd.bytes
  have hml : c.maxLocals = 4 := hml0
  have hown : s.vm.findClass "java/util/Arrays" = some m.cls := findClass_of_methodNamed Bd.named
  have hnm := (name_of_methodNamed Bd.named Bd.method).1
  have X0 : Stand p l e ({ frames := 1, cells := 0, slots := 0, locals := 19 } : Room) s m #[(.ref a1), (.int (0 : Int32)), (.int (1 : Int32)), (.int p2)] below meth c s₁ [] 0 0 := Stand.of_body Bd
  have e0 : s₁.heap = h0 := by rw [← hh, Bd.state]; rfl
  have N0 := Fr.nil n0
  have pre0 : ∀ t, Steps p.tables e below (s₁.setTop (mkF m 0 #[.val (.ref a1), .val (.int (0 : Int32)), .val (.int (1 : Int32)), .val (.int p2)] [])) t → Steps p.tables e below (s₁.setTop (entryFrame m #[(.ref a1), (.int (0 : Int32)), (.int (1 : Int32)), (.int p2)] 4)) t := fun t k => castTop (ef10_15 m a1 p2) k
  obtain ⟨cl1, Ar1, -, Sz1, Ng1, -, -⟩ := id V_a1
  obtain ⟨_, _, ⟨T2, L2, k2, n2⟩, -, X2, ⟨Lc2, hQ2, l2, y2, z2⟩, st2⟩ := Jvm.LawKit.callS X0 hx (y := (⟨"java/util/Arrays", "rangeCheck", "(III)V"⟩ : MethodName)) hown (mvT hZ (own_w66 hw)) (mvT hZ (own_w67 hw)) (mvT hZ (own_w64 hw)) (mvT hZ (own_w68 hw)) (by decide) (backOf (W := 0) (rm11_8 l Z a0 hw []  h0 n0 Z0 ) hZ (own_w68 hw) (own_w64 hw) (by decide) (by decide)) (g := (mkF m 4 #[.val (.ref a1), .val (.int (0 : Int32)), .val (.int (1 : Int32)), .val (.int p2)] [(.int (1 : Int32)), (.int (0 : Int32)), (.int (1 : Int32))])) rfl (by rw [hml]; rfl) (argsL := [(.int (1 : Int32)), (.int (0 : Int32)), (.int (1 : Int32))]) (rest := []) (lenOf pd__III_V rfl) rfl (by show 2 * 0 + _ ≤ _; exact Nat.le_of_eq rfl) (hb hby d10_4) (fun _ _ => ⟨rfl, e0, (by decide : 0 + 0 ≤ _), (by decide : 0 + 0 ≤ _)⟩)
  dsimp only [Pt.U, Pt.locs, Pt.cells, Pt.slots] at X2 l2 y2 z2 st2 hQ2
  subst l2 y2 z2
  obtain ⟨rfl, N2q, e2⟩ := hQ2
  have N2 := Fr.app N0 N2q
  obtain ⟨_, _, ⟨T3, L3, k3, n3⟩, -, X3, ⟨Lc3, hQ3, l3, y3, z3⟩, st3⟩ := Jvm.LawKit.callS X2 hx (y := (⟨"java/util/Arrays", "binarySearch0", "([IIII)I"⟩ : MethodName)) hown (mvT hZ (own_w69 hw)) (mvT hZ (own_w70 hw)) (mvT hZ (own_w64 hw)) (mvT hZ (own_w71 hw)) (by decide) (backOf (W := 0) (rm12_12 l Z a0 hw [] a1 p2 kc3 p4 h0 n0 Z0 V_a1 hc1) hZ (own_w71 hw) (own_w64 hw) (by decide) (by decide)) (g := (mkF m 11 #[.val (.ref a1), .val (.int (0 : Int32)), .val (.int (1 : Int32)), .val (.int p2)] [(.int p2), (.int (1 : Int32)), (.int (0 : Int32)), (.ref a1)])) rfl (by rw [hml]; rfl) (argsL := [(.ref a1), (.int (0 : Int32)), (.int (1 : Int32)), (.int p2)]) (rest := []) (lenOf pd___IIII_I rfl) rfl (by show 2 * 0 + _ ≤ _; exact Nat.le_of_eq rfl) (hb hby d10_11) (fun _ _ => ⟨rfl, e2, (by decide : 0 + 0 ≤ _), (by decide : 0 + 0 ≤ _)⟩)
  dsimp only [Pt.U, Pt.locs, Pt.cells, Pt.slots] at X3 l3 y3 z3 st3 hQ3
  subst l3 y3 z3
  obtain ⟨rfl, N3q, e3⟩ := hQ3
  have N3 := Fr.app N2 N3q
  obtain ⟨fs, hr, hrun, hended, hW, hsame⟩ := X3.leave (v := some (.int (-2 : Int32))) (fun h => by rw [Bd.returns] at h; cases h)
  refine ⟨_, _, pre0 _ ?_, hrun, hended, _, _, rfl, ?_, ⟨_, rfl⟩, hW, hsame.mono (by decide) (by decide)⟩
  · show Steps p.tables e below (s₁.setTop (mkF m 0 #[.val (.ref a1), .val (.int (0 : Int32)), .val (.int (1 : Int32)), .val (.int p2)] [])) _
    refine XS.aloadN X0.here hx rfl (hb hby d10_0) rfl rfl ?_
    show Steps p.tables e below (s₁.setTop (mkF m 1 #[.val (.ref a1), .val (.int (0 : Int32)), .val (.int (1 : Int32)), .val (.int p2)] [(.ref a1)])) _
    refine X0.arraylength hx (by rw [e0]; exact Ar1.1) (State.isArrayOf_alike hZ.alike Ar1.2.1) (g := (mkF m 1 #[.val (.ref a1), .val (.int (0 : Int32)), .val (.int (1 : Int32)), .val (.int p2)] [(.ref a1)])) rfl rfl (hb hby d10_1) _ ?_
    rw [len_of Sz1 Ng1]
    show Steps p.tables e below (s₁.setTop (mkF m 2 #[.val (.ref a1), .val (.int (0 : Int32)), .val (.int (1 : Int32)), .val (.int p2)] [(.int (1 : Int32))])) _
    refine XS.iloadN X0.here hx rfl (hb hby d10_2) rfl ?_
    show Steps p.tables e below (s₁.setTop (mkF m 3 #[.val (.ref a1), .val (.int (0 : Int32)), .val (.int (1 : Int32)), .val (.int p2)] [(.int (0 : Int32)), (.int (1 : Int32))])) _
    refine XS.iloadN X0.here hx rfl (hb hby d10_3) rfl ?_
    show Steps p.tables e below (s₁.setTop (mkF m 4 #[.val (.ref a1), .val (.int (0 : Int32)), .val (.int (1 : Int32)), .val (.int p2)] [(.int (1 : Int32)), (.int (0 : Int32)), (.int (1 : Int32))])) _
    refine st2 _ ?_
    show Steps p.tables e below (T2.setTop (mkF m 7 #[.val (.ref a1), .val (.int (0 : Int32)), .val (.int (1 : Int32)), .val (.int p2)] [])) _
    refine XS.aloadN X2.here hx rfl (hb hby d10_7) rfl rfl ?_
    show Steps p.tables e below (T2.setTop (mkF m 8 #[.val (.ref a1), .val (.int (0 : Int32)), .val (.int (1 : Int32)), .val (.int p2)] [(.ref a1)])) _
    refine XS.iloadN X2.here hx rfl (hb hby d10_8) rfl ?_
    show Steps p.tables e below (T2.setTop (mkF m 9 #[.val (.ref a1), .val (.int (0 : Int32)), .val (.int (1 : Int32)), .val (.int p2)] [(.int (0 : Int32)), (.ref a1)])) _
    refine XS.iloadN X2.here hx rfl (hb hby d10_9) rfl ?_
    show Steps p.tables e below (T2.setTop (mkF m 10 #[.val (.ref a1), .val (.int (0 : Int32)), .val (.int (1 : Int32)), .val (.int p2)] [(.int (1 : Int32)), (.int (0 : Int32)), (.ref a1)])) _
    refine XS.iloadN X2.here hx rfl (hb hby d10_10) rfl ?_
    show Steps p.tables e below (T2.setTop (mkF m 11 #[.val (.ref a1), .val (.int (0 : Int32)), .val (.int (1 : Int32)), .val (.int p2)] [(.int p2), (.int (1 : Int32)), (.int (0 : Int32)), (.ref a1)])) _
    refine st3 _ ?_
    show Steps p.tables e below (T3.setTop (mkF m 14 #[.val (.ref a1), .val (.int (0 : Int32)), .val (.int (1 : Int32)), .val (.int p2)] [(.int (-2 : Int32))])) _
    exact retI X3 hx Bd.returns (hb hby d10_14) hr
  · show Q10_15 Z a1 p2 kc3 p4 h0 n0 _ T3.heap _
    rw [e3]
    exact ⟨rfl, N3, rfl⟩
theorem ef10_16 (m : MethodId) (a1 : Addr) (p2 : Int32) : entryFrame m #[(.ref a1), (.int (0 : Int32)), (.int (1 : Int32)), (.int p2)] 4 = mkF m 0 #[.val (.ref a1), .val (.int (0 : Int32)), .val (.int (1 : Int32)), .val (.int p2)] [] := by first | (simp [entryFrame, mkF, argsToLocals, Value.category]; done) | rfl
def Q10_16 (Z : State) (a1 : Addr) (p2 : Int32) (kc3 : ClassId) (p4 : Int32) (h0 : Heap) (n0 : Nat) (v : Option Value) (h : Heap) (L : List Loc) : Prop := v = some (.int (-1 : Int32)) ∧ Fr n0 L ∧ h = h0
set_option maxRecDepth 65536 in
set_option maxHeartbeats 40000000 in
theorem rm10_16 (l : Launch) (Z : State) (a0 : Array Value) (hw : ∀ d ∈ tables_1, d.before a0 Z = true) (ws : List Jvm.Cond) (a1 : Addr) (p2 : Int32) (kc3 : ClassId) (p4 : Int32) (h0 : Heap) (n0 : Nat) (Z0 : n0 ≤ h0.size) (V_a1 : Arv Z h0 a1 kc3 .int (1 : Int32) [(.int p4)] (.int (0 : Int32))) (hc1 : ¬ (p4 < p2)) (hc2 : p2 < p4) :
    MetFree l (⟨"java/util/Arrays", "binarySearch", "([IIII)I"⟩ : MethodName) (head1 (Jvm.Cond.code (⟨"java/util/Arrays", "binarySearch", "([IIII)I"⟩ : MethodName) jdk_65_method_58_code 4 (some .int) :: ws) ({ frames := 1, cells := 0, slots := 0, locals := 19 } : Room)) (fun a U => a = #[(.ref a1), (.int (0 : Int32)), (.int (1 : Int32)), (.int p2)] ∧ Z.Warmed39 U.vm ∧ U.heap = h0) (fun _ _ _ _ _ => True) (fun _ U o U' => ∃ v L, o = .returned v ∧ Q10_16 Z a1 p2 kc3 p4 h0 n0 v U'.heap L ∧ FrameEnd U o U' L ({ frames := 1, cells := 0, slots := 0, locals := 19 } : Room).cells ({ frames := 1, cells := 0, slots := 0, locals := 19 } : Room).slots) := by
  refine MetFree.of_bodySF (plainFor_of_name pn_java_util_Arrays) hisR ?_
  intro p e s m args below meth c s₁ Bd hml0 hP hK
  obtain ⟨rfl, hZ, hh⟩ := hP
  have hx := Bd.exec
  have hby := Bd.bytes
  have hml : c.maxLocals = 4 := hml0
  have hown : s.vm.findClass "java/util/Arrays" = some m.cls := findClass_of_methodNamed Bd.named
  have hnm := (name_of_methodNamed Bd.named Bd.method).1
  have X0 : Stand p l e ({ frames := 1, cells := 0, slots := 0, locals := 19 } : Room) s m #[(.ref a1), (.int (0 : Int32)), (.int (1 : Int32)), (.int p2)] below meth c s₁ [] 0 0 := Stand.of_body Bd
  have e0 : s₁.heap = h0 := by rw [← hh, Bd.state]; rfl
  have N0 := Fr.nil n0
  have pre0 : ∀ t, Steps p.tables e below (s₁.setTop (mkF m 0 #[.val (.ref a1), .val (.int (0 : Int32)), .val (.int (1 : Int32)), .val (.int p2)] [])) t → Steps p.tables e below (s₁.setTop (entryFrame m #[(.ref a1), (.int (0 : Int32)), (.int (1 : Int32)), (.int p2)] 4)) t := fun t k => castTop (ef10_16 m a1 p2) k
  obtain ⟨cl1, Ar1, -, Sz1, Ng1, -, -⟩ := id V_a1
  obtain ⟨_, _, ⟨T2, L2, k2, n2⟩, -, X2, ⟨Lc2, hQ2, l2, y2, z2⟩, st2⟩ := Jvm.LawKit.callS X0 hx (y := (⟨"java/util/Arrays", "rangeCheck", "(III)V"⟩ : MethodName)) hown (mvT hZ (own_w66 hw)) (mvT hZ (own_w67 hw)) (mvT hZ (own_w64 hw)) (mvT hZ (own_w68 hw)) (by decide) (backOf (W := 0) (rm11_8 l Z a0 hw []  h0 n0 Z0 ) hZ (own_w68 hw) (own_w64 hw) (by decide) (by decide)) (g := (mkF m 4 #[.val (.ref a1), .val (.int (0 : Int32)), .val (.int (1 : Int32)), .val (.int p2)] [(.int (1 : Int32)), (.int (0 : Int32)), (.int (1 : Int32))])) rfl (by rw [hml]; rfl) (argsL := [(.int (1 : Int32)), (.int (0 : Int32)), (.int (1 : Int32))]) (rest := []) (lenOf pd__III_V rfl) rfl (by show 2 * 0 + _ ≤ _; exact Nat.le_of_eq rfl) (hb hby d10_4) (fun _ _ => ⟨rfl, e0, (by decide : 0 + 0 ≤ _), (by decide : 0 + 0 ≤ _)⟩)
  dsimp only [Pt.U, Pt.locs, Pt.cells, Pt.slots] at X2 l2 y2 z2 st2 hQ2
  subst l2 y2 z2
  obtain ⟨rfl, N2q, e2⟩ := hQ2
  have N2 := Fr.app N0 N2q
  obtain ⟨_, _, ⟨T3, L3, k3, n3⟩, -, X3, ⟨Lc3, hQ3, l3, y3, z3⟩, st3⟩ := Jvm.LawKit.callS X2 hx (y := (⟨"java/util/Arrays", "binarySearch0", "([IIII)I"⟩ : MethodName)) hown (mvT hZ (own_w69 hw)) (mvT hZ (own_w70 hw)) (mvT hZ (own_w64 hw)) (mvT hZ (own_w71 hw)) (by decide) (backOf (W := 0) (rm12_13 l Z a0 hw [] a1 p2 kc3 p4 h0 n0 Z0 V_a1 hc1 hc2) hZ (own_w71 hw) (own_w64 hw) (by decide) (by decide)) (g := (mkF m 11 #[.val (.ref a1), .val (.int (0 : Int32)), .val (.int (1 : Int32)), .val (.int p2)] [(.int p2), (.int (1 : Int32)), (.int (0 : Int32)), (.ref a1)])) rfl (by rw [hml]; rfl) (argsL := [(.ref a1), (.int (0 : Int32)), (.int (1 : Int32)), (.int p2)]) (rest := []) (lenOf pd___IIII_I rfl) rfl (by show 2 * 0 + _ ≤ _; exact Nat.le_of_eq rfl) (hb hby d10_11) (fun _ _ => ⟨rfl, e2, (by decide : 0 + 0 ≤ _), (by decide : 0 + 0 ≤ _)⟩)
  dsimp only [Pt.U, Pt.locs, Pt.cells, Pt.slots] at X3 l3 y3 z3 st3 hQ3
  subst l3 y3 z3
  obtain ⟨rfl, N3q, e3⟩ := hQ3
  have N3 := Fr.app N2 N3q
  obtain ⟨fs, hr, hrun, hended, hW, hsame⟩ := X3.leave (v := some (.int (-1 : Int32))) (fun h => by rw [Bd.returns] at h; cases h)
  refine ⟨_, _, pre0 _ ?_, hrun, hended, _, _, rfl, ?_, ⟨_, rfl⟩, hW, hsame.mono (by decide) (by decide)⟩
  · show Steps p.tables e below (s₁.setTop (mkF m 0 #[.val (.ref a1), .val (.int (0 : Int32)), .val (.int (1 : Int32)), .val (.int p2)] [])) _
    refine XS.aloadN X0.here hx rfl (hb hby d10_0) rfl rfl ?_
    show Steps p.tables e below (s₁.setTop (mkF m 1 #[.val (.ref a1), .val (.int (0 : Int32)), .val (.int (1 : Int32)), .val (.int p2)] [(.ref a1)])) _
    refine X0.arraylength hx (by rw [e0]; exact Ar1.1) (State.isArrayOf_alike hZ.alike Ar1.2.1) (g := (mkF m 1 #[.val (.ref a1), .val (.int (0 : Int32)), .val (.int (1 : Int32)), .val (.int p2)] [(.ref a1)])) rfl rfl (hb hby d10_1) _ ?_
    rw [len_of Sz1 Ng1]
    show Steps p.tables e below (s₁.setTop (mkF m 2 #[.val (.ref a1), .val (.int (0 : Int32)), .val (.int (1 : Int32)), .val (.int p2)] [(.int (1 : Int32))])) _
    refine XS.iloadN X0.here hx rfl (hb hby d10_2) rfl ?_
    show Steps p.tables e below (s₁.setTop (mkF m 3 #[.val (.ref a1), .val (.int (0 : Int32)), .val (.int (1 : Int32)), .val (.int p2)] [(.int (0 : Int32)), (.int (1 : Int32))])) _
    refine XS.iloadN X0.here hx rfl (hb hby d10_3) rfl ?_
    show Steps p.tables e below (s₁.setTop (mkF m 4 #[.val (.ref a1), .val (.int (0 : Int32)), .val (.int (1 : Int32)), .val (.int p2)] [(.int (1 : Int32)), (.int (0 : Int32)), (.int (1 : Int32))])) _
    refine st2 _ ?_
    show Steps p.tables e below (T2.setTop (mkF m 7 #[.val (.ref a1), .val (.int (0 : Int32)), .val (.int (1 : Int32)), .val (.int p2)] [])) _
    refine XS.aloadN X2.here hx rfl (hb hby d10_7) rfl rfl ?_
    show Steps p.tables e below (T2.setTop (mkF m 8 #[.val (.ref a1), .val (.int (0 : Int32)), .val (.int (1 : Int32)), .val (.int p2)] [(.ref a1)])) _
    refine XS.iloadN X2.here hx rfl (hb hby d10_8) rfl ?_
    show Steps p.tables e below (T2.setTop (mkF m 9 #[.val (.ref a1), .val (.int (0 : Int32)), .val (.int (1 : Int32)), .val (.int p2)] [(.int (0 : Int32)), (.ref a1)])) _
    refine XS.iloadN X2.here hx rfl (hb hby d10_9) rfl ?_
    show Steps p.tables e below (T2.setTop (mkF m 10 #[.val (.ref a1), .val (.int (0 : Int32)), .val (.int (1 : Int32)), .val (.int p2)] [(.int (1 : Int32)), (.int (0 : Int32)), (.ref a1)])) _
    refine XS.iloadN X2.here hx rfl (hb hby d10_10) rfl ?_
    show Steps p.tables e below (T2.setTop (mkF m 11 #[.val (.ref a1), .val (.int (0 : Int32)), .val (.int (1 : Int32)), .val (.int p2)] [(.int p2), (.int (1 : Int32)), (.int (0 : Int32)), (.ref a1)])) _
    refine st3 _ ?_
    show Steps p.tables e below (T3.setTop (mkF m 14 #[.val (.ref a1), .val (.int (0 : Int32)), .val (.int (1 : Int32)), .val (.int p2)] [(.int (-1 : Int32))])) _
    exact retI X3 hx Bd.returns (hb hby d10_14) hr
  · show Q10_16 Z a1 p2 kc3 p4 h0 n0 _ T3.heap _
    rw [e3]
    exact ⟨rfl, N3, rfl⟩
theorem ef10_17 (m : MethodId) (a1 : Addr) (p2 : Int32) : entryFrame m #[(.ref a1), (.int (0 : Int32)), (.int (1 : Int32)), (.int p2)] 4 = mkF m 0 #[.val (.ref a1), .val (.int (0 : Int32)), .val (.int (1 : Int32)), .val (.int p2)] [] := by first | (simp [entryFrame, mkF, argsToLocals, Value.category]; done) | rfl
def Q10_17 (Z : State) (a1 : Addr) (p2 : Int32) (kc3 : ClassId) (p4 : Int32) (h0 : Heap) (n0 : Nat) (v : Option Value) (h : Heap) (L : List Loc) : Prop := v = some (.int (0 : Int32)) ∧ Fr n0 L ∧ h = h0
set_option maxRecDepth 65536 in
set_option maxHeartbeats 40000000 in
theorem rm10_17 (l : Launch) (Z : State) (a0 : Array Value) (hw : ∀ d ∈ tables_1, d.before a0 Z = true) (ws : List Jvm.Cond) (a1 : Addr) (p2 : Int32) (kc3 : ClassId) (p4 : Int32) (h0 : Heap) (n0 : Nat) (Z0 : n0 ≤ h0.size) (V_a1 : Arv Z h0 a1 kc3 .int (1 : Int32) [(.int p4)] (.int (0 : Int32))) (hc1 : ¬ (p4 < p2)) (hc2 : ¬ (p2 < p4)) :
    MetFree l (⟨"java/util/Arrays", "binarySearch", "([IIII)I"⟩ : MethodName) (head1 (Jvm.Cond.code (⟨"java/util/Arrays", "binarySearch", "([IIII)I"⟩ : MethodName) jdk_65_method_58_code 4 (some .int) :: ws) ({ frames := 1, cells := 0, slots := 0, locals := 19 } : Room)) (fun a U => a = #[(.ref a1), (.int (0 : Int32)), (.int (1 : Int32)), (.int p2)] ∧ Z.Warmed39 U.vm ∧ U.heap = h0) (fun _ _ _ _ _ => True) (fun _ U o U' => ∃ v L, o = .returned v ∧ Q10_17 Z a1 p2 kc3 p4 h0 n0 v U'.heap L ∧ FrameEnd U o U' L ({ frames := 1, cells := 0, slots := 0, locals := 19 } : Room).cells ({ frames := 1, cells := 0, slots := 0, locals := 19 } : Room).slots) := by
  refine MetFree.of_bodySF (plainFor_of_name pn_java_util_Arrays) hisR ?_
  intro p e s m args below meth c s₁ Bd hml0 hP hK
  obtain ⟨rfl, hZ, hh⟩ := hP
  have hx := Bd.exec
  have hby := Bd.bytes
  have hml : c.maxLocals = 4 := hml0
  have hown : s.vm.findClass "java/util/Arrays" = some m.cls := findClass_of_methodNamed Bd.named
  have hnm := (name_of_methodNamed Bd.named Bd.method).1
  have X0 : Stand p l e ({ frames := 1, cells := 0, slots := 0, locals := 19 } : Room) s m #[(.ref a1), (.int (0 : Int32)), (.int (1 : Int32)), (.int p2)] below meth c s₁ [] 0 0 := Stand.of_body Bd
  have e0 : s₁.heap = h0 := by rw [← hh, Bd.state]; rfl
  have N0 := Fr.nil n0
  have pre0 : ∀ t, Steps p.tables e below (s₁.setTop (mkF m 0 #[.val (.ref a1), .val (.int (0 : Int32)), .val (.int (1 : Int32)), .val (.int p2)] [])) t → Steps p.tables e below (s₁.setTop (entryFrame m #[(.ref a1), (.int (0 : Int32)), (.int (1 : Int32)), (.int p2)] 4)) t := fun t k => castTop (ef10_17 m a1 p2) k
  obtain ⟨cl1, Ar1, -, Sz1, Ng1, -, -⟩ := id V_a1
  obtain ⟨_, _, ⟨T2, L2, k2, n2⟩, -, X2, ⟨Lc2, hQ2, l2, y2, z2⟩, st2⟩ := Jvm.LawKit.callS X0 hx (y := (⟨"java/util/Arrays", "rangeCheck", "(III)V"⟩ : MethodName)) hown (mvT hZ (own_w66 hw)) (mvT hZ (own_w67 hw)) (mvT hZ (own_w64 hw)) (mvT hZ (own_w68 hw)) (by decide) (backOf (W := 0) (rm11_8 l Z a0 hw []  h0 n0 Z0 ) hZ (own_w68 hw) (own_w64 hw) (by decide) (by decide)) (g := (mkF m 4 #[.val (.ref a1), .val (.int (0 : Int32)), .val (.int (1 : Int32)), .val (.int p2)] [(.int (1 : Int32)), (.int (0 : Int32)), (.int (1 : Int32))])) rfl (by rw [hml]; rfl) (argsL := [(.int (1 : Int32)), (.int (0 : Int32)), (.int (1 : Int32))]) (rest := []) (lenOf pd__III_V rfl) rfl (by show 2 * 0 + _ ≤ _; exact Nat.le_of_eq rfl) (hb hby d10_4) (fun _ _ => ⟨rfl, e0, (by decide : 0 + 0 ≤ _), (by decide : 0 + 0 ≤ _)⟩)
  dsimp only [Pt.U, Pt.locs, Pt.cells, Pt.slots] at X2 l2 y2 z2 st2 hQ2
  subst l2 y2 z2
  obtain ⟨rfl, N2q, e2⟩ := hQ2
  have N2 := Fr.app N0 N2q
  obtain ⟨_, _, ⟨T3, L3, k3, n3⟩, -, X3, ⟨Lc3, hQ3, l3, y3, z3⟩, st3⟩ := Jvm.LawKit.callS X2 hx (y := (⟨"java/util/Arrays", "binarySearch0", "([IIII)I"⟩ : MethodName)) hown (mvT hZ (own_w69 hw)) (mvT hZ (own_w70 hw)) (mvT hZ (own_w64 hw)) (mvT hZ (own_w71 hw)) (by decide) (backOf (W := 0) (rm12_14 l Z a0 hw [] a1 p2 kc3 p4 h0 n0 Z0 V_a1 hc1 hc2) hZ (own_w71 hw) (own_w64 hw) (by decide) (by decide)) (g := (mkF m 11 #[.val (.ref a1), .val (.int (0 : Int32)), .val (.int (1 : Int32)), .val (.int p2)] [(.int p2), (.int (1 : Int32)), (.int (0 : Int32)), (.ref a1)])) rfl (by rw [hml]; rfl) (argsL := [(.ref a1), (.int (0 : Int32)), (.int (1 : Int32)), (.int p2)]) (rest := []) (lenOf pd___IIII_I rfl) rfl (by show 2 * 0 + _ ≤ _; exact Nat.le_of_eq rfl) (hb hby d10_11) (fun _ _ => ⟨rfl, e2, (by decide : 0 + 0 ≤ _), (by decide : 0 + 0 ≤ _)⟩)
  dsimp only [Pt.U, Pt.locs, Pt.cells, Pt.slots] at X3 l3 y3 z3 st3 hQ3
  subst l3 y3 z3
  obtain ⟨rfl, N3q, e3⟩ := hQ3
  have N3 := Fr.app N2 N3q
  obtain ⟨fs, hr, hrun, hended, hW, hsame⟩ := X3.leave (v := some (.int (0 : Int32))) (fun h => by rw [Bd.returns] at h; cases h)
  refine ⟨_, _, pre0 _ ?_, hrun, hended, _, _, rfl, ?_, ⟨_, rfl⟩, hW, hsame.mono (by decide) (by decide)⟩
  · show Steps p.tables e below (s₁.setTop (mkF m 0 #[.val (.ref a1), .val (.int (0 : Int32)), .val (.int (1 : Int32)), .val (.int p2)] [])) _
    refine XS.aloadN X0.here hx rfl (hb hby d10_0) rfl rfl ?_
    show Steps p.tables e below (s₁.setTop (mkF m 1 #[.val (.ref a1), .val (.int (0 : Int32)), .val (.int (1 : Int32)), .val (.int p2)] [(.ref a1)])) _
    refine X0.arraylength hx (by rw [e0]; exact Ar1.1) (State.isArrayOf_alike hZ.alike Ar1.2.1) (g := (mkF m 1 #[.val (.ref a1), .val (.int (0 : Int32)), .val (.int (1 : Int32)), .val (.int p2)] [(.ref a1)])) rfl rfl (hb hby d10_1) _ ?_
    rw [len_of Sz1 Ng1]
    show Steps p.tables e below (s₁.setTop (mkF m 2 #[.val (.ref a1), .val (.int (0 : Int32)), .val (.int (1 : Int32)), .val (.int p2)] [(.int (1 : Int32))])) _
    refine XS.iloadN X0.here hx rfl (hb hby d10_2) rfl ?_
    show Steps p.tables e below (s₁.setTop (mkF m 3 #[.val (.ref a1), .val (.int (0 : Int32)), .val (.int (1 : Int32)), .val (.int p2)] [(.int (0 : Int32)), (.int (1 : Int32))])) _
    refine XS.iloadN X0.here hx rfl (hb hby d10_3) rfl ?_
    show Steps p.tables e below (s₁.setTop (mkF m 4 #[.val (.ref a1), .val (.int (0 : Int32)), .val (.int (1 : Int32)), .val (.int p2)] [(.int (1 : Int32)), (.int (0 : Int32)), (.int (1 : Int32))])) _
    refine st2 _ ?_
    show Steps p.tables e below (T2.setTop (mkF m 7 #[.val (.ref a1), .val (.int (0 : Int32)), .val (.int (1 : Int32)), .val (.int p2)] [])) _
    refine XS.aloadN X2.here hx rfl (hb hby d10_7) rfl rfl ?_
    show Steps p.tables e below (T2.setTop (mkF m 8 #[.val (.ref a1), .val (.int (0 : Int32)), .val (.int (1 : Int32)), .val (.int p2)] [(.ref a1)])) _
    refine XS.iloadN X2.here hx rfl (hb hby d10_8) rfl ?_
    show Steps p.tables e below (T2.setTop (mkF m 9 #[.val (.ref a1), .val (.int (0 : Int32)), .val (.int (1 : Int32)), .val (.int p2)] [(.int (0 : Int32)), (.ref a1)])) _
    refine XS.iloadN X2.here hx rfl (hb hby d10_9) rfl ?_
    show Steps p.tables e below (T2.setTop (mkF m 10 #[.val (.ref a1), .val (.int (0 : Int32)), .val (.int (1 : Int32)), .val (.int p2)] [(.int (1 : Int32)), (.int (0 : Int32)), (.ref a1)])) _
    refine XS.iloadN X2.here hx rfl (hb hby d10_10) rfl ?_
    show Steps p.tables e below (T2.setTop (mkF m 11 #[.val (.ref a1), .val (.int (0 : Int32)), .val (.int (1 : Int32)), .val (.int p2)] [(.int p2), (.int (1 : Int32)), (.int (0 : Int32)), (.ref a1)])) _
    refine st3 _ ?_
    show Steps p.tables e below (T3.setTop (mkF m 14 #[.val (.ref a1), .val (.int (0 : Int32)), .val (.int (1 : Int32)), .val (.int p2)] [(.int (0 : Int32))])) _
    exact retI X3 hx Bd.returns (hb hby d10_14) hr
  · show Q10_17 Z a1 p2 kc3 p4 h0 n0 _ T3.heap _
    rw [e3]
    exact ⟨rfl, N3, rfl⟩
theorem ef9_18 (m : MethodId) (a1 : Addr) (p2 : Int32) : entryFrame m #[(.ref a1), (.int p2)] 3 = mkF m 0 #[.val (.ref a1), .val (.int p2), .unset] [] := by first | (simp [entryFrame, mkF, argsToLocals, Value.category]; done) | rfl
def Q9_18 (Z : State) (a1 : Addr) (p2 : Int32) (a3 : Addr) (kc4 : ClassId) (p5 : Int32) (a6 : Addr) (h0 : Heap) (n0 : Nat) (v : Option Value) (h : Heap) (L : List Loc) : Prop := v = some (.ref a6) ∧ Fr n0 L ∧ h = h0
set_option maxRecDepth 65536 in
set_option maxHeartbeats 40000000 in
theorem rm9_18 (l : Launch) (Z : State) (a0 : Array Value) (hw : ∀ d ∈ tables_1, d.before a0 Z = true) (ws : List Jvm.Cond) (a1 : Addr) (p2 : Int32) (a3 : Addr) (kc4 : ClassId) (p5 : Int32) (a6 : Addr) (h0 : Heap) (n0 : Nat) (Z0 : n0 ≤ h0.size) (F_a1_indices : Fld Z h0 a1 "com/example/hubclear/hubclear/clearing/SparseVector" "indices" "[I" (.ref a3)) (F_a1_size : Fld Z h0 a1 "com/example/hubclear/hubclear/clearing/SparseVector" "size" "I" (.int (1 : Int32))) (V_a3 : Arv Z h0 a3 kc4 .int (1 : Int32) [(.int p5)] (.int (0 : Int32))) (hc3 : p5 < p2) (S_Rational_ZERO : Sta Z h0 "com/example/hubclear/hubclear/Rational" "ZERO" "Lcom/example/hubclear/hubclear/Rational;" (.ref a6)) :
    MetFree l (⟨"com/example/hubclear/hubclear/clearing/SparseVector", "get", "(I)Lcom/example/hubclear/hubclear/Rational;"⟩ : MethodName) (head1 (Jvm.Cond.code (⟨"com/example/hubclear/hubclear/clearing/SparseVector", "get", "(I)Lcom/example/hubclear/hubclear/Rational;"⟩ : MethodName) prog_51_method_6_code 3 (some (.object "com/example/hubclear/hubclear/Rational")) :: ws) ({ frames := 2, cells := 0, slots := 0, locals := 34 } : Room)) (fun a U => a = #[(.ref a1), (.int p2)] ∧ Z.Warmed39 U.vm ∧ U.heap = h0) (fun _ _ _ _ _ => True) (fun _ U o U' => ∃ v L, o = .returned v ∧ Q9_18 Z a1 p2 a3 kc4 p5 a6 h0 n0 v U'.heap L ∧ FrameEnd U o U' L ({ frames := 2, cells := 0, slots := 0, locals := 34 } : Room).cells ({ frames := 2, cells := 0, slots := 0, locals := 34 } : Room).slots) := by
  refine MetFree.of_bodySF (plainFor_of_name pn_com_example_hubclear_hubclear_clearing_SparseVector) hisR ?_
  intro p e s m args below meth c s₁ Bd hml0 hP hK
  obtain ⟨rfl, hZ, hh⟩ := hP
  have hx := Bd.exec
  have hby := Bd.bytes
  have hml : c.maxLocals = 3 := hml0
  have hown : s.vm.findClass "com/example/hubclear/hubclear/clearing/SparseVector" = some m.cls := findClass_of_methodNamed Bd.named
  have hnm := (name_of_methodNamed Bd.named Bd.method).1
  have X0 : Stand p l e ({ frames := 2, cells := 0, slots := 0, locals := 34 } : Room) s m #[(.ref a1), (.int p2)] below meth c s₁ [] 0 0 := Stand.of_body Bd
  have e0 : s₁.heap = h0 := by rw [← hh, Bd.state]; rfl
  have N0 := Fr.nil n0
  have pre0 : ∀ t, Steps p.tables e below (s₁.setTop (mkF m 0 #[.val (.ref a1), .val (.int p2), .unset] [])) t → Steps p.tables e below (s₁.setTop (entryFrame m #[(.ref a1), (.int p2)] 3)) t := fun t k => castTop (ef9_18 m a1 p2) k
  obtain ⟨T1, X1, e1, st1⟩ := getF X0 hx hZ hown (host := "") (Or.inl (own_w19 hw)) Via.refl e0 F_a1_indices (g := (mkF m 1 #[.val (.ref a1), .val (.int p2), .unset] [(.ref a1)])) rfl rfl (hb hby d9_1)
  obtain ⟨T2, X2, e2, st2⟩ := getF X1 hx hZ hown (host := "") (Or.inl (own_w23 hw)) Via.refl e1 F_a1_size (g := (mkF m 6 #[.val (.ref a1), .val (.int p2), .unset] [(.ref a1), (.int (0 : Int32)), (.ref a3)])) rfl rfl (hb hby d9_6)
  obtain ⟨_, _, ⟨T3, L3, k3, n3⟩, -, X3, ⟨Lc3, hQ3, l3, y3, z3⟩, st3⟩ := Jvm.LawKit.callS X2 hx (y := (⟨"java/util/Arrays", "binarySearch", "([IIII)I"⟩ : MethodName)) hown (mvT hZ (own_w62 hw)) (mvT hZ (own_w63 hw)) (mvT hZ (own_w64 hw)) (mvT hZ (own_w65 hw)) (by decide) (backOf (W := 0) (rm10_15 l Z a0 hw [] a3 p2 kc4 p5 h0 n0 Z0 V_a3 hc3) hZ (own_w65 hw) (own_w64 hw) (by decide) (by decide)) (g := (mkF m 10 #[.val (.ref a1), .val (.int p2), .unset] [(.int p2), (.int (1 : Int32)), (.int (0 : Int32)), (.ref a3)])) rfl (by rw [hml]; rfl) (argsL := [(.ref a3), (.int (0 : Int32)), (.int (1 : Int32)), (.int p2)]) (rest := []) (lenOf pd___IIII_I rfl) rfl (by show 2 * 0 + _ ≤ _; exact Nat.le_of_eq rfl) (hb hby d9_10) (fun _ _ => ⟨rfl, e2, (by decide : 0 + 0 ≤ _), (by decide : 0 + 0 ≤ _)⟩)
  dsimp only [Pt.U, Pt.locs, Pt.cells, Pt.slots] at X3 l3 y3 z3 st3 hQ3
  subst l3 y3 z3
  obtain ⟨rfl, N3q, e3⟩ := hQ3
  have N3 := Fr.app N0 N3q
  obtain ⟨T4, X4, e4, st4⟩ := getS2 X3 hx hZ hown (host := "") (Or.inl (own_w78 hw)) Via.refl e3 S_Rational_ZERO (g := (mkF m 18 #[.val (.ref a1), .val (.int p2), .val (.int (-2 : Int32))] [])) rfl (hb hby d9_18)
  obtain ⟨fs, hr, hrun, hended, hW, hsame⟩ := X4.leave (v := some (.ref a6)) (fun h => by rw [Bd.returns] at h; cases h)
  refine ⟨_, _, pre0 _ ?_, hrun, hended, _, _, rfl, ?_, ⟨_, rfl⟩, hW, hsame.mono (by decide) (by decide)⟩
  · show Steps p.tables e below (s₁.setTop (mkF m 0 #[.val (.ref a1), .val (.int p2), .unset] [])) _
    refine XS.aloadN X0.here hx rfl (hb hby d9_0) rfl rfl ?_
    show Steps p.tables e below (s₁.setTop (mkF m 1 #[.val (.ref a1), .val (.int p2), .unset] [(.ref a1)])) _
    refine st1 _ ?_
    show Steps p.tables e below (T1.setTop (mkF m 4 #[.val (.ref a1), .val (.int p2), .unset] [(.ref a3)])) _
    refine XS.iconst X1.here hx rfl (hb hby d9_4) ?_
    show Steps p.tables e below (T1.setTop (mkF m 5 #[.val (.ref a1), .val (.int p2), .unset] [(.int (0 : Int32)), (.ref a3)])) _
    refine XS.aloadN X1.here hx rfl (hb hby d9_5) rfl rfl ?_
    show Steps p.tables e below (T1.setTop (mkF m 6 #[.val (.ref a1), .val (.int p2), .unset] [(.ref a1), (.int (0 : Int32)), (.ref a3)])) _
    refine st2 _ ?_
    show Steps p.tables e below (T2.setTop (mkF m 9 #[.val (.ref a1), .val (.int p2), .unset] [(.int (1 : Int32)), (.int (0 : Int32)), (.ref a3)])) _
    refine XS.iloadN X2.here hx rfl (hb hby d9_9) rfl ?_
    show Steps p.tables e below (T2.setTop (mkF m 10 #[.val (.ref a1), .val (.int p2), .unset] [(.int p2), (.int (1 : Int32)), (.int (0 : Int32)), (.ref a3)])) _
    refine st3 _ ?_
    show Steps p.tables e below (T3.setTop (mkF m 13 #[.val (.ref a1), .val (.int p2), .unset] [(.int (-2 : Int32))])) _
    refine XS.istoreN X3.here hx rfl (hb hby d9_13) rfl (l' := #[.val (.ref a1), .val (.int p2), .val (.int (-2 : Int32))]) rfl ?_
    show Steps p.tables e below (T3.setTop (mkF m 14 #[.val (.ref a1), .val (.int p2), .val (.int (-2 : Int32))] [])) _
    refine XS.iloadN X3.here hx rfl (hb hby d9_14) rfl ?_
    show Steps p.tables e below (T3.setTop (mkF m 15 #[.val (.ref a1), .val (.int p2), .val (.int (-2 : Int32))] [(.int (-2 : Int32))])) _
    refine XS.ifNo X3.here hx rfl (hb hby d9_15) rfl ((if0 _ _).trans (tlt (by decide : (-2 : Int32) < (0 : Int32))).2.1) ?_
    show Steps p.tables e below (T3.setTop (mkF m 18 #[.val (.ref a1), .val (.int p2), .val (.int (-2 : Int32))] [])) _
    refine st4 _ ?_
    show Steps p.tables e below (T4.setTop (mkF m 21 #[.val (.ref a1), .val (.int p2), .val (.int (-2 : Int32))] [(.ref a6)])) _
    refine XS.goto X4.here hx rfl (pc0 := 21) (pc' := 30) rfl (hb hby d9_21) (by decide) (by decide) ?_
    show Steps p.tables e below (T4.setTop (mkF m 30 #[.val (.ref a1), .val (.int p2), .val (.int (-2 : Int32))] [(.ref a6)])) _
    exact retOut X4 hx Bd.returns rfl (Or.inr (Or.inr (Or.inr (Or.inr ⟨rfl, rfl, rfl⟩)))) (hb hby d9_30) hr
  · show Q9_18 Z a1 p2 a3 kc4 p5 a6 h0 n0 _ T4.heap _
    rw [e4]
    exact ⟨rfl, N3, rfl⟩
theorem ef7_19 (m : MethodId) (a1 : Addr) (a2 : Addr) : entryFrame m #[(.ref a1), (.ref a2)] 3 = mkF m 0 #[.val (.ref a1), .val (.ref a2), .unset] [] := by first | (simp [entryFrame, mkF, argsToLocals, Value.category]; done) | rfl
def Q7_19 (Z : State) (a1 : Addr) (a2 : Addr) (h0 : Heap) (n0 : Nat) (v : Option Value) (h : Heap) (L : List Loc) : Prop := v = some (.int (0 : Int32)) ∧ Fr n0 L ∧ h = h0
set_option maxRecDepth 65536 in
set_option maxHeartbeats 40000000 in
theorem rm7_19 (l : Launch) (Z : State) (a0 : Array Value) (hw : ∀ d ∈ tables_1, d.before a0 Z = true) (ws : List Jvm.Cond) (a1 : Addr) (a2 : Addr) (h0 : Heap) (n0 : Nat) (Z0 : n0 ≤ h0.size) (E_a2 : Exa Z h0 a2 "com/example/hubclear/hubclear/Rational") (E_a1 : Exa Z h0 a1 "com/example/hubclear/hubclear/Rational") (F_a1_bigNumerator : Fld Z h0 a1 "com/example/hubclear/hubclear/Rational" "bigNumerator" "Ljava/math/BigInteger;" .null) (F_a2_bigNumerator : Fld Z h0 a2 "com/example/hubclear/hubclear/Rational" "bigNumerator" "Ljava/math/BigInteger;" .null) (F_a1_numerator : Fld Z h0 a1 "com/example/hubclear/hubclear/Rational" "numerator" "J" (.long (1 : Int64))) (F_a2_numerator : Fld Z h0 a2 "com/example/hubclear/hubclear/Rational" "numerator" "J" (.long (0 : Int64))) :
    MetFree l (⟨"com/example/hubclear/hubclear/Rational", "equals", "(Ljava/lang/Object;)Z"⟩ : MethodName) (head1 (Jvm.Cond.code (⟨"com/example/hubclear/hubclear/Rational", "equals", "(Ljava/lang/Object;)Z"⟩ : MethodName) prog_18_method_28_code 3 (some .boolean) :: ws) ({ frames := 1, cells := 0, slots := 0, locals := 12 } : Room)) (fun a U => a = #[(.ref a1), (.ref a2)] ∧ Z.Warmed39 U.vm ∧ U.heap = h0) (fun _ _ _ _ _ => True) (fun _ U o U' => ∃ v L, o = .returned v ∧ Q7_19 Z a1 a2 h0 n0 v U'.heap L ∧ FrameEnd U o U' L ({ frames := 1, cells := 0, slots := 0, locals := 12 } : Room).cells ({ frames := 1, cells := 0, slots := 0, locals := 12 } : Room).slots) := by
  refine MetFree.of_bodySF (plainFor_of_name pn_com_example_hubclear_hubclear_Rational) hisR ?_
  intro p e s m args below meth c s₁ Bd hml0 hP hK
  obtain ⟨rfl, hZ, hh⟩ := hP
  have hx := Bd.exec
  have hby := Bd.bytes
  have hml : c.maxLocals = 3 := hml0
  have hown : s.vm.findClass "com/example/hubclear/hubclear/Rational" = some m.cls := findClass_of_methodNamed Bd.named
  have hnm := (name_of_methodNamed Bd.named Bd.method).1
  have X0 : Stand p l e ({ frames := 1, cells := 0, slots := 0, locals := 12 } : Room) s m #[(.ref a1), (.ref a2)] below meth c s₁ [] 0 0 := Stand.of_body Bd
  have e0 : s₁.heap = h0 := by rw [← hh, Bd.state]; rfl
  have N0 := Fr.nil n0
  have pre0 : ∀ t, Steps p.tables e below (s₁.setTop (mkF m 0 #[.val (.ref a1), .val (.ref a2), .unset] [])) t → Steps p.tables e below (s₁.setTop (entryFrame m #[(.ref a1), (.ref a2)] 3)) t := fun t k => castTop (ef7_19 m a1 a2) k
  obtain ⟨T1, X1, e1, st1⟩ := instY X0 hx hZ hown (own_w46 hw) e0 (Ins.self E_a2) (g := (mkF m 1 #[.val (.ref a1), .val (.ref a2), .unset] [(.ref a2)])) rfl rfl (hb hby d7_1)
  obtain ⟨T2, X2, e2, st2⟩ := castY X1 hx hZ hown (own_w46 hw) e1 (Ins.self E_a2) (g := (mkF m 8 #[.val (.ref a1), .val (.ref a2), .unset] [(.ref a2)])) rfl rfl (hb hby d7_8)
  obtain ⟨cq3, q3, q3'⟩ := E_a1.cell
  obtain ⟨_, _, ⟨T3, L3, k3, n3⟩, -, X3, ⟨Lc3, hQ3, l3, y3, z3⟩, st3⟩ := X2.privateBack hx (y := (⟨"com/example/hubclear/hubclear/Rational", "isSmall", "()Z"⟩ : MethodName)) hown (mvT hZ (own_w47 hw)) (mvT hZ (own_w48 hw)) (own_sel_priv (args := #[]) (y := (⟨"com/example/hubclear/hubclear/Rational", "isSmall", "()Z"⟩ : MethodName)) (mvT hZ (own_w44 hw)) rfl (Cond.privateMethod_at (mvP hZ (own_w49 hw) (args := #[]))) (mvT hZ (own_w48 hw)) (by decide)) (Cond.privateMethod_at (mvP hZ (own_w49 hw) (args := #[]))) (mvT hZ (own_w50 hw)) (by decide) (backOf (W := 0) (rm8_6 l Z a0 hw [] a1 h0 n0 Z0 F_a1_bigNumerator) hZ (own_w50 hw) (own_w10 hw) (by decide) (by decide)) (g := (mkF m 18 #[.val (.ref a1), .val (.ref a2), .val (.ref a2)] [(.ref a1)])) rfl (by rw [hml]; rfl) (Steps.refl _) (a := a1) (by rw [e2]; exact q3) q3' (argsL := []) (rest := []) (lenOf pd___Z rfl) rfl (by show 2 * 0 + _ ≤ _; exact Nat.le_of_eq rfl) (hb hby d7_18) (fun _ _ => ⟨rfl, e2, (by decide : 0 + 0 ≤ _), (by decide : 0 + 0 ≤ _)⟩)
  dsimp only [Pt.U, Pt.locs, Pt.cells, Pt.slots] at X3 l3 y3 z3 st3 hQ3
  subst l3 y3 z3
  obtain ⟨rfl, N3q, e3⟩ := hQ3
  have N3 := Fr.app N0 N3q
  obtain ⟨cq4, q4, q4'⟩ := E_a1.cell
  obtain ⟨_, _, ⟨T4, L4, k4, n4⟩, -, X4, ⟨Lc4, hQ4, l4, y4, z4⟩, st4⟩ := X3.privateBack hx (y := (⟨"com/example/hubclear/hubclear/Rational", "isSmall", "()Z"⟩ : MethodName)) hown (mvT hZ (own_w47 hw)) (mvT hZ (own_w48 hw)) (own_sel_priv (args := #[]) (y := (⟨"com/example/hubclear/hubclear/Rational", "isSmall", "()Z"⟩ : MethodName)) (mvT hZ (own_w44 hw)) rfl (Cond.privateMethod_at (mvP hZ (own_w49 hw) (args := #[]))) (mvT hZ (own_w48 hw)) (by decide)) (Cond.privateMethod_at (mvP hZ (own_w49 hw) (args := #[]))) (mvT hZ (own_w50 hw)) (by decide) (backOf (W := 0) (rm8_6 l Z a0 hw [] a1 h0 n0 Z0 F_a1_bigNumerator) hZ (own_w50 hw) (own_w10 hw) (by decide) (by decide)) (g := (mkF m 32 #[.val (.ref a1), .val (.ref a2), .val (.ref a2)] [(.ref a1)])) rfl (by rw [hml]; rfl) (Steps.refl _) (a := a1) (by rw [e3]; exact q4) q4' (argsL := []) (rest := []) (lenOf pd___Z rfl) rfl (by show 2 * 0 + _ ≤ _; exact Nat.le_of_eq rfl) (hb hby d7_32) (fun _ _ => ⟨rfl, e3, (by decide : 0 + 0 ≤ _), (by decide : 0 + 0 ≤ _)⟩)
  dsimp only [Pt.U, Pt.locs, Pt.cells, Pt.slots] at X4 l4 y4 z4 st4 hQ4
  subst l4 y4 z4
  obtain ⟨rfl, N4q, e4⟩ := hQ4
  have N4 := Fr.app N3 N4q
  obtain ⟨cq5, q5, q5'⟩ := E_a2.cell
  obtain ⟨_, _, ⟨T5, L5, k5, n5⟩, -, X5, ⟨Lc5, hQ5, l5, y5, z5⟩, st5⟩ := X4.privateBack hx (y := (⟨"com/example/hubclear/hubclear/Rational", "isSmall", "()Z"⟩ : MethodName)) hown (mvT hZ (own_w47 hw)) (mvT hZ (own_w48 hw)) (own_sel_priv (args := #[]) (y := (⟨"com/example/hubclear/hubclear/Rational", "isSmall", "()Z"⟩ : MethodName)) (mvT hZ (own_w44 hw)) rfl (Cond.privateMethod_at (mvP hZ (own_w49 hw) (args := #[]))) (mvT hZ (own_w48 hw)) (by decide)) (Cond.privateMethod_at (mvP hZ (own_w49 hw) (args := #[]))) (mvT hZ (own_w50 hw)) (by decide) (backOf (W := 0) (rm8_6 l Z a0 hw [] a2 h0 n0 Z0 F_a2_bigNumerator) hZ (own_w50 hw) (own_w10 hw) (by decide) (by decide)) (g := (mkF m 39 #[.val (.ref a1), .val (.ref a2), .val (.ref a2)] [(.ref a2)])) rfl (by rw [hml]; rfl) (Steps.refl _) (a := a2) (by rw [e4]; exact q5) q5' (argsL := []) (rest := []) (lenOf pd___Z rfl) rfl (by show 2 * 0 + _ ≤ _; exact Nat.le_of_eq rfl) (hb hby d7_39) (fun _ _ => ⟨rfl, e4, (by decide : 0 + 0 ≤ _), (by decide : 0 + 0 ≤ _)⟩)
  dsimp only [Pt.U, Pt.locs, Pt.cells, Pt.slots] at X5 l5 y5 z5 st5 hQ5
  subst l5 y5 z5
  obtain ⟨rfl, N5q, e5⟩ := hQ5
  have N5 := Fr.app N4 N5q
  obtain ⟨T6, X6, e6, st6⟩ := getF X5 hx hZ hown (host := "") (Or.inl (own_w53 hw)) Via.refl e5 F_a1_numerator (g := (mkF m 46 #[.val (.ref a1), .val (.ref a2), .val (.ref a2)] [(.ref a1)])) rfl rfl (hb hby d7_46)
  obtain ⟨T7, X7, e7, st7⟩ := getF X6 hx hZ hown (host := "") (Or.inl (own_w53 hw)) Via.refl e6 F_a2_numerator (g := (mkF m 50 #[.val (.ref a1), .val (.ref a2), .val (.ref a2)] [(.ref a2), (.long (1 : Int64))])) rfl rfl (hb hby d7_50)
  obtain ⟨fs, hr, hrun, hended, hW, hsame⟩ := X7.leave (v := some (.int (0 : Int32))) (fun h => by rw [Bd.returns] at h; cases h)
  refine ⟨_, _, pre0 _ ?_, hrun, hended, _, _, rfl, ?_, ⟨_, rfl⟩, hW, hsame.mono (by decide) (by decide)⟩
  · show Steps p.tables e below (s₁.setTop (mkF m 0 #[.val (.ref a1), .val (.ref a2), .unset] [])) _
    refine XS.aloadN X0.here hx rfl (hb hby d7_0) rfl rfl ?_
    show Steps p.tables e below (s₁.setTop (mkF m 1 #[.val (.ref a1), .val (.ref a2), .unset] [(.ref a2)])) _
    refine st1 _ ?_
    show Steps p.tables e below (T1.setTop (mkF m 4 #[.val (.ref a1), .val (.ref a2), .unset] [(.int (1 : Int32))])) _
    refine XS.ifNo X1.here hx rfl (hb hby d7_4) rfl ((if0 _ _).trans (feq (by decide : ¬ ((1 : Int32) = (0 : Int32)))).1) ?_
    show Steps p.tables e below (T1.setTop (mkF m 7 #[.val (.ref a1), .val (.ref a2), .unset] [])) _
    refine XS.aloadN X1.here hx rfl (hb hby d7_7) rfl rfl ?_
    show Steps p.tables e below (T1.setTop (mkF m 8 #[.val (.ref a1), .val (.ref a2), .unset] [(.ref a2)])) _
    refine st2 _ ?_
    show Steps p.tables e below (T2.setTop (mkF m 11 #[.val (.ref a1), .val (.ref a2), .unset] [(.ref a2)])) _
    refine XS.astoreN X2.here hx rfl (hb hby d7_11) rfl rfl (l' := #[.val (.ref a1), .val (.ref a2), .val (.ref a2)]) rfl ?_
    show Steps p.tables e below (T2.setTop (mkF m 12 #[.val (.ref a1), .val (.ref a2), .val (.ref a2)] [])) _
    refine XS.goto X2.here hx rfl (pc0 := 12) (pc' := 17) rfl (hb hby d7_12) (by decide) (by decide) ?_
    show Steps p.tables e below (T2.setTop (mkF m 17 #[.val (.ref a1), .val (.ref a2), .val (.ref a2)] [])) _
    refine XS.aloadN X2.here hx rfl (hb hby d7_17) rfl rfl ?_
    show Steps p.tables e below (T2.setTop (mkF m 18 #[.val (.ref a1), .val (.ref a2), .val (.ref a2)] [(.ref a1)])) _
    refine st3.trans ?_
    show Steps p.tables e below (T3.setTop (mkF m 21 #[.val (.ref a1), .val (.ref a2), .val (.ref a2)] [(.int (1 : Int32))])) _
    refine XS.ifYes X3.here hx rfl (pc0 := 21) (pc' := 31) rfl (hb hby d7_21) rfl ((if0 _ _).trans (feq (by decide : ¬ ((1 : Int32) = (0 : Int32)))).2) (by decide) (by decide) ?_
    show Steps p.tables e below (T3.setTop (mkF m 31 #[.val (.ref a1), .val (.ref a2), .val (.ref a2)] [])) _
    refine XS.aloadN X3.here hx rfl (hb hby d7_31) rfl rfl ?_
    show Steps p.tables e below (T3.setTop (mkF m 32 #[.val (.ref a1), .val (.ref a2), .val (.ref a2)] [(.ref a1)])) _
    refine st4.trans ?_
    show Steps p.tables e below (T4.setTop (mkF m 35 #[.val (.ref a1), .val (.ref a2), .val (.ref a2)] [(.int (1 : Int32))])) _
    refine XS.ifNo X4.here hx rfl (hb hby d7_35) rfl ((if0 _ _).trans (feq (by decide : ¬ ((1 : Int32) = (0 : Int32)))).1) ?_
    show Steps p.tables e below (T4.setTop (mkF m 38 #[.val (.ref a1), .val (.ref a2), .val (.ref a2)] [])) _
    refine XS.aloadN X4.here hx rfl (hb hby d7_38) rfl rfl ?_
    show Steps p.tables e below (T4.setTop (mkF m 39 #[.val (.ref a1), .val (.ref a2), .val (.ref a2)] [(.ref a2)])) _
    refine st5.trans ?_
    show Steps p.tables e below (T5.setTop (mkF m 42 #[.val (.ref a1), .val (.ref a2), .val (.ref a2)] [(.int (1 : Int32))])) _
    refine XS.ifNo X5.here hx rfl (hb hby d7_42) rfl ((if0 _ _).trans (feq (by decide : ¬ ((1 : Int32) = (0 : Int32)))).1) ?_
    show Steps p.tables e below (T5.setTop (mkF m 45 #[.val (.ref a1), .val (.ref a2), .val (.ref a2)] [])) _
    refine XS.aloadN X5.here hx rfl (hb hby d7_45) rfl rfl ?_
    show Steps p.tables e below (T5.setTop (mkF m 46 #[.val (.ref a1), .val (.ref a2), .val (.ref a2)] [(.ref a1)])) _
    refine st6 _ ?_
    show Steps p.tables e below (T6.setTop (mkF m 49 #[.val (.ref a1), .val (.ref a2), .val (.ref a2)] [(.long (1 : Int64))])) _
    refine XS.aloadN X6.here hx rfl (hb hby d7_49) rfl rfl ?_
    show Steps p.tables e below (T6.setTop (mkF m 50 #[.val (.ref a1), .val (.ref a2), .val (.ref a2)] [(.ref a2), (.long (1 : Int64))])) _
    refine st7 _ ?_
    show Steps p.tables e below (T7.setTop (mkF m 53 #[.val (.ref a1), .val (.ref a2), .val (.ref a2)] [(.long (0 : Int64)), (.long (1 : Int64))])) _
    refine XS.lcmp X7.here hx rfl (hb hby d7_53) rfl ?_
    show Steps p.tables e below (T7.setTop (mkF m 54 #[.val (.ref a1), .val (.ref a2), .val (.ref a2)] [(.int (lcmpW (1 : Int64) (0 : Int64)))])) _
    rw [(by decide : (lcmpW (1 : Int64) (0 : Int64)) = (1 : Int32))]
    show Steps p.tables e below (T7.setTop (mkF m 54 #[.val (.ref a1), .val (.ref a2), .val (.ref a2)] [(.int (1 : Int32))])) _
    refine XS.ifYes X7.here hx rfl (pc0 := 54) (pc' := 73) rfl (hb hby d7_54) rfl ((if0 _ _).trans (feq (by decide : ¬ ((1 : Int32) = (0 : Int32)))).2) (by decide) (by decide) ?_
    show Steps p.tables e below (T7.setTop (mkF m 73 #[.val (.ref a1), .val (.ref a2), .val (.ref a2)] [])) _
    refine XS.iconst X7.here hx rfl (hb hby d7_73) ?_
    show Steps p.tables e below (T7.setTop (mkF m 74 #[.val (.ref a1), .val (.ref a2), .val (.ref a2)] [(.int (0 : Int32))])) _
    exact retN X7 hx (t := .boolean) Bd.returns (by simp) (hb hby d7_74) hr
  · show Q7_19 Z a1 a2 h0 n0 _ T7.heap _
    rw [e7]
    exact ⟨rfl, N5, rfl⟩
theorem ef9_20 (m : MethodId) (a1 : Addr) (p2 : Int32) : entryFrame m #[(.ref a1), (.int p2)] 3 = mkF m 0 #[.val (.ref a1), .val (.int p2), .unset] [] := by first | (simp [entryFrame, mkF, argsToLocals, Value.category]; done) | rfl
def Q9_20 (Z : State) (a1 : Addr) (p2 : Int32) (a3 : Addr) (kc4 : ClassId) (p5 : Int32) (a6 : Addr) (h0 : Heap) (n0 : Nat) (v : Option Value) (h : Heap) (L : List Loc) : Prop := v = some (.ref a6) ∧ Fr n0 L ∧ h = h0
set_option maxRecDepth 65536 in
set_option maxHeartbeats 40000000 in
theorem rm9_20 (l : Launch) (Z : State) (a0 : Array Value) (hw : ∀ d ∈ tables_1, d.before a0 Z = true) (ws : List Jvm.Cond) (a1 : Addr) (p2 : Int32) (a3 : Addr) (kc4 : ClassId) (p5 : Int32) (a6 : Addr) (h0 : Heap) (n0 : Nat) (Z0 : n0 ≤ h0.size) (F_a1_indices : Fld Z h0 a1 "com/example/hubclear/hubclear/clearing/SparseVector" "indices" "[I" (.ref a3)) (F_a1_size : Fld Z h0 a1 "com/example/hubclear/hubclear/clearing/SparseVector" "size" "I" (.int (1 : Int32))) (V_a3 : Arv Z h0 a3 kc4 .int (1 : Int32) [(.int p5)] (.int (0 : Int32))) (hc3 : ¬ (p5 < p2)) (hc4 : p2 < p5) (S_Rational_ZERO : Sta Z h0 "com/example/hubclear/hubclear/Rational" "ZERO" "Lcom/example/hubclear/hubclear/Rational;" (.ref a6)) :
    MetFree l (⟨"com/example/hubclear/hubclear/clearing/SparseVector", "get", "(I)Lcom/example/hubclear/hubclear/Rational;"⟩ : MethodName) (head1 (Jvm.Cond.code (⟨"com/example/hubclear/hubclear/clearing/SparseVector", "get", "(I)Lcom/example/hubclear/hubclear/Rational;"⟩ : MethodName) prog_51_method_6_code 3 (some (.object "com/example/hubclear/hubclear/Rational")) :: ws) ({ frames := 2, cells := 0, slots := 0, locals := 34 } : Room)) (fun a U => a = #[(.ref a1), (.int p2)] ∧ Z.Warmed39 U.vm ∧ U.heap = h0) (fun _ _ _ _ _ => True) (fun _ U o U' => ∃ v L, o = .returned v ∧ Q9_20 Z a1 p2 a3 kc4 p5 a6 h0 n0 v U'.heap L ∧ FrameEnd U o U' L ({ frames := 2, cells := 0, slots := 0, locals := 34 } : Room).cells ({ frames := 2, cells := 0, slots := 0, locals := 34 } : Room).slots) := by
  refine MetFree.of_bodySF (plainFor_of_name pn_com_example_hubclear_hubclear_clearing_SparseVector) hisR ?_
  intro p e s m args below meth c s₁ Bd hml0 hP hK
  obtain ⟨rfl, hZ, hh⟩ := hP
  have hx := Bd.exec
  have hby := Bd.bytes
  have hml : c.maxLocals = 3 := hml0
  have hown : s.vm.findClass "com/example/hubclear/hubclear/clearing/SparseVector" = some m.cls := findClass_of_methodNamed Bd.named
  have hnm := (name_of_methodNamed Bd.named Bd.method).1
  have X0 : Stand p l e ({ frames := 2, cells := 0, slots := 0, locals := 34 } : Room) s m #[(.ref a1), (.int p2)] below meth c s₁ [] 0 0 := Stand.of_body Bd
  have e0 : s₁.heap = h0 := by rw [← hh, Bd.state]; rfl
  have N0 := Fr.nil n0
  have pre0 : ∀ t, Steps p.tables e below (s₁.setTop (mkF m 0 #[.val (.ref a1), .val (.int p2), .unset] [])) t → Steps p.tables e below (s₁.setTop (entryFrame m #[(.ref a1), (.int p2)] 3)) t := fun t k => castTop (ef9_20 m a1 p2) k
  obtain ⟨T1, X1, e1, st1⟩ := getF X0 hx hZ hown (host := "") (Or.inl (own_w19 hw)) Via.refl e0 F_a1_indices (g := (mkF m 1 #[.val (.ref a1), .val (.int p2), .unset] [(.ref a1)])) rfl rfl (hb hby d9_1)
  obtain ⟨T2, X2, e2, st2⟩ := getF X1 hx hZ hown (host := "") (Or.inl (own_w23 hw)) Via.refl e1 F_a1_size (g := (mkF m 6 #[.val (.ref a1), .val (.int p2), .unset] [(.ref a1), (.int (0 : Int32)), (.ref a3)])) rfl rfl (hb hby d9_6)
  obtain ⟨_, _, ⟨T3, L3, k3, n3⟩, -, X3, ⟨Lc3, hQ3, l3, y3, z3⟩, st3⟩ := Jvm.LawKit.callS X2 hx (y := (⟨"java/util/Arrays", "binarySearch", "([IIII)I"⟩ : MethodName)) hown (mvT hZ (own_w62 hw)) (mvT hZ (own_w63 hw)) (mvT hZ (own_w64 hw)) (mvT hZ (own_w65 hw)) (by decide) (backOf (W := 0) (rm10_16 l Z a0 hw [] a3 p2 kc4 p5 h0 n0 Z0 V_a3 hc3 hc4) hZ (own_w65 hw) (own_w64 hw) (by decide) (by decide)) (g := (mkF m 10 #[.val (.ref a1), .val (.int p2), .unset] [(.int p2), (.int (1 : Int32)), (.int (0 : Int32)), (.ref a3)])) rfl (by rw [hml]; rfl) (argsL := [(.ref a3), (.int (0 : Int32)), (.int (1 : Int32)), (.int p2)]) (rest := []) (lenOf pd___IIII_I rfl) rfl (by show 2 * 0 + _ ≤ _; exact Nat.le_of_eq rfl) (hb hby d9_10) (fun _ _ => ⟨rfl, e2, (by decide : 0 + 0 ≤ _), (by decide : 0 + 0 ≤ _)⟩)
  dsimp only [Pt.U, Pt.locs, Pt.cells, Pt.slots] at X3 l3 y3 z3 st3 hQ3
  subst l3 y3 z3
  obtain ⟨rfl, N3q, e3⟩ := hQ3
  have N3 := Fr.app N0 N3q
  obtain ⟨T4, X4, e4, st4⟩ := getS2 X3 hx hZ hown (host := "") (Or.inl (own_w78 hw)) Via.refl e3 S_Rational_ZERO (g := (mkF m 18 #[.val (.ref a1), .val (.int p2), .val (.int (-1 : Int32))] [])) rfl (hb hby d9_18)
  obtain ⟨fs, hr, hrun, hended, hW, hsame⟩ := X4.leave (v := some (.ref a6)) (fun h => by rw [Bd.returns] at h; cases h)
  refine ⟨_, _, pre0 _ ?_, hrun, hended, _, _, rfl, ?_, ⟨_, rfl⟩, hW, hsame.mono (by decide) (by decide)⟩
  · show Steps p.tables e below (s₁.setTop (mkF m 0 #[.val (.ref a1), .val (.int p2), .unset] [])) _
    refine XS.aloadN X0.here hx rfl (hb hby d9_0) rfl rfl ?_
    show Steps p.tables e below (s₁.setTop (mkF m 1 #[.val (.ref a1), .val (.int p2), .unset] [(.ref a1)])) _
    refine st1 _ ?_
    show Steps p.tables e below (T1.setTop (mkF m 4 #[.val (.ref a1), .val (.int p2), .unset] [(.ref a3)])) _
    refine XS.iconst X1.here hx rfl (hb hby d9_4) ?_
    show Steps p.tables e below (T1.setTop (mkF m 5 #[.val (.ref a1), .val (.int p2), .unset] [(.int (0 : Int32)), (.ref a3)])) _
    refine XS.aloadN X1.here hx rfl (hb hby d9_5) rfl rfl ?_
    show Steps p.tables e below (T1.setTop (mkF m 6 #[.val (.ref a1), .val (.int p2), .unset] [(.ref a1), (.int (0 : Int32)), (.ref a3)])) _
    refine st2 _ ?_
    show Steps p.tables e below (T2.setTop (mkF m 9 #[.val (.ref a1), .val (.int p2), .unset] [(.int (1 : Int32)), (.int (0 : Int32)), (.ref a3)])) _
    refine XS.iloadN X2.here hx rfl (hb hby d9_9) rfl ?_
    show Steps p.tables e below (T2.setTop (mkF m 10 #[.val (.ref a1), .val (.int p2), .unset] [(.int p2), (.int (1 : Int32)), (.int (0 : Int32)), (.ref a3)])) _
    refine st3 _ ?_
    show Steps p.tables e below (T3.setTop (mkF m 13 #[.val (.ref a1), .val (.int p2), .unset] [(.int (-1 : Int32))])) _
    refine XS.istoreN X3.here hx rfl (hb hby d9_13) rfl (l' := #[.val (.ref a1), .val (.int p2), .val (.int (-1 : Int32))]) rfl ?_
    show Steps p.tables e below (T3.setTop (mkF m 14 #[.val (.ref a1), .val (.int p2), .val (.int (-1 : Int32))] [])) _
    refine XS.iloadN X3.here hx rfl (hb hby d9_14) rfl ?_
    show Steps p.tables e below (T3.setTop (mkF m 15 #[.val (.ref a1), .val (.int p2), .val (.int (-1 : Int32))] [(.int (-1 : Int32))])) _
    refine XS.ifNo X3.here hx rfl (hb hby d9_15) rfl ((if0 _ _).trans (tlt (by decide : (-1 : Int32) < (0 : Int32))).2.1) ?_
    show Steps p.tables e below (T3.setTop (mkF m 18 #[.val (.ref a1), .val (.int p2), .val (.int (-1 : Int32))] [])) _
    refine st4 _ ?_
    show Steps p.tables e below (T4.setTop (mkF m 21 #[.val (.ref a1), .val (.int p2), .val (.int (-1 : Int32))] [(.ref a6)])) _
    refine XS.goto X4.here hx rfl (pc0 := 21) (pc' := 30) rfl (hb hby d9_21) (by decide) (by decide) ?_
    show Steps p.tables e below (T4.setTop (mkF m 30 #[.val (.ref a1), .val (.int p2), .val (.int (-1 : Int32))] [(.ref a6)])) _
    exact retOut X4 hx Bd.returns rfl (Or.inr (Or.inr (Or.inr (Or.inr ⟨rfl, rfl, rfl⟩)))) (hb hby d9_30) hr
  · show Q9_20 Z a1 p2 a3 kc4 p5 a6 h0 n0 _ T4.heap _
    rw [e4]
    exact ⟨rfl, N3, rfl⟩
theorem ef9_21 (m : MethodId) (a1 : Addr) (p2 : Int32) : entryFrame m #[(.ref a1), (.int p2)] 3 = mkF m 0 #[.val (.ref a1), .val (.int p2), .unset] [] := by first | (simp [entryFrame, mkF, argsToLocals, Value.category]; done) | rfl
def Q9_21 (Z : State) (a1 : Addr) (p2 : Int32) (a3 : Addr) (kc4 : ClassId) (p5 : Int32) (a6 : Addr) (kc7 : ClassId) (a8 : Addr) (h0 : Heap) (n0 : Nat) (v : Option Value) (h : Heap) (L : List Loc) : Prop := v = some (.ref a8) ∧ Fr n0 L ∧ h = h0
set_option maxRecDepth 65536 in
set_option maxHeartbeats 40000000 in
theorem rm9_21 (l : Launch) (Z : State) (a0 : Array Value) (hw : ∀ d ∈ tables_1, d.before a0 Z = true) (ws : List Jvm.Cond) (a1 : Addr) (p2 : Int32) (a3 : Addr) (kc4 : ClassId) (p5 : Int32) (a6 : Addr) (kc7 : ClassId) (a8 : Addr) (h0 : Heap) (n0 : Nat) (Z0 : n0 ≤ h0.size) (F_a1_indices : Fld Z h0 a1 "com/example/hubclear/hubclear/clearing/SparseVector" "indices" "[I" (.ref a3)) (F_a1_size : Fld Z h0 a1 "com/example/hubclear/hubclear/clearing/SparseVector" "size" "I" (.int (1 : Int32))) (V_a3 : Arv Z h0 a3 kc4 .int (1 : Int32) [(.int p5)] (.int (0 : Int32))) (hc3 : ¬ (p5 < p2)) (hc4 : ¬ (p2 < p5)) (F_a1_values : Fld Z h0 a1 "com/example/hubclear/hubclear/clearing/SparseVector" "values" "[Lcom/example/hubclear/hubclear/Rational;" (.ref a6)) (V_a6 : Arv Z h0 a6 kc7 (.object "com/example/hubclear/hubclear/Rational") (1 : Int32) [(.ref a8)] .null) :
    MetFree l (⟨"com/example/hubclear/hubclear/clearing/SparseVector", "get", "(I)Lcom/example/hubclear/hubclear/Rational;"⟩ : MethodName) (head1 (Jvm.Cond.code (⟨"com/example/hubclear/hubclear/clearing/SparseVector", "get", "(I)Lcom/example/hubclear/hubclear/Rational;"⟩ : MethodName) prog_51_method_6_code 3 (some (.object "com/example/hubclear/hubclear/Rational")) :: ws) ({ frames := 2, cells := 0, slots := 0, locals := 34 } : Room)) (fun a U => a = #[(.ref a1), (.int p2)] ∧ Z.Warmed39 U.vm ∧ U.heap = h0) (fun _ _ _ _ _ => True) (fun _ U o U' => ∃ v L, o = .returned v ∧ Q9_21 Z a1 p2 a3 kc4 p5 a6 kc7 a8 h0 n0 v U'.heap L ∧ FrameEnd U o U' L ({ frames := 2, cells := 0, slots := 0, locals := 34 } : Room).cells ({ frames := 2, cells := 0, slots := 0, locals := 34 } : Room).slots) := by
  refine MetFree.of_bodySF (plainFor_of_name pn_com_example_hubclear_hubclear_clearing_SparseVector) hisR ?_
  intro p e s m args below meth c s₁ Bd hml0 hP hK
  obtain ⟨rfl, hZ, hh⟩ := hP
  have hx := Bd.exec
  have hby := Bd.bytes
  have hml : c.maxLocals = 3 := hml0
  have hown : s.vm.findClass "com/example/hubclear/hubclear/clearing/SparseVector" = some m.cls := findClass_of_methodNamed Bd.named
  have hnm := (name_of_methodNamed Bd.named Bd.method).1
  have X0 : Stand p l e ({ frames := 2, cells := 0, slots := 0, locals := 34 } : Room) s m #[(.ref a1), (.int p2)] below meth c s₁ [] 0 0 := Stand.of_body Bd
  have e0 : s₁.heap = h0 := by rw [← hh, Bd.state]; rfl
  have N0 := Fr.nil n0
  have pre0 : ∀ t, Steps p.tables e below (s₁.setTop (mkF m 0 #[.val (.ref a1), .val (.int p2), .unset] [])) t → Steps p.tables e below (s₁.setTop (entryFrame m #[(.ref a1), (.int p2)] 3)) t := fun t k => castTop (ef9_21 m a1 p2) k
  obtain ⟨T1, X1, e1, st1⟩ := getF X0 hx hZ hown (host := "") (Or.inl (own_w19 hw)) Via.refl e0 F_a1_indices (g := (mkF m 1 #[.val (.ref a1), .val (.int p2), .unset] [(.ref a1)])) rfl rfl (hb hby d9_1)
  obtain ⟨T2, X2, e2, st2⟩ := getF X1 hx hZ hown (host := "") (Or.inl (own_w23 hw)) Via.refl e1 F_a1_size (g := (mkF m 6 #[.val (.ref a1), .val (.int p2), .unset] [(.ref a1), (.int (0 : Int32)), (.ref a3)])) rfl rfl (hb hby d9_6)
  obtain ⟨_, _, ⟨T3, L3, k3, n3⟩, -, X3, ⟨Lc3, hQ3, l3, y3, z3⟩, st3⟩ := Jvm.LawKit.callS X2 hx (y := (⟨"java/util/Arrays", "binarySearch", "([IIII)I"⟩ : MethodName)) hown (mvT hZ (own_w62 hw)) (mvT hZ (own_w63 hw)) (mvT hZ (own_w64 hw)) (mvT hZ (own_w65 hw)) (by decide) (backOf (W := 0) (rm10_17 l Z a0 hw [] a3 p2 kc4 p5 h0 n0 Z0 V_a3 hc3 hc4) hZ (own_w65 hw) (own_w64 hw) (by decide) (by decide)) (g := (mkF m 10 #[.val (.ref a1), .val (.int p2), .unset] [(.int p2), (.int (1 : Int32)), (.int (0 : Int32)), (.ref a3)])) rfl (by rw [hml]; rfl) (argsL := [(.ref a3), (.int (0 : Int32)), (.int (1 : Int32)), (.int p2)]) (rest := []) (lenOf pd___IIII_I rfl) rfl (by show 2 * 0 + _ ≤ _; exact Nat.le_of_eq rfl) (hb hby d9_10) (fun _ _ => ⟨rfl, e2, (by decide : 0 + 0 ≤ _), (by decide : 0 + 0 ≤ _)⟩)
  dsimp only [Pt.U, Pt.locs, Pt.cells, Pt.slots] at X3 l3 y3 z3 st3 hQ3
  subst l3 y3 z3
  obtain ⟨rfl, N3q, e3⟩ := hQ3
  have N3 := Fr.app N0 N3q
  obtain ⟨T4, X4, e4, st4⟩ := getF X3 hx hZ hown (host := "") (Or.inl (own_w21 hw)) Via.refl e3 F_a1_values (g := (mkF m 25 #[.val (.ref a1), .val (.int p2), .val (.int (0 : Int32))] [(.ref a1)])) rfl rfl (hb hby d9_25)
  obtain ⟨cl5, Ar5, qk5, Sz5, Ng5, Ha5, Gf5⟩ := id V_a6
  have hin5 : ¬ ((0 : Int32) < 0 ∨ cl5.slots.size ≤ ((0 : Int32)).toNatClampNeg) := inb_of Sz5 ⟨by decide, by decide⟩
  have hat5 : cl5.slots[((0 : Int32)).toNatClampNeg]? = some (.ref a8) := Has.at Ha5 hin5 rfl
  obtain ⟨fs, hr, hrun, hended, hW, hsame⟩ := X4.leave (v := some (.ref a8)) (fun h => by rw [Bd.returns] at h; cases h)
  refine ⟨_, _, pre0 _ ?_, hrun, hended, _, _, rfl, ?_, ⟨_, rfl⟩, hW, hsame.mono (by decide) (by decide)⟩
  · show Steps p.tables e below (s₁.setTop (mkF m 0 #[.val (.ref a1), .val (.int p2), .unset] [])) _
    refine XS.aloadN X0.here hx rfl (hb hby d9_0) rfl rfl ?_
    show Steps p.tables e below (s₁.setTop (mkF m 1 #[.val (.ref a1), .val (.int p2), .unset] [(.ref a1)])) _
    refine st1 _ ?_
    show Steps p.tables e below (T1.setTop (mkF m 4 #[.val (.ref a1), .val (.int p2), .unset] [(.ref a3)])) _
    refine XS.iconst X1.here hx rfl (hb hby d9_4) ?_
    show Steps p.tables e below (T1.setTop (mkF m 5 #[.val (.ref a1), .val (.int p2), .unset] [(.int (0 : Int32)), (.ref a3)])) _
    refine XS.aloadN X1.here hx rfl (hb hby d9_5) rfl rfl ?_
    show Steps p.tables e below (T1.setTop (mkF m 6 #[.val (.ref a1), .val (.int p2), .unset] [(.ref a1), (.int (0 : Int32)), (.ref a3)])) _
    refine st2 _ ?_
    show Steps p.tables e below (T2.setTop (mkF m 9 #[.val (.ref a1), .val (.int p2), .unset] [(.int (1 : Int32)), (.int (0 : Int32)), (.ref a3)])) _
    refine XS.iloadN X2.here hx rfl (hb hby d9_9) rfl ?_
    show Steps p.tables e below (T2.setTop (mkF m 10 #[.val (.ref a1), .val (.int p2), .unset] [(.int p2), (.int (1 : Int32)), (.int (0 : Int32)), (.ref a3)])) _
    refine st3 _ ?_
    show Steps p.tables e below (T3.setTop (mkF m 13 #[.val (.ref a1), .val (.int p2), .unset] [(.int (0 : Int32))])) _
    refine XS.istoreN X3.here hx rfl (hb hby d9_13) rfl (l' := #[.val (.ref a1), .val (.int p2), .val (.int (0 : Int32))]) rfl ?_
    show Steps p.tables e below (T3.setTop (mkF m 14 #[.val (.ref a1), .val (.int p2), .val (.int (0 : Int32))] [])) _
    refine XS.iloadN X3.here hx rfl (hb hby d9_14) rfl ?_
    show Steps p.tables e below (T3.setTop (mkF m 15 #[.val (.ref a1), .val (.int p2), .val (.int (0 : Int32))] [(.int (0 : Int32))])) _
    refine XS.ifYes X3.here hx rfl (pc0 := 15) (pc' := 24) rfl (hb hby d9_15) rfl ((if0 _ _).trans (flt (by decide : ¬ ((0 : Int32) < (0 : Int32)))).2.1) (by decide) (by decide) ?_
    show Steps p.tables e below (T3.setTop (mkF m 24 #[.val (.ref a1), .val (.int p2), .val (.int (0 : Int32))] [])) _
    refine XS.aloadN X3.here hx rfl (hb hby d9_24) rfl rfl ?_
    show Steps p.tables e below (T3.setTop (mkF m 25 #[.val (.ref a1), .val (.int p2), .val (.int (0 : Int32))] [(.ref a1)])) _
    refine st4 _ ?_
    show Steps p.tables e below (T4.setTop (mkF m 28 #[.val (.ref a1), .val (.int p2), .val (.int (0 : Int32))] [(.ref a6)])) _
    refine XS.iloadN X4.here hx rfl (hb hby d9_28) rfl ?_
    show Steps p.tables e below (T4.setTop (mkF m 29 #[.val (.ref a1), .val (.int p2), .val (.int (0 : Int32))] [(.int (0 : Int32)), (.ref a6)])) _
    refine X4.aaload hx (j := (0 : Int32)) (v := (.ref a8)) (by rw [e4]; exact Ar5.1) (State.isArrayOf_alike hZ.alike Ar5.2.1) rfl Ar5.2.2 hin5 hat5 (g := (mkF m 29 #[.val (.ref a1), .val (.int p2), .val (.int (0 : Int32))] [(.int (0 : Int32)), (.ref a6)])) rfl rfl (hb hby d9_29) _ ?_
    show Steps p.tables e below (T4.setTop (mkF m 30 #[.val (.ref a1), .val (.int p2), .val (.int (0 : Int32))] [(.ref a8)])) _
    exact retOut X4 hx Bd.returns rfl (Or.inr (Or.inr (Or.inr (Or.inr ⟨rfl, rfl, rfl⟩)))) (hb hby d9_30) hr
  · show Q9_21 Z a1 p2 a3 kc4 p5 a6 kc7 a8 h0 n0 _ T4.heap _
    rw [e4]
    exact ⟨rfl, N3, rfl⟩
theorem ef7_22 (m : MethodId) (a1 : Addr) : entryFrame m #[(.ref a1), (.ref a1)] 3 = mkF m 0 #[.val (.ref a1), .val (.ref a1), .unset] [] := by first | (simp [entryFrame, mkF, argsToLocals, Value.category]; done) | rfl
def Q7_22 (Z : State) (a1 : Addr) (h0 : Heap) (n0 : Nat) (v : Option Value) (h : Heap) (L : List Loc) : Prop := v = some (.int (1 : Int32)) ∧ Fr n0 L ∧ h = h0
set_option maxRecDepth 65536 in
set_option maxHeartbeats 40000000 in
theorem rm7_22 (l : Launch) (Z : State) (a0 : Array Value) (hw : ∀ d ∈ tables_1, d.before a0 Z = true) (ws : List Jvm.Cond) (a1 : Addr) (h0 : Heap) (n0 : Nat) (Z0 : n0 ≤ h0.size) (E_a1 : Exa Z h0 a1 "com/example/hubclear/hubclear/Rational") (F_a1_bigNumerator : Fld Z h0 a1 "com/example/hubclear/hubclear/Rational" "bigNumerator" "Ljava/math/BigInteger;" .null) (F_a1_numerator : Fld Z h0 a1 "com/example/hubclear/hubclear/Rational" "numerator" "J" (.long (0 : Int64))) (F_a1_denominator : Fld Z h0 a1 "com/example/hubclear/hubclear/Rational" "denominator" "J" (.long (1 : Int64))) :
    MetFree l (⟨"com/example/hubclear/hubclear/Rational", "equals", "(Ljava/lang/Object;)Z"⟩ : MethodName) (head1 (Jvm.Cond.code (⟨"com/example/hubclear/hubclear/Rational", "equals", "(Ljava/lang/Object;)Z"⟩ : MethodName) prog_18_method_28_code 3 (some .boolean) :: ws) ({ frames := 1, cells := 0, slots := 0, locals := 12 } : Room)) (fun a U => a = #[(.ref a1), (.ref a1)] ∧ Z.Warmed39 U.vm ∧ U.heap = h0) (fun _ _ _ _ _ => True) (fun _ U o U' => ∃ v L, o = .returned v ∧ Q7_22 Z a1 h0 n0 v U'.heap L ∧ FrameEnd U o U' L ({ frames := 1, cells := 0, slots := 0, locals := 12 } : Room).cells ({ frames := 1, cells := 0, slots := 0, locals := 12 } : Room).slots) := by
  refine MetFree.of_bodySF (plainFor_of_name pn_com_example_hubclear_hubclear_Rational) hisR ?_
  intro p e s m args below meth c s₁ Bd hml0 hP hK
  obtain ⟨rfl, hZ, hh⟩ := hP
  have hx := Bd.exec
  have hby := Bd.bytes
  have hml : c.maxLocals = 3 := hml0
  have hown : s.vm.findClass "com/example/hubclear/hubclear/Rational" = some m.cls := findClass_of_methodNamed Bd.named
  have hnm := (name_of_methodNamed Bd.named Bd.method).1
  have X0 : Stand p l e ({ frames := 1, cells := 0, slots := 0, locals := 12 } : Room) s m #[(.ref a1), (.ref a1)] below meth c s₁ [] 0 0 := Stand.of_body Bd
  have e0 : s₁.heap = h0 := by rw [← hh, Bd.state]; rfl
  have N0 := Fr.nil n0
  have pre0 : ∀ t, Steps p.tables e below (s₁.setTop (mkF m 0 #[.val (.ref a1), .val (.ref a1), .unset] [])) t → Steps p.tables e below (s₁.setTop (entryFrame m #[(.ref a1), (.ref a1)] 3)) t := fun t k => castTop (ef7_22 m a1) k
  obtain ⟨T1, X1, e1, st1⟩ := instY X0 hx hZ hown (own_w46 hw) e0 (Ins.self E_a1) (g := (mkF m 1 #[.val (.ref a1), .val (.ref a1), .unset] [(.ref a1)])) rfl rfl (hb hby d7_1)
  obtain ⟨T2, X2, e2, st2⟩ := castY X1 hx hZ hown (own_w46 hw) e1 (Ins.self E_a1) (g := (mkF m 8 #[.val (.ref a1), .val (.ref a1), .unset] [(.ref a1)])) rfl rfl (hb hby d7_8)
  obtain ⟨cq3, q3, q3'⟩ := E_a1.cell
  obtain ⟨_, _, ⟨T3, L3, k3, n3⟩, -, X3, ⟨Lc3, hQ3, l3, y3, z3⟩, st3⟩ := X2.privateBack hx (y := (⟨"com/example/hubclear/hubclear/Rational", "isSmall", "()Z"⟩ : MethodName)) hown (mvT hZ (own_w47 hw)) (mvT hZ (own_w48 hw)) (own_sel_priv (args := #[]) (y := (⟨"com/example/hubclear/hubclear/Rational", "isSmall", "()Z"⟩ : MethodName)) (mvT hZ (own_w44 hw)) rfl (Cond.privateMethod_at (mvP hZ (own_w49 hw) (args := #[]))) (mvT hZ (own_w48 hw)) (by decide)) (Cond.privateMethod_at (mvP hZ (own_w49 hw) (args := #[]))) (mvT hZ (own_w50 hw)) (by decide) (backOf (W := 0) (rm8_6 l Z a0 hw [] a1 h0 n0 Z0 F_a1_bigNumerator) hZ (own_w50 hw) (own_w10 hw) (by decide) (by decide)) (g := (mkF m 18 #[.val (.ref a1), .val (.ref a1), .val (.ref a1)] [(.ref a1)])) rfl (by rw [hml]; rfl) (Steps.refl _) (a := a1) (by rw [e2]; exact q3) q3' (argsL := []) (rest := []) (lenOf pd___Z rfl) rfl (by show 2 * 0 + _ ≤ _; exact Nat.le_of_eq rfl) (hb hby d7_18) (fun _ _ => ⟨rfl, e2, (by decide : 0 + 0 ≤ _), (by decide : 0 + 0 ≤ _)⟩)
  dsimp only [Pt.U, Pt.locs, Pt.cells, Pt.slots] at X3 l3 y3 z3 st3 hQ3
  subst l3 y3 z3
  obtain ⟨rfl, N3q, e3⟩ := hQ3
  have N3 := Fr.app N0 N3q
  obtain ⟨cq4, q4, q4'⟩ := E_a1.cell
  obtain ⟨_, _, ⟨T4, L4, k4, n4⟩, -, X4, ⟨Lc4, hQ4, l4, y4, z4⟩, st4⟩ := X3.privateBack hx (y := (⟨"com/example/hubclear/hubclear/Rational", "isSmall", "()Z"⟩ : MethodName)) hown (mvT hZ (own_w47 hw)) (mvT hZ (own_w48 hw)) (own_sel_priv (args := #[]) (y := (⟨"com/example/hubclear/hubclear/Rational", "isSmall", "()Z"⟩ : MethodName)) (mvT hZ (own_w44 hw)) rfl (Cond.privateMethod_at (mvP hZ (own_w49 hw) (args := #[]))) (mvT hZ (own_w48 hw)) (by decide)) (Cond.privateMethod_at (mvP hZ (own_w49 hw) (args := #[]))) (mvT hZ (own_w50 hw)) (by decide) (backOf (W := 0) (rm8_6 l Z a0 hw [] a1 h0 n0 Z0 F_a1_bigNumerator) hZ (own_w50 hw) (own_w10 hw) (by decide) (by decide)) (g := (mkF m 32 #[.val (.ref a1), .val (.ref a1), .val (.ref a1)] [(.ref a1)])) rfl (by rw [hml]; rfl) (Steps.refl _) (a := a1) (by rw [e3]; exact q4) q4' (argsL := []) (rest := []) (lenOf pd___Z rfl) rfl (by show 2 * 0 + _ ≤ _; exact Nat.le_of_eq rfl) (hb hby d7_32) (fun _ _ => ⟨rfl, e3, (by decide : 0 + 0 ≤ _), (by decide : 0 + 0 ≤ _)⟩)
  dsimp only [Pt.U, Pt.locs, Pt.cells, Pt.slots] at X4 l4 y4 z4 st4 hQ4
  subst l4 y4 z4
  obtain ⟨rfl, N4q, e4⟩ := hQ4
  have N4 := Fr.app N3 N4q
  obtain ⟨cq5, q5, q5'⟩ := E_a1.cell
  obtain ⟨_, _, ⟨T5, L5, k5, n5⟩, -, X5, ⟨Lc5, hQ5, l5, y5, z5⟩, st5⟩ := X4.privateBack hx (y := (⟨"com/example/hubclear/hubclear/Rational", "isSmall", "()Z"⟩ : MethodName)) hown (mvT hZ (own_w47 hw)) (mvT hZ (own_w48 hw)) (own_sel_priv (args := #[]) (y := (⟨"com/example/hubclear/hubclear/Rational", "isSmall", "()Z"⟩ : MethodName)) (mvT hZ (own_w44 hw)) rfl (Cond.privateMethod_at (mvP hZ (own_w49 hw) (args := #[]))) (mvT hZ (own_w48 hw)) (by decide)) (Cond.privateMethod_at (mvP hZ (own_w49 hw) (args := #[]))) (mvT hZ (own_w50 hw)) (by decide) (backOf (W := 0) (rm8_6 l Z a0 hw [] a1 h0 n0 Z0 F_a1_bigNumerator) hZ (own_w50 hw) (own_w10 hw) (by decide) (by decide)) (g := (mkF m 39 #[.val (.ref a1), .val (.ref a1), .val (.ref a1)] [(.ref a1)])) rfl (by rw [hml]; rfl) (Steps.refl _) (a := a1) (by rw [e4]; exact q5) q5' (argsL := []) (rest := []) (lenOf pd___Z rfl) rfl (by show 2 * 0 + _ ≤ _; exact Nat.le_of_eq rfl) (hb hby d7_39) (fun _ _ => ⟨rfl, e4, (by decide : 0 + 0 ≤ _), (by decide : 0 + 0 ≤ _)⟩)
  dsimp only [Pt.U, Pt.locs, Pt.cells, Pt.slots] at X5 l5 y5 z5 st5 hQ5
  subst l5 y5 z5
  obtain ⟨rfl, N5q, e5⟩ := hQ5
  have N5 := Fr.app N4 N5q
  obtain ⟨T6, X6, e6, st6⟩ := getF X5 hx hZ hown (host := "") (Or.inl (own_w53 hw)) Via.refl e5 F_a1_numerator (g := (mkF m 46 #[.val (.ref a1), .val (.ref a1), .val (.ref a1)] [(.ref a1)])) rfl rfl (hb hby d7_46)
  obtain ⟨T7, X7, e7, st7⟩ := getF X6 hx hZ hown (host := "") (Or.inl (own_w53 hw)) Via.refl e6 F_a1_numerator (g := (mkF m 50 #[.val (.ref a1), .val (.ref a1), .val (.ref a1)] [(.ref a1), (.long (0 : Int64))])) rfl rfl (hb hby d7_50)
  obtain ⟨T8, X8, e8, st8⟩ := getF X7 hx hZ hown (host := "") (Or.inl (own_w55 hw)) Via.refl e7 F_a1_denominator (g := (mkF m 58 #[.val (.ref a1), .val (.ref a1), .val (.ref a1)] [(.ref a1)])) rfl rfl (hb hby d7_58)
  obtain ⟨T9, X9, e9, st9⟩ := getF X8 hx hZ hown (host := "") (Or.inl (own_w55 hw)) Via.refl e8 F_a1_denominator (g := (mkF m 62 #[.val (.ref a1), .val (.ref a1), .val (.ref a1)] [(.ref a1), (.long (1 : Int64))])) rfl rfl (hb hby d7_62)
  obtain ⟨fs, hr, hrun, hended, hW, hsame⟩ := X9.leave (v := some (.int (1 : Int32))) (fun h => by rw [Bd.returns] at h; cases h)
  refine ⟨_, _, pre0 _ ?_, hrun, hended, _, _, rfl, ?_, ⟨_, rfl⟩, hW, hsame.mono (by decide) (by decide)⟩
  · show Steps p.tables e below (s₁.setTop (mkF m 0 #[.val (.ref a1), .val (.ref a1), .unset] [])) _
    refine XS.aloadN X0.here hx rfl (hb hby d7_0) rfl rfl ?_
    show Steps p.tables e below (s₁.setTop (mkF m 1 #[.val (.ref a1), .val (.ref a1), .unset] [(.ref a1)])) _
    refine st1 _ ?_
    show Steps p.tables e below (T1.setTop (mkF m 4 #[.val (.ref a1), .val (.ref a1), .unset] [(.int (1 : Int32))])) _
    refine XS.ifNo X1.here hx rfl (hb hby d7_4) rfl ((if0 _ _).trans (feq (by decide : ¬ ((1 : Int32) = (0 : Int32)))).1) ?_
    show Steps p.tables e below (T1.setTop (mkF m 7 #[.val (.ref a1), .val (.ref a1), .unset] [])) _
    refine XS.aloadN X1.here hx rfl (hb hby d7_7) rfl rfl ?_
    show Steps p.tables e below (T1.setTop (mkF m 8 #[.val (.ref a1), .val (.ref a1), .unset] [(.ref a1)])) _
    refine st2 _ ?_
    show Steps p.tables e below (T2.setTop (mkF m 11 #[.val (.ref a1), .val (.ref a1), .unset] [(.ref a1)])) _
    refine XS.astoreN X2.here hx rfl (hb hby d7_11) rfl rfl (l' := #[.val (.ref a1), .val (.ref a1), .val (.ref a1)]) rfl ?_
    show Steps p.tables e below (T2.setTop (mkF m 12 #[.val (.ref a1), .val (.ref a1), .val (.ref a1)] [])) _
    refine XS.goto X2.here hx rfl (pc0 := 12) (pc' := 17) rfl (hb hby d7_12) (by decide) (by decide) ?_
    show Steps p.tables e below (T2.setTop (mkF m 17 #[.val (.ref a1), .val (.ref a1), .val (.ref a1)] [])) _
    refine XS.aloadN X2.here hx rfl (hb hby d7_17) rfl rfl ?_
    show Steps p.tables e below (T2.setTop (mkF m 18 #[.val (.ref a1), .val (.ref a1), .val (.ref a1)] [(.ref a1)])) _
    refine st3.trans ?_
    show Steps p.tables e below (T3.setTop (mkF m 21 #[.val (.ref a1), .val (.ref a1), .val (.ref a1)] [(.int (1 : Int32))])) _
    refine XS.ifYes X3.here hx rfl (pc0 := 21) (pc' := 31) rfl (hb hby d7_21) rfl ((if0 _ _).trans (feq (by decide : ¬ ((1 : Int32) = (0 : Int32)))).2) (by decide) (by decide) ?_
    show Steps p.tables e below (T3.setTop (mkF m 31 #[.val (.ref a1), .val (.ref a1), .val (.ref a1)] [])) _
    refine XS.aloadN X3.here hx rfl (hb hby d7_31) rfl rfl ?_
    show Steps p.tables e below (T3.setTop (mkF m 32 #[.val (.ref a1), .val (.ref a1), .val (.ref a1)] [(.ref a1)])) _
    refine st4.trans ?_
    show Steps p.tables e below (T4.setTop (mkF m 35 #[.val (.ref a1), .val (.ref a1), .val (.ref a1)] [(.int (1 : Int32))])) _
    refine XS.ifNo X4.here hx rfl (hb hby d7_35) rfl ((if0 _ _).trans (feq (by decide : ¬ ((1 : Int32) = (0 : Int32)))).1) ?_
    show Steps p.tables e below (T4.setTop (mkF m 38 #[.val (.ref a1), .val (.ref a1), .val (.ref a1)] [])) _
    refine XS.aloadN X4.here hx rfl (hb hby d7_38) rfl rfl ?_
    show Steps p.tables e below (T4.setTop (mkF m 39 #[.val (.ref a1), .val (.ref a1), .val (.ref a1)] [(.ref a1)])) _
    refine st5.trans ?_
    show Steps p.tables e below (T5.setTop (mkF m 42 #[.val (.ref a1), .val (.ref a1), .val (.ref a1)] [(.int (1 : Int32))])) _
    refine XS.ifNo X5.here hx rfl (hb hby d7_42) rfl ((if0 _ _).trans (feq (by decide : ¬ ((1 : Int32) = (0 : Int32)))).1) ?_
    show Steps p.tables e below (T5.setTop (mkF m 45 #[.val (.ref a1), .val (.ref a1), .val (.ref a1)] [])) _
    refine XS.aloadN X5.here hx rfl (hb hby d7_45) rfl rfl ?_
    show Steps p.tables e below (T5.setTop (mkF m 46 #[.val (.ref a1), .val (.ref a1), .val (.ref a1)] [(.ref a1)])) _
    refine st6 _ ?_
    show Steps p.tables e below (T6.setTop (mkF m 49 #[.val (.ref a1), .val (.ref a1), .val (.ref a1)] [(.long (0 : Int64))])) _
    refine XS.aloadN X6.here hx rfl (hb hby d7_49) rfl rfl ?_
    show Steps p.tables e below (T6.setTop (mkF m 50 #[.val (.ref a1), .val (.ref a1), .val (.ref a1)] [(.ref a1), (.long (0 : Int64))])) _
    refine st7 _ ?_
    show Steps p.tables e below (T7.setTop (mkF m 53 #[.val (.ref a1), .val (.ref a1), .val (.ref a1)] [(.long (0 : Int64)), (.long (0 : Int64))])) _
    refine XS.lcmp X7.here hx rfl (hb hby d7_53) rfl ?_
    show Steps p.tables e below (T7.setTop (mkF m 54 #[.val (.ref a1), .val (.ref a1), .val (.ref a1)] [(.int (lcmpW (0 : Int64) (0 : Int64)))])) _
    rw [(by decide : (lcmpW (0 : Int64) (0 : Int64)) = (0 : Int32))]
    show Steps p.tables e below (T7.setTop (mkF m 54 #[.val (.ref a1), .val (.ref a1), .val (.ref a1)] [(.int (0 : Int32))])) _
    refine XS.ifNo X7.here hx rfl (hb hby d7_54) rfl ((if0 _ _).trans (teq (by decide : (0 : Int32) = (0 : Int32))).2) ?_
    show Steps p.tables e below (T7.setTop (mkF m 57 #[.val (.ref a1), .val (.ref a1), .val (.ref a1)] [])) _
    refine XS.aloadN X7.here hx rfl (hb hby d7_57) rfl rfl ?_
    show Steps p.tables e below (T7.setTop (mkF m 58 #[.val (.ref a1), .val (.ref a1), .val (.ref a1)] [(.ref a1)])) _
    refine st8 _ ?_
    show Steps p.tables e below (T8.setTop (mkF m 61 #[.val (.ref a1), .val (.ref a1), .val (.ref a1)] [(.long (1 : Int64))])) _
    refine XS.aloadN X8.here hx rfl (hb hby d7_61) rfl rfl ?_
    show Steps p.tables e below (T8.setTop (mkF m 62 #[.val (.ref a1), .val (.ref a1), .val (.ref a1)] [(.ref a1), (.long (1 : Int64))])) _
    refine st9 _ ?_
    show Steps p.tables e below (T9.setTop (mkF m 65 #[.val (.ref a1), .val (.ref a1), .val (.ref a1)] [(.long (1 : Int64)), (.long (1 : Int64))])) _
    refine XS.lcmp X9.here hx rfl (hb hby d7_65) rfl ?_
    show Steps p.tables e below (T9.setTop (mkF m 66 #[.val (.ref a1), .val (.ref a1), .val (.ref a1)] [(.int (lcmpW (1 : Int64) (1 : Int64)))])) _
    rw [(by decide : (lcmpW (1 : Int64) (1 : Int64)) = (0 : Int32))]
    show Steps p.tables e below (T9.setTop (mkF m 66 #[.val (.ref a1), .val (.ref a1), .val (.ref a1)] [(.int (0 : Int32))])) _
    refine XS.ifNo X9.here hx rfl (hb hby d7_66) rfl ((if0 _ _).trans (teq (by decide : (0 : Int32) = (0 : Int32))).2) ?_
    show Steps p.tables e below (T9.setTop (mkF m 69 #[.val (.ref a1), .val (.ref a1), .val (.ref a1)] [])) _
    refine XS.iconst X9.here hx rfl (hb hby d7_69) ?_
    show Steps p.tables e below (T9.setTop (mkF m 70 #[.val (.ref a1), .val (.ref a1), .val (.ref a1)] [(.int (1 : Int32))])) _
    refine XS.goto X9.here hx rfl (pc0 := 70) (pc' := 74) rfl (hb hby d7_70) (by decide) (by decide) ?_
    show Steps p.tables e below (T9.setTop (mkF m 74 #[.val (.ref a1), .val (.ref a1), .val (.ref a1)] [(.int (1 : Int32))])) _
    exact retN X9 hx (t := .boolean) Bd.returns (by simp) (hb hby d7_74) hr
  · show Q7_22 Z a1 h0 n0 _ T9.heap _
    rw [e9]
    exact ⟨rfl, N5, rfl⟩
theorem ef7_23 (m : MethodId) (a1 : Addr) (a2 : Addr) : entryFrame m #[(.ref a1), (.ref a2)] 3 = mkF m 0 #[.val (.ref a1), .val (.ref a2), .unset] [] := by first | (simp [entryFrame, mkF, argsToLocals, Value.category]; done) | rfl
def Q7_23 (Z : State) (a1 : Addr) (a2 : Addr) (h0 : Heap) (n0 : Nat) (v : Option Value) (h : Heap) (L : List Loc) : Prop := v = some (.int (0 : Int32)) ∧ Fr n0 L ∧ h = h0
set_option maxRecDepth 65536 in
set_option maxHeartbeats 40000000 in
theorem rm7_23 (l : Launch) (Z : State) (a0 : Array Value) (hw : ∀ d ∈ tables_1, d.before a0 Z = true) (ws : List Jvm.Cond) (a1 : Addr) (a2 : Addr) (h0 : Heap) (n0 : Nat) (Z0 : n0 ≤ h0.size) (E_a2 : Exa Z h0 a2 "com/example/hubclear/hubclear/Rational") (E_a1 : Exa Z h0 a1 "com/example/hubclear/hubclear/Rational") (F_a1_bigNumerator : Fld Z h0 a1 "com/example/hubclear/hubclear/Rational" "bigNumerator" "Ljava/math/BigInteger;" .null) (F_a2_bigNumerator : Fld Z h0 a2 "com/example/hubclear/hubclear/Rational" "bigNumerator" "Ljava/math/BigInteger;" .null) (F_a1_numerator : Fld Z h0 a1 "com/example/hubclear/hubclear/Rational" "numerator" "J" (.long (0 : Int64))) (F_a2_numerator : Fld Z h0 a2 "com/example/hubclear/hubclear/Rational" "numerator" "J" (.long (1 : Int64))) :
    MetFree l (⟨"com/example/hubclear/hubclear/Rational", "equals", "(Ljava/lang/Object;)Z"⟩ : MethodName) (head1 (Jvm.Cond.code (⟨"com/example/hubclear/hubclear/Rational", "equals", "(Ljava/lang/Object;)Z"⟩ : MethodName) prog_18_method_28_code 3 (some .boolean) :: ws) ({ frames := 1, cells := 0, slots := 0, locals := 12 } : Room)) (fun a U => a = #[(.ref a1), (.ref a2)] ∧ Z.Warmed39 U.vm ∧ U.heap = h0) (fun _ _ _ _ _ => True) (fun _ U o U' => ∃ v L, o = .returned v ∧ Q7_23 Z a1 a2 h0 n0 v U'.heap L ∧ FrameEnd U o U' L ({ frames := 1, cells := 0, slots := 0, locals := 12 } : Room).cells ({ frames := 1, cells := 0, slots := 0, locals := 12 } : Room).slots) := by
  refine MetFree.of_bodySF (plainFor_of_name pn_com_example_hubclear_hubclear_Rational) hisR ?_
  intro p e s m args below meth c s₁ Bd hml0 hP hK
  obtain ⟨rfl, hZ, hh⟩ := hP
  have hx := Bd.exec
  have hby := Bd.bytes
  have hml : c.maxLocals = 3 := hml0
  have hown : s.vm.findClass "com/example/hubclear/hubclear/Rational" = some m.cls := findClass_of_methodNamed Bd.named
  have hnm := (name_of_methodNamed Bd.named Bd.method).1
  have X0 : Stand p l e ({ frames := 1, cells := 0, slots := 0, locals := 12 } : Room) s m #[(.ref a1), (.ref a2)] below meth c s₁ [] 0 0 := Stand.of_body Bd
  have e0 : s₁.heap = h0 := by rw [← hh, Bd.state]; rfl
  have N0 := Fr.nil n0
  have pre0 : ∀ t, Steps p.tables e below (s₁.setTop (mkF m 0 #[.val (.ref a1), .val (.ref a2), .unset] [])) t → Steps p.tables e below (s₁.setTop (entryFrame m #[(.ref a1), (.ref a2)] 3)) t := fun t k => castTop (ef7_23 m a1 a2) k
  obtain ⟨T1, X1, e1, st1⟩ := instY X0 hx hZ hown (own_w46 hw) e0 (Ins.self E_a2) (g := (mkF m 1 #[.val (.ref a1), .val (.ref a2), .unset] [(.ref a2)])) rfl rfl (hb hby d7_1)
  obtain ⟨T2, X2, e2, st2⟩ := castY X1 hx hZ hown (own_w46 hw) e1 (Ins.self E_a2) (g := (mkF m 8 #[.val (.ref a1), .val (.ref a2), .unset] [(.ref a2)])) rfl rfl (hb hby d7_8)
  obtain ⟨cq3, q3, q3'⟩ := E_a1.cell
  obtain ⟨_, _, ⟨T3, L3, k3, n3⟩, -, X3, ⟨Lc3, hQ3, l3, y3, z3⟩, st3⟩ := X2.privateBack hx (y := (⟨"com/example/hubclear/hubclear/Rational", "isSmall", "()Z"⟩ : MethodName)) hown (mvT hZ (own_w47 hw)) (mvT hZ (own_w48 hw)) (own_sel_priv (args := #[]) (y := (⟨"com/example/hubclear/hubclear/Rational", "isSmall", "()Z"⟩ : MethodName)) (mvT hZ (own_w44 hw)) rfl (Cond.privateMethod_at (mvP hZ (own_w49 hw) (args := #[]))) (mvT hZ (own_w48 hw)) (by decide)) (Cond.privateMethod_at (mvP hZ (own_w49 hw) (args := #[]))) (mvT hZ (own_w50 hw)) (by decide) (backOf (W := 0) (rm8_6 l Z a0 hw [] a1 h0 n0 Z0 F_a1_bigNumerator) hZ (own_w50 hw) (own_w10 hw) (by decide) (by decide)) (g := (mkF m 18 #[.val (.ref a1), .val (.ref a2), .val (.ref a2)] [(.ref a1)])) rfl (by rw [hml]; rfl) (Steps.refl _) (a := a1) (by rw [e2]; exact q3) q3' (argsL := []) (rest := []) (lenOf pd___Z rfl) rfl (by show 2 * 0 + _ ≤ _; exact Nat.le_of_eq rfl) (hb hby d7_18) (fun _ _ => ⟨rfl, e2, (by decide : 0 + 0 ≤ _), (by decide : 0 + 0 ≤ _)⟩)
  dsimp only [Pt.U, Pt.locs, Pt.cells, Pt.slots] at X3 l3 y3 z3 st3 hQ3
  subst l3 y3 z3
  obtain ⟨rfl, N3q, e3⟩ := hQ3
  have N3 := Fr.app N0 N3q
  obtain ⟨cq4, q4, q4'⟩ := E_a1.cell
  obtain ⟨_, _, ⟨T4, L4, k4, n4⟩, -, X4, ⟨Lc4, hQ4, l4, y4, z4⟩, st4⟩ := X3.privateBack hx (y := (⟨"com/example/hubclear/hubclear/Rational", "isSmall", "()Z"⟩ : MethodName)) hown (mvT hZ (own_w47 hw)) (mvT hZ (own_w48 hw)) (own_sel_priv (args := #[]) (y := (⟨"com/example/hubclear/hubclear/Rational", "isSmall", "()Z"⟩ : MethodName)) (mvT hZ (own_w44 hw)) rfl (Cond.privateMethod_at (mvP hZ (own_w49 hw) (args := #[]))) (mvT hZ (own_w48 hw)) (by decide)) (Cond.privateMethod_at (mvP hZ (own_w49 hw) (args := #[]))) (mvT hZ (own_w50 hw)) (by decide) (backOf (W := 0) (rm8_6 l Z a0 hw [] a1 h0 n0 Z0 F_a1_bigNumerator) hZ (own_w50 hw) (own_w10 hw) (by decide) (by decide)) (g := (mkF m 32 #[.val (.ref a1), .val (.ref a2), .val (.ref a2)] [(.ref a1)])) rfl (by rw [hml]; rfl) (Steps.refl _) (a := a1) (by rw [e3]; exact q4) q4' (argsL := []) (rest := []) (lenOf pd___Z rfl) rfl (by show 2 * 0 + _ ≤ _; exact Nat.le_of_eq rfl) (hb hby d7_32) (fun _ _ => ⟨rfl, e3, (by decide : 0 + 0 ≤ _), (by decide : 0 + 0 ≤ _)⟩)
  dsimp only [Pt.U, Pt.locs, Pt.cells, Pt.slots] at X4 l4 y4 z4 st4 hQ4
  subst l4 y4 z4
  obtain ⟨rfl, N4q, e4⟩ := hQ4
  have N4 := Fr.app N3 N4q
  obtain ⟨cq5, q5, q5'⟩ := E_a2.cell
  obtain ⟨_, _, ⟨T5, L5, k5, n5⟩, -, X5, ⟨Lc5, hQ5, l5, y5, z5⟩, st5⟩ := X4.privateBack hx (y := (⟨"com/example/hubclear/hubclear/Rational", "isSmall", "()Z"⟩ : MethodName)) hown (mvT hZ (own_w47 hw)) (mvT hZ (own_w48 hw)) (own_sel_priv (args := #[]) (y := (⟨"com/example/hubclear/hubclear/Rational", "isSmall", "()Z"⟩ : MethodName)) (mvT hZ (own_w44 hw)) rfl (Cond.privateMethod_at (mvP hZ (own_w49 hw) (args := #[]))) (mvT hZ (own_w48 hw)) (by decide)) (Cond.privateMethod_at (mvP hZ (own_w49 hw) (args := #[]))) (mvT hZ (own_w50 hw)) (by decide) (backOf (W := 0) (rm8_6 l Z a0 hw [] a2 h0 n0 Z0 F_a2_bigNumerator) hZ (own_w50 hw) (own_w10 hw) (by decide) (by decide)) (g := (mkF m 39 #[.val (.ref a1), .val (.ref a2), .val (.ref a2)] [(.ref a2)])) rfl (by rw [hml]; rfl) (Steps.refl _) (a := a2) (by rw [e4]; exact q5) q5' (argsL := []) (rest := []) (lenOf pd___Z rfl) rfl (by show 2 * 0 + _ ≤ _; exact Nat.le_of_eq rfl) (hb hby d7_39) (fun _ _ => ⟨rfl, e4, (by decide : 0 + 0 ≤ _), (by decide : 0 + 0 ≤ _)⟩)
  dsimp only [Pt.U, Pt.locs, Pt.cells, Pt.slots] at X5 l5 y5 z5 st5 hQ5
  subst l5 y5 z5
  obtain ⟨rfl, N5q, e5⟩ := hQ5
  have N5 := Fr.app N4 N5q
  obtain ⟨T6, X6, e6, st6⟩ := getF X5 hx hZ hown (host := "") (Or.inl (own_w53 hw)) Via.refl e5 F_a1_numerator (g := (mkF m 46 #[.val (.ref a1), .val (.ref a2), .val (.ref a2)] [(.ref a1)])) rfl rfl (hb hby d7_46)
  obtain ⟨T7, X7, e7, st7⟩ := getF X6 hx hZ hown (host := "") (Or.inl (own_w53 hw)) Via.refl e6 F_a2_numerator (g := (mkF m 50 #[.val (.ref a1), .val (.ref a2), .val (.ref a2)] [(.ref a2), (.long (0 : Int64))])) rfl rfl (hb hby d7_50)
  obtain ⟨fs, hr, hrun, hended, hW, hsame⟩ := X7.leave (v := some (.int (0 : Int32))) (fun h => by rw [Bd.returns] at h; cases h)
  refine ⟨_, _, pre0 _ ?_, hrun, hended, _, _, rfl, ?_, ⟨_, rfl⟩, hW, hsame.mono (by decide) (by decide)⟩
  · show Steps p.tables e below (s₁.setTop (mkF m 0 #[.val (.ref a1), .val (.ref a2), .unset] [])) _
    refine XS.aloadN X0.here hx rfl (hb hby d7_0) rfl rfl ?_
    show Steps p.tables e below (s₁.setTop (mkF m 1 #[.val (.ref a1), .val (.ref a2), .unset] [(.ref a2)])) _
    refine st1 _ ?_
    show Steps p.tables e below (T1.setTop (mkF m 4 #[.val (.ref a1), .val (.ref a2), .unset] [(.int (1 : Int32))])) _
    refine XS.ifNo X1.here hx rfl (hb hby d7_4) rfl ((if0 _ _).trans (feq (by decide : ¬ ((1 : Int32) = (0 : Int32)))).1) ?_
    show Steps p.tables e below (T1.setTop (mkF m 7 #[.val (.ref a1), .val (.ref a2), .unset] [])) _
    refine XS.aloadN X1.here hx rfl (hb hby d7_7) rfl rfl ?_
    show Steps p.tables e below (T1.setTop (mkF m 8 #[.val (.ref a1), .val (.ref a2), .unset] [(.ref a2)])) _
    refine st2 _ ?_
    show Steps p.tables e below (T2.setTop (mkF m 11 #[.val (.ref a1), .val (.ref a2), .unset] [(.ref a2)])) _
    refine XS.astoreN X2.here hx rfl (hb hby d7_11) rfl rfl (l' := #[.val (.ref a1), .val (.ref a2), .val (.ref a2)]) rfl ?_
    show Steps p.tables e below (T2.setTop (mkF m 12 #[.val (.ref a1), .val (.ref a2), .val (.ref a2)] [])) _
    refine XS.goto X2.here hx rfl (pc0 := 12) (pc' := 17) rfl (hb hby d7_12) (by decide) (by decide) ?_
    show Steps p.tables e below (T2.setTop (mkF m 17 #[.val (.ref a1), .val (.ref a2), .val (.ref a2)] [])) _
    refine XS.aloadN X2.here hx rfl (hb hby d7_17) rfl rfl ?_
    show Steps p.tables e below (T2.setTop (mkF m 18 #[.val (.ref a1), .val (.ref a2), .val (.ref a2)] [(.ref a1)])) _
    refine st3.trans ?_
    show Steps p.tables e below (T3.setTop (mkF m 21 #[.val (.ref a1), .val (.ref a2), .val (.ref a2)] [(.int (1 : Int32))])) _
    refine XS.ifYes X3.here hx rfl (pc0 := 21) (pc' := 31) rfl (hb hby d7_21) rfl ((if0 _ _).trans (feq (by decide : ¬ ((1 : Int32) = (0 : Int32)))).2) (by decide) (by decide) ?_
    show Steps p.tables e below (T3.setTop (mkF m 31 #[.val (.ref a1), .val (.ref a2), .val (.ref a2)] [])) _
    refine XS.aloadN X3.here hx rfl (hb hby d7_31) rfl rfl ?_
    show Steps p.tables e below (T3.setTop (mkF m 32 #[.val (.ref a1), .val (.ref a2), .val (.ref a2)] [(.ref a1)])) _
    refine st4.trans ?_
    show Steps p.tables e below (T4.setTop (mkF m 35 #[.val (.ref a1), .val (.ref a2), .val (.ref a2)] [(.int (1 : Int32))])) _
    refine XS.ifNo X4.here hx rfl (hb hby d7_35) rfl ((if0 _ _).trans (feq (by decide : ¬ ((1 : Int32) = (0 : Int32)))).1) ?_
    show Steps p.tables e below (T4.setTop (mkF m 38 #[.val (.ref a1), .val (.ref a2), .val (.ref a2)] [])) _
    refine XS.aloadN X4.here hx rfl (hb hby d7_38) rfl rfl ?_
    show Steps p.tables e below (T4.setTop (mkF m 39 #[.val (.ref a1), .val (.ref a2), .val (.ref a2)] [(.ref a2)])) _
    refine st5.trans ?_
    show Steps p.tables e below (T5.setTop (mkF m 42 #[.val (.ref a1), .val (.ref a2), .val (.ref a2)] [(.int (1 : Int32))])) _
    refine XS.ifNo X5.here hx rfl (hb hby d7_42) rfl ((if0 _ _).trans (feq (by decide : ¬ ((1 : Int32) = (0 : Int32)))).1) ?_
    show Steps p.tables e below (T5.setTop (mkF m 45 #[.val (.ref a1), .val (.ref a2), .val (.ref a2)] [])) _
    refine XS.aloadN X5.here hx rfl (hb hby d7_45) rfl rfl ?_
    show Steps p.tables e below (T5.setTop (mkF m 46 #[.val (.ref a1), .val (.ref a2), .val (.ref a2)] [(.ref a1)])) _
    refine st6 _ ?_
    show Steps p.tables e below (T6.setTop (mkF m 49 #[.val (.ref a1), .val (.ref a2), .val (.ref a2)] [(.long (0 : Int64))])) _
    refine XS.aloadN X6.here hx rfl (hb hby d7_49) rfl rfl ?_
    show Steps p.tables e below (T6.setTop (mkF m 50 #[.val (.ref a1), .val (.ref a2), .val (.ref a2)] [(.ref a2), (.long (0 : Int64))])) _
    refine st7 _ ?_
    show Steps p.tables e below (T7.setTop (mkF m 53 #[.val (.ref a1), .val (.ref a2), .val (.ref a2)] [(.long (1 : Int64)), (.long (0 : Int64))])) _
    refine XS.lcmp X7.here hx rfl (hb hby d7_53) rfl ?_
    show Steps p.tables e below (T7.setTop (mkF m 54 #[.val (.ref a1), .val (.ref a2), .val (.ref a2)] [(.int (lcmpW (0 : Int64) (1 : Int64)))])) _
    rw [(by decide : (lcmpW (0 : Int64) (1 : Int64)) = (-1 : Int32))]
    show Steps p.tables e below (T7.setTop (mkF m 54 #[.val (.ref a1), .val (.ref a2), .val (.ref a2)] [(.int (-1 : Int32))])) _
    refine XS.ifYes X7.here hx rfl (pc0 := 54) (pc' := 73) rfl (hb hby d7_54) rfl ((if0 _ _).trans (feq (by decide : ¬ ((-1 : Int32) = (0 : Int32)))).2) (by decide) (by decide) ?_
    show Steps p.tables e below (T7.setTop (mkF m 73 #[.val (.ref a1), .val (.ref a2), .val (.ref a2)] [])) _
    refine XS.iconst X7.here hx rfl (hb hby d7_73) ?_
    show Steps p.tables e below (T7.setTop (mkF m 74 #[.val (.ref a1), .val (.ref a2), .val (.ref a2)] [(.int (0 : Int32))])) _
    exact retN X7 hx (t := .boolean) Bd.returns (by simp) (hb hby d7_74) hr
  · show Q7_23 Z a1 a2 h0 n0 _ T7.heap _
    rw [e7]
    exact ⟨rfl, N5, rfl⟩
theorem ef13_24 (m : MethodId) (a1 : Addr) (p2 : Int32) (p3 : Int32) : entryFrame m #[(.ref a1), (.int p2), (.int p3)] 4 = mkF m 0 #[.val (.ref a1), .val (.int p2), .val (.int p3), .unset] [] := by first | (simp [entryFrame, mkF, argsToLocals, Value.category]; done) | rfl
def Q13_24 (Z : State) (a1 : Addr) (p2 : Int32) (p3 : Int32) (a4 : Addr) (a5 : Addr) (kc6 : ClassId) (a7 : Addr) (kc8 : ClassId) (h0 : Heap) (n0 : Nat) (v : Option Value) (h : Heap) (L : List Loc) : Prop := v = some (.int (1 : Int32)) ∧ Fr n0 L ∧ h = h0
set_option maxRecDepth 65536 in
set_option maxHeartbeats 40000000 in
theorem rm13_24 (l : Launch) (Z : State) (a0 : Array Value) (hw : ∀ d ∈ tables_1, d.before a0 Z = true) (ws : List Jvm.Cond) (a1 : Addr) (p2 : Int32) (p3 : Int32) (a4 : Addr) (a5 : Addr) (kc6 : ClassId) (a7 : Addr) (kc8 : ClassId) (h0 : Heap) (n0 : Nat) (Z0 : n0 ≤ h0.size) (hc0 : p3 = p2) (S_Rational_ONE : Sta Z h0 "com/example/hubclear/hubclear/Rational" "ONE" "Lcom/example/hubclear/hubclear/Rational;" (.ref a4)) (E_a1 : Exa Z h0 a1 "com/example/hubclear/hubclear/clearing/SparseVector") (F_a1_indices : Fld Z h0 a1 "com/example/hubclear/hubclear/clearing/SparseVector" "indices" "[I" (.ref a5)) (F_a1_size : Fld Z h0 a1 "com/example/hubclear/hubclear/clearing/SparseVector" "size" "I" (.int (1 : Int32))) (V_a5 : Arv Z h0 a5 kc6 .int (1 : Int32) [(.int p2)] (.int (0 : Int32))) (hc6 : ¬ (p2 < p3)) (hc7 : ¬ (p3 < p2)) (F_a1_values : Fld Z h0 a1 "com/example/hubclear/hubclear/clearing/SparseVector" "values" "[Lcom/example/hubclear/hubclear/Rational;" (.ref a7)) (V_a7 : Arv Z h0 a7 kc8 (.object "com/example/hubclear/hubclear/Rational") (1 : Int32) [(.ref a4)] .null) (E_a4 : Exa Z h0 a4 "com/example/hubclear/hubclear/Rational") (F_a4_bigNumerator : Fld Z h0 a4 "com/example/hubclear/hubclear/Rational" "bigNumerator" "Ljava/math/BigInteger;" .null) (F_a4_numerator : Fld Z h0 a4 "com/example/hubclear/hubclear/Rational" "numerator" "J" (.long (1 : Int64))) (F_a4_denominator : Fld Z h0 a4 "com/example/hubclear/hubclear/Rational" "denominator" "J" (.long (1 : Int64))) :
    MetFree l (⟨"com/example/hubclear/hubclear/clearing/SparseVectorUnitPinLaw", "holdsAt", "(Lcom/example/hubclear/hubclear/clearing/SparseVector;II)Z"⟩ : MethodName) (head1 (Jvm.Cond.code (⟨"com/example/hubclear/hubclear/clearing/SparseVectorUnitPinLaw", "holdsAt", "(Lcom/example/hubclear/hubclear/clearing/SparseVector;II)Z"⟩ : MethodName) method_2_code 4 (some .boolean) :: ws) ({ frames := 3, cells := 0, slots := 0, locals := 49 } : Room)) (fun a U => a = #[(.ref a1), (.int p2), (.int p3)] ∧ Z.Warmed39 U.vm ∧ U.heap = h0) (fun _ _ _ _ _ => True) (fun _ U o U' => ∃ v L, o = .returned v ∧ Q13_24 Z a1 p2 p3 a4 a5 kc6 a7 kc8 h0 n0 v U'.heap L ∧ FrameEnd U o U' L ({ frames := 3, cells := 0, slots := 0, locals := 49 } : Room).cells ({ frames := 3, cells := 0, slots := 0, locals := 49 } : Room).slots) := by
  refine MetFree.of_bodySF (plainFor_of_name pn_com_example_hubclear_hubclear_clearing_SparseVectorUnitPinLaw) hisR ?_
  intro p e s m args below meth c s₁ Bd hml0 hP hK
  obtain ⟨rfl, hZ, hh⟩ := hP
  have hx := Bd.exec
  have hby := Bd.bytes
  have hml : c.maxLocals = 4 := hml0
  have hown : s.vm.findClass "com/example/hubclear/hubclear/clearing/SparseVectorUnitPinLaw" = some m.cls := findClass_of_methodNamed Bd.named
  have hnm := (name_of_methodNamed Bd.named Bd.method).1
  have X0 : Stand p l e ({ frames := 3, cells := 0, slots := 0, locals := 49 } : Room) s m #[(.ref a1), (.int p2), (.int p3)] below meth c s₁ [] 0 0 := Stand.of_body Bd
  have e0 : s₁.heap = h0 := by rw [← hh, Bd.state]; rfl
  have N0 := Fr.nil n0
  have pre0 : ∀ t, Steps p.tables e below (s₁.setTop (mkF m 0 #[.val (.ref a1), .val (.int p2), .val (.int p3), .unset] [])) t → Steps p.tables e below (s₁.setTop (entryFrame m #[(.ref a1), (.int p2), (.int p3)] 4)) t := fun t k => castTop (ef13_24 m a1 p2 p3) k
  obtain ⟨T1, X1, e1, st1⟩ := getS2 X0 hx hZ hown (host := "") (Or.inl (own_w35 hw)) Via.refl e0 S_Rational_ONE (g := (mkF m 5 #[.val (.ref a1), .val (.int p2), .val (.int p3), .unset] [])) rfl (hb hby d13_5)
  obtain ⟨cq2, kq2, q2a, q2b, q2c⟩ := isOf hZ e1 E_a1
  obtain ⟨_, _, ⟨T2, L2, k2, n2⟩, -, X2, ⟨Lc2, hQ2, l2, y2, z2⟩, st2⟩ := X1.virtualBack hx (y := (⟨"com/example/hubclear/hubclear/clearing/SparseVector", "get", "(I)Lcom/example/hubclear/hubclear/Rational;"⟩ : MethodName)) (z := (⟨"com/example/hubclear/hubclear/clearing/SparseVector", "get", "(I)Lcom/example/hubclear/hubclear/Rational;"⟩ : MethodName)) hown (mvT hZ (own_w57 hw)) (mvT hZ (own_w58 hw)) (notFace_of_selects (args := #[]) (mvT hZ (own_w60 hw))) (mvT hZ (own_w60 hw)) (mvT hZ (own_w59 hw)) (by decide) (backOf (W := 1) (rm9_21 l Z a0 hw [] a1 p3 a5 kc6 p2 a7 kc8 a4 h0 n0 Z0 F_a1_indices F_a1_size V_a5 hc6 hc7 F_a1_values V_a7) hZ (own_w61 hw) (own_w2 hw) (by decide) (by decide)) q2a q2c (g := (mkF m 18 #[.val (.ref a1), .val (.int p2), .val (.int p3), .val (.ref a4)] [(.int p3), (.ref a1), (.ref a4)])) rfl (by rw [hml]; rfl) (Steps.refl _) (argsL := [(.int p3)]) (rest := [(.ref a4)]) (lenOf pd__I_Lcom_example_hubclear_hubclear_Rational_ rfl) rfl (by show 2 * 0 + _ ≤ _; exact Nat.le_of_eq rfl) (hb hby d13_18) (fun _ _ => ⟨rfl, e1, (by decide : 0 + 0 ≤ _), (by decide : 0 + 0 ≤ _)⟩)
  dsimp only [Pt.U, Pt.locs, Pt.cells, Pt.slots] at X2 l2 y2 z2 st2 hQ2
  subst l2 y2 z2
  obtain ⟨rfl, N2q, e2⟩ := hQ2
  have N2 := Fr.app N0 N2q
  obtain ⟨cq3, kq3, q3a, q3b, q3c⟩ := isOf hZ e2 E_a4
  obtain ⟨_, _, ⟨T3, L3, k3, n3⟩, -, X3, ⟨Lc3, hQ3, l3, y3, z3⟩, st3⟩ := X2.virtualBack hx (y := (⟨"com/example/hubclear/hubclear/Rational", "equals", "(Ljava/lang/Object;)Z"⟩ : MethodName)) (z := (⟨"com/example/hubclear/hubclear/Rational", "equals", "(Ljava/lang/Object;)Z"⟩ : MethodName)) hown (mvT hZ (own_w41 hw)) (mvT hZ (own_w42 hw)) (notFace_of_selects (args := #[]) (mvT hZ (own_w44 hw))) (mvT hZ (own_w44 hw)) (mvT hZ (own_w43 hw)) (by decide) (backOf (W := 0) (rm7_7 l Z a0 hw [] a4 h0 n0 Z0 E_a4 F_a4_bigNumerator F_a4_numerator F_a4_denominator) hZ (own_w45 hw) (own_w10 hw) (by decide) (by decide)) q3a q3c (g := (mkF m 21 #[.val (.ref a1), .val (.int p2), .val (.int p3), .val (.ref a4)] [(.ref a4), (.ref a4)])) rfl (by rw [hml]; rfl) (Steps.refl _) (argsL := [(.ref a4)]) (rest := []) (lenOf pd__Ljava_lang_Object__Z rfl) rfl (by show 2 * 0 + _ ≤ _; exact Nat.le_of_eq rfl) (hb hby d13_21) (fun _ _ => ⟨rfl, e2, (by decide : 0 + 0 ≤ _), (by decide : 0 + 0 ≤ _)⟩)
  dsimp only [Pt.U, Pt.locs, Pt.cells, Pt.slots] at X3 l3 y3 z3 st3 hQ3
  subst l3 y3 z3
  obtain ⟨rfl, N3q, e3⟩ := hQ3
  have N3 := Fr.app N2 N3q
  obtain ⟨fs, hr, hrun, hended, hW, hsame⟩ := X3.leave (v := some (.int (1 : Int32))) (fun h => by rw [Bd.returns] at h; cases h)
  refine ⟨_, _, pre0 _ ?_, hrun, hended, _, _, rfl, ?_, ⟨_, rfl⟩, hW, hsame.mono (by decide) (by decide)⟩
  · show Steps p.tables e below (s₁.setTop (mkF m 0 #[.val (.ref a1), .val (.int p2), .val (.int p3), .unset] [])) _
    refine XS.iloadN X0.here hx rfl (hb hby d13_0) rfl ?_
    show Steps p.tables e below (s₁.setTop (mkF m 1 #[.val (.ref a1), .val (.int p2), .val (.int p3), .unset] [(.int p3)])) _
    refine XS.iloadN X0.here hx rfl (hb hby d13_1) rfl ?_
    show Steps p.tables e below (s₁.setTop (mkF m 2 #[.val (.ref a1), .val (.int p2), .val (.int p3), .unset] [(.int p2), (.int p3)])) _
    refine XS.icmpNo X0.here hx rfl (hb hby d13_2) rfl (teq hc0).2 ?_
    show Steps p.tables e below (s₁.setTop (mkF m 5 #[.val (.ref a1), .val (.int p2), .val (.int p3), .unset] [])) _
    refine st1 _ ?_
    show Steps p.tables e below (T1.setTop (mkF m 8 #[.val (.ref a1), .val (.int p2), .val (.int p3), .unset] [(.ref a4)])) _
    refine XS.goto X1.here hx rfl (pc0 := 8) (pc' := 14) rfl (hb hby d13_8) (by decide) (by decide) ?_
    show Steps p.tables e below (T1.setTop (mkF m 14 #[.val (.ref a1), .val (.int p2), .val (.int p3), .unset] [(.ref a4)])) _
    refine XS.astoreN X1.here hx rfl (hb hby d13_14) rfl rfl (l' := #[.val (.ref a1), .val (.int p2), .val (.int p3), .val (.ref a4)]) rfl ?_
    show Steps p.tables e below (T1.setTop (mkF m 15 #[.val (.ref a1), .val (.int p2), .val (.int p3), .val (.ref a4)] [])) _
    refine XS.aloadN X1.here hx rfl (hb hby d13_15) rfl rfl ?_
    show Steps p.tables e below (T1.setTop (mkF m 16 #[.val (.ref a1), .val (.int p2), .val (.int p3), .val (.ref a4)] [(.ref a4)])) _
    refine XS.aloadN X1.here hx rfl (hb hby d13_16) rfl rfl ?_
    show Steps p.tables e below (T1.setTop (mkF m 17 #[.val (.ref a1), .val (.int p2), .val (.int p3), .val (.ref a4)] [(.ref a1), (.ref a4)])) _
    refine XS.iloadN X1.here hx rfl (hb hby d13_17) rfl ?_
    show Steps p.tables e below (T1.setTop (mkF m 18 #[.val (.ref a1), .val (.int p2), .val (.int p3), .val (.ref a4)] [(.int p3), (.ref a1), (.ref a4)])) _
    refine st2.trans ?_
    show Steps p.tables e below (T2.setTop (mkF m 21 #[.val (.ref a1), .val (.int p2), .val (.int p3), .val (.ref a4)] [(.ref a4), (.ref a4)])) _
    refine st3.trans ?_
    show Steps p.tables e below (T3.setTop (mkF m 24 #[.val (.ref a1), .val (.int p2), .val (.int p3), .val (.ref a4)] [(.int (1 : Int32))])) _
    exact retN X3 hx (t := .boolean) Bd.returns (by simp) (hb hby d13_24) hr
  · show Q13_24 Z a1 p2 p3 a4 a5 kc6 a7 kc8 h0 n0 _ T3.heap _
    rw [e3]
    exact ⟨rfl, N3, rfl⟩
theorem ef13_25 (m : MethodId) (a1 : Addr) (p2 : Int32) (p3 : Int32) : entryFrame m #[(.ref a1), (.int p2), (.int p3)] 4 = mkF m 0 #[.val (.ref a1), .val (.int p2), .val (.int p3), .unset] [] := by first | (simp [entryFrame, mkF, argsToLocals, Value.category]; done) | rfl
def Q13_25 (Z : State) (a1 : Addr) (p2 : Int32) (p3 : Int32) (a4 : Addr) (a5 : Addr) (kc6 : ClassId) (h0 : Heap) (n0 : Nat) (v : Option Value) (h : Heap) (L : List Loc) : Prop := v = some (.int (1 : Int32)) ∧ Fr n0 L ∧ h = h0
set_option maxRecDepth 65536 in
set_option maxHeartbeats 40000000 in
theorem rm13_25 (l : Launch) (Z : State) (a0 : Array Value) (hw : ∀ d ∈ tables_1, d.before a0 Z = true) (ws : List Jvm.Cond) (a1 : Addr) (p2 : Int32) (p3 : Int32) (a4 : Addr) (a5 : Addr) (kc6 : ClassId) (h0 : Heap) (n0 : Nat) (Z0 : n0 ≤ h0.size) (hc0 : ¬ (p3 = p2)) (S_Rational_ZERO : Sta Z h0 "com/example/hubclear/hubclear/Rational" "ZERO" "Lcom/example/hubclear/hubclear/Rational;" (.ref a4)) (E_a1 : Exa Z h0 a1 "com/example/hubclear/hubclear/clearing/SparseVector") (F_a1_indices : Fld Z h0 a1 "com/example/hubclear/hubclear/clearing/SparseVector" "indices" "[I" (.ref a5)) (F_a1_size : Fld Z h0 a1 "com/example/hubclear/hubclear/clearing/SparseVector" "size" "I" (.int (1 : Int32))) (V_a5 : Arv Z h0 a5 kc6 .int (1 : Int32) [(.int p2)] (.int (0 : Int32))) (hc6 : p2 < p3) (E_a4 : Exa Z h0 a4 "com/example/hubclear/hubclear/Rational") (F_a4_bigNumerator : Fld Z h0 a4 "com/example/hubclear/hubclear/Rational" "bigNumerator" "Ljava/math/BigInteger;" .null) (F_a4_numerator : Fld Z h0 a4 "com/example/hubclear/hubclear/Rational" "numerator" "J" (.long (0 : Int64))) (F_a4_denominator : Fld Z h0 a4 "com/example/hubclear/hubclear/Rational" "denominator" "J" (.long (1 : Int64))) :
    MetFree l (⟨"com/example/hubclear/hubclear/clearing/SparseVectorUnitPinLaw", "holdsAt", "(Lcom/example/hubclear/hubclear/clearing/SparseVector;II)Z"⟩ : MethodName) (head1 (Jvm.Cond.code (⟨"com/example/hubclear/hubclear/clearing/SparseVectorUnitPinLaw", "holdsAt", "(Lcom/example/hubclear/hubclear/clearing/SparseVector;II)Z"⟩ : MethodName) method_2_code 4 (some .boolean) :: ws) ({ frames := 3, cells := 0, slots := 0, locals := 49 } : Room)) (fun a U => a = #[(.ref a1), (.int p2), (.int p3)] ∧ Z.Warmed39 U.vm ∧ U.heap = h0) (fun _ _ _ _ _ => True) (fun _ U o U' => ∃ v L, o = .returned v ∧ Q13_25 Z a1 p2 p3 a4 a5 kc6 h0 n0 v U'.heap L ∧ FrameEnd U o U' L ({ frames := 3, cells := 0, slots := 0, locals := 49 } : Room).cells ({ frames := 3, cells := 0, slots := 0, locals := 49 } : Room).slots) := by
  refine MetFree.of_bodySF (plainFor_of_name pn_com_example_hubclear_hubclear_clearing_SparseVectorUnitPinLaw) hisR ?_
  intro p e s m args below meth c s₁ Bd hml0 hP hK
  obtain ⟨rfl, hZ, hh⟩ := hP
  have hx := Bd.exec
  have hby := Bd.bytes
  have hml : c.maxLocals = 4 := hml0
  have hown : s.vm.findClass "com/example/hubclear/hubclear/clearing/SparseVectorUnitPinLaw" = some m.cls := findClass_of_methodNamed Bd.named
  have hnm := (name_of_methodNamed Bd.named Bd.method).1
  have X0 : Stand p l e ({ frames := 3, cells := 0, slots := 0, locals := 49 } : Room) s m #[(.ref a1), (.int p2), (.int p3)] below meth c s₁ [] 0 0 := Stand.of_body Bd
  have e0 : s₁.heap = h0 := by rw [← hh, Bd.state]; rfl
  have N0 := Fr.nil n0
  have pre0 : ∀ t, Steps p.tables e below (s₁.setTop (mkF m 0 #[.val (.ref a1), .val (.int p2), .val (.int p3), .unset] [])) t → Steps p.tables e below (s₁.setTop (entryFrame m #[(.ref a1), (.int p2), (.int p3)] 4)) t := fun t k => castTop (ef13_25 m a1 p2 p3) k
  obtain ⟨T1, X1, e1, st1⟩ := getS2 X0 hx hZ hown (host := "") (Or.inl (own_w76 hw)) Via.refl e0 S_Rational_ZERO (g := (mkF m 11 #[.val (.ref a1), .val (.int p2), .val (.int p3), .unset] [])) rfl (hb hby d13_11)
  obtain ⟨cq2, kq2, q2a, q2b, q2c⟩ := isOf hZ e1 E_a1
  obtain ⟨_, _, ⟨T2, L2, k2, n2⟩, -, X2, ⟨Lc2, hQ2, l2, y2, z2⟩, st2⟩ := X1.virtualBack hx (y := (⟨"com/example/hubclear/hubclear/clearing/SparseVector", "get", "(I)Lcom/example/hubclear/hubclear/Rational;"⟩ : MethodName)) (z := (⟨"com/example/hubclear/hubclear/clearing/SparseVector", "get", "(I)Lcom/example/hubclear/hubclear/Rational;"⟩ : MethodName)) hown (mvT hZ (own_w57 hw)) (mvT hZ (own_w58 hw)) (notFace_of_selects (args := #[]) (mvT hZ (own_w60 hw))) (mvT hZ (own_w60 hw)) (mvT hZ (own_w59 hw)) (by decide) (backOf (W := 1) (rm9_18 l Z a0 hw [] a1 p3 a5 kc6 p2 a4 h0 n0 Z0 F_a1_indices F_a1_size V_a5 hc6 S_Rational_ZERO) hZ (own_w61 hw) (own_w2 hw) (by decide) (by decide)) q2a q2c (g := (mkF m 18 #[.val (.ref a1), .val (.int p2), .val (.int p3), .val (.ref a4)] [(.int p3), (.ref a1), (.ref a4)])) rfl (by rw [hml]; rfl) (Steps.refl _) (argsL := [(.int p3)]) (rest := [(.ref a4)]) (lenOf pd__I_Lcom_example_hubclear_hubclear_Rational_ rfl) rfl (by show 2 * 0 + _ ≤ _; exact Nat.le_of_eq rfl) (hb hby d13_18) (fun _ _ => ⟨rfl, e1, (by decide : 0 + 0 ≤ _), (by decide : 0 + 0 ≤ _)⟩)
  dsimp only [Pt.U, Pt.locs, Pt.cells, Pt.slots] at X2 l2 y2 z2 st2 hQ2
  subst l2 y2 z2
  obtain ⟨rfl, N2q, e2⟩ := hQ2
  have N2 := Fr.app N0 N2q
  obtain ⟨cq3, kq3, q3a, q3b, q3c⟩ := isOf hZ e2 E_a4
  obtain ⟨_, _, ⟨T3, L3, k3, n3⟩, -, X3, ⟨Lc3, hQ3, l3, y3, z3⟩, st3⟩ := X2.virtualBack hx (y := (⟨"com/example/hubclear/hubclear/Rational", "equals", "(Ljava/lang/Object;)Z"⟩ : MethodName)) (z := (⟨"com/example/hubclear/hubclear/Rational", "equals", "(Ljava/lang/Object;)Z"⟩ : MethodName)) hown (mvT hZ (own_w41 hw)) (mvT hZ (own_w42 hw)) (notFace_of_selects (args := #[]) (mvT hZ (own_w44 hw))) (mvT hZ (own_w44 hw)) (mvT hZ (own_w43 hw)) (by decide) (backOf (W := 0) (rm7_22 l Z a0 hw [] a4 h0 n0 Z0 E_a4 F_a4_bigNumerator F_a4_numerator F_a4_denominator) hZ (own_w45 hw) (own_w10 hw) (by decide) (by decide)) q3a q3c (g := (mkF m 21 #[.val (.ref a1), .val (.int p2), .val (.int p3), .val (.ref a4)] [(.ref a4), (.ref a4)])) rfl (by rw [hml]; rfl) (Steps.refl _) (argsL := [(.ref a4)]) (rest := []) (lenOf pd__Ljava_lang_Object__Z rfl) rfl (by show 2 * 0 + _ ≤ _; exact Nat.le_of_eq rfl) (hb hby d13_21) (fun _ _ => ⟨rfl, e2, (by decide : 0 + 0 ≤ _), (by decide : 0 + 0 ≤ _)⟩)
  dsimp only [Pt.U, Pt.locs, Pt.cells, Pt.slots] at X3 l3 y3 z3 st3 hQ3
  subst l3 y3 z3
  obtain ⟨rfl, N3q, e3⟩ := hQ3
  have N3 := Fr.app N2 N3q
  obtain ⟨fs, hr, hrun, hended, hW, hsame⟩ := X3.leave (v := some (.int (1 : Int32))) (fun h => by rw [Bd.returns] at h; cases h)
  refine ⟨_, _, pre0 _ ?_, hrun, hended, _, _, rfl, ?_, ⟨_, rfl⟩, hW, hsame.mono (by decide) (by decide)⟩
  · show Steps p.tables e below (s₁.setTop (mkF m 0 #[.val (.ref a1), .val (.int p2), .val (.int p3), .unset] [])) _
    refine XS.iloadN X0.here hx rfl (hb hby d13_0) rfl ?_
    show Steps p.tables e below (s₁.setTop (mkF m 1 #[.val (.ref a1), .val (.int p2), .val (.int p3), .unset] [(.int p3)])) _
    refine XS.iloadN X0.here hx rfl (hb hby d13_1) rfl ?_
    show Steps p.tables e below (s₁.setTop (mkF m 2 #[.val (.ref a1), .val (.int p2), .val (.int p3), .unset] [(.int p2), (.int p3)])) _
    refine XS.icmpYes X0.here hx rfl (pc0 := 2) (pc' := 11) rfl (hb hby d13_2) rfl (feq hc0).2 (by decide) (by decide) ?_
    show Steps p.tables e below (s₁.setTop (mkF m 11 #[.val (.ref a1), .val (.int p2), .val (.int p3), .unset] [])) _
    refine st1 _ ?_
    show Steps p.tables e below (T1.setTop (mkF m 14 #[.val (.ref a1), .val (.int p2), .val (.int p3), .unset] [(.ref a4)])) _
    refine XS.astoreN X1.here hx rfl (hb hby d13_14) rfl rfl (l' := #[.val (.ref a1), .val (.int p2), .val (.int p3), .val (.ref a4)]) rfl ?_
    show Steps p.tables e below (T1.setTop (mkF m 15 #[.val (.ref a1), .val (.int p2), .val (.int p3), .val (.ref a4)] [])) _
    refine XS.aloadN X1.here hx rfl (hb hby d13_15) rfl rfl ?_
    show Steps p.tables e below (T1.setTop (mkF m 16 #[.val (.ref a1), .val (.int p2), .val (.int p3), .val (.ref a4)] [(.ref a4)])) _
    refine XS.aloadN X1.here hx rfl (hb hby d13_16) rfl rfl ?_
    show Steps p.tables e below (T1.setTop (mkF m 17 #[.val (.ref a1), .val (.int p2), .val (.int p3), .val (.ref a4)] [(.ref a1), (.ref a4)])) _
    refine XS.iloadN X1.here hx rfl (hb hby d13_17) rfl ?_
    show Steps p.tables e below (T1.setTop (mkF m 18 #[.val (.ref a1), .val (.int p2), .val (.int p3), .val (.ref a4)] [(.int p3), (.ref a1), (.ref a4)])) _
    refine st2.trans ?_
    show Steps p.tables e below (T2.setTop (mkF m 21 #[.val (.ref a1), .val (.int p2), .val (.int p3), .val (.ref a4)] [(.ref a4), (.ref a4)])) _
    refine st3.trans ?_
    show Steps p.tables e below (T3.setTop (mkF m 24 #[.val (.ref a1), .val (.int p2), .val (.int p3), .val (.ref a4)] [(.int (1 : Int32))])) _
    exact retN X3 hx (t := .boolean) Bd.returns (by simp) (hb hby d13_24) hr
  · show Q13_25 Z a1 p2 p3 a4 a5 kc6 h0 n0 _ T3.heap _
    rw [e3]
    exact ⟨rfl, N3, rfl⟩
theorem ef13_26 (m : MethodId) (a1 : Addr) (p2 : Int32) (p3 : Int32) : entryFrame m #[(.ref a1), (.int p2), (.int p3)] 4 = mkF m 0 #[.val (.ref a1), .val (.int p2), .val (.int p3), .unset] [] := by first | (simp [entryFrame, mkF, argsToLocals, Value.category]; done) | rfl
def Q13_26 (Z : State) (a1 : Addr) (p2 : Int32) (p3 : Int32) (a4 : Addr) (a5 : Addr) (kc6 : ClassId) (h0 : Heap) (n0 : Nat) (v : Option Value) (h : Heap) (L : List Loc) : Prop := v = some (.int (1 : Int32)) ∧ Fr n0 L ∧ h = h0
set_option maxRecDepth 65536 in
set_option maxHeartbeats 40000000 in
theorem rm13_26 (l : Launch) (Z : State) (a0 : Array Value) (hw : ∀ d ∈ tables_1, d.before a0 Z = true) (ws : List Jvm.Cond) (a1 : Addr) (p2 : Int32) (p3 : Int32) (a4 : Addr) (a5 : Addr) (kc6 : ClassId) (h0 : Heap) (n0 : Nat) (Z0 : n0 ≤ h0.size) (hc0 : ¬ (p3 = p2)) (S_Rational_ZERO : Sta Z h0 "com/example/hubclear/hubclear/Rational" "ZERO" "Lcom/example/hubclear/hubclear/Rational;" (.ref a4)) (E_a1 : Exa Z h0 a1 "com/example/hubclear/hubclear/clearing/SparseVector") (F_a1_indices : Fld Z h0 a1 "com/example/hubclear/hubclear/clearing/SparseVector" "indices" "[I" (.ref a5)) (F_a1_size : Fld Z h0 a1 "com/example/hubclear/hubclear/clearing/SparseVector" "size" "I" (.int (1 : Int32))) (V_a5 : Arv Z h0 a5 kc6 .int (1 : Int32) [(.int p2)] (.int (0 : Int32))) (hc6 : ¬ (p2 < p3)) (hc7 : p3 < p2) (E_a4 : Exa Z h0 a4 "com/example/hubclear/hubclear/Rational") (F_a4_bigNumerator : Fld Z h0 a4 "com/example/hubclear/hubclear/Rational" "bigNumerator" "Ljava/math/BigInteger;" .null) (F_a4_numerator : Fld Z h0 a4 "com/example/hubclear/hubclear/Rational" "numerator" "J" (.long (0 : Int64))) (F_a4_denominator : Fld Z h0 a4 "com/example/hubclear/hubclear/Rational" "denominator" "J" (.long (1 : Int64))) :
    MetFree l (⟨"com/example/hubclear/hubclear/clearing/SparseVectorUnitPinLaw", "holdsAt", "(Lcom/example/hubclear/hubclear/clearing/SparseVector;II)Z"⟩ : MethodName) (head1 (Jvm.Cond.code (⟨"com/example/hubclear/hubclear/clearing/SparseVectorUnitPinLaw", "holdsAt", "(Lcom/example/hubclear/hubclear/clearing/SparseVector;II)Z"⟩ : MethodName) method_2_code 4 (some .boolean) :: ws) ({ frames := 3, cells := 0, slots := 0, locals := 49 } : Room)) (fun a U => a = #[(.ref a1), (.int p2), (.int p3)] ∧ Z.Warmed39 U.vm ∧ U.heap = h0) (fun _ _ _ _ _ => True) (fun _ U o U' => ∃ v L, o = .returned v ∧ Q13_26 Z a1 p2 p3 a4 a5 kc6 h0 n0 v U'.heap L ∧ FrameEnd U o U' L ({ frames := 3, cells := 0, slots := 0, locals := 49 } : Room).cells ({ frames := 3, cells := 0, slots := 0, locals := 49 } : Room).slots) := by
  refine MetFree.of_bodySF (plainFor_of_name pn_com_example_hubclear_hubclear_clearing_SparseVectorUnitPinLaw) hisR ?_
  intro p e s m args below meth c s₁ Bd hml0 hP hK
  obtain ⟨rfl, hZ, hh⟩ := hP
  have hx := Bd.exec
  have hby := Bd.bytes
  have hml : c.maxLocals = 4 := hml0
  have hown : s.vm.findClass "com/example/hubclear/hubclear/clearing/SparseVectorUnitPinLaw" = some m.cls := findClass_of_methodNamed Bd.named
  have hnm := (name_of_methodNamed Bd.named Bd.method).1
  have X0 : Stand p l e ({ frames := 3, cells := 0, slots := 0, locals := 49 } : Room) s m #[(.ref a1), (.int p2), (.int p3)] below meth c s₁ [] 0 0 := Stand.of_body Bd
  have e0 : s₁.heap = h0 := by rw [← hh, Bd.state]; rfl
  have N0 := Fr.nil n0
  have pre0 : ∀ t, Steps p.tables e below (s₁.setTop (mkF m 0 #[.val (.ref a1), .val (.int p2), .val (.int p3), .unset] [])) t → Steps p.tables e below (s₁.setTop (entryFrame m #[(.ref a1), (.int p2), (.int p3)] 4)) t := fun t k => castTop (ef13_26 m a1 p2 p3) k
  obtain ⟨T1, X1, e1, st1⟩ := getS2 X0 hx hZ hown (host := "") (Or.inl (own_w76 hw)) Via.refl e0 S_Rational_ZERO (g := (mkF m 11 #[.val (.ref a1), .val (.int p2), .val (.int p3), .unset] [])) rfl (hb hby d13_11)
  obtain ⟨cq2, kq2, q2a, q2b, q2c⟩ := isOf hZ e1 E_a1
  obtain ⟨_, _, ⟨T2, L2, k2, n2⟩, -, X2, ⟨Lc2, hQ2, l2, y2, z2⟩, st2⟩ := X1.virtualBack hx (y := (⟨"com/example/hubclear/hubclear/clearing/SparseVector", "get", "(I)Lcom/example/hubclear/hubclear/Rational;"⟩ : MethodName)) (z := (⟨"com/example/hubclear/hubclear/clearing/SparseVector", "get", "(I)Lcom/example/hubclear/hubclear/Rational;"⟩ : MethodName)) hown (mvT hZ (own_w57 hw)) (mvT hZ (own_w58 hw)) (notFace_of_selects (args := #[]) (mvT hZ (own_w60 hw))) (mvT hZ (own_w60 hw)) (mvT hZ (own_w59 hw)) (by decide) (backOf (W := 1) (rm9_20 l Z a0 hw [] a1 p3 a5 kc6 p2 a4 h0 n0 Z0 F_a1_indices F_a1_size V_a5 hc6 hc7 S_Rational_ZERO) hZ (own_w61 hw) (own_w2 hw) (by decide) (by decide)) q2a q2c (g := (mkF m 18 #[.val (.ref a1), .val (.int p2), .val (.int p3), .val (.ref a4)] [(.int p3), (.ref a1), (.ref a4)])) rfl (by rw [hml]; rfl) (Steps.refl _) (argsL := [(.int p3)]) (rest := [(.ref a4)]) (lenOf pd__I_Lcom_example_hubclear_hubclear_Rational_ rfl) rfl (by show 2 * 0 + _ ≤ _; exact Nat.le_of_eq rfl) (hb hby d13_18) (fun _ _ => ⟨rfl, e1, (by decide : 0 + 0 ≤ _), (by decide : 0 + 0 ≤ _)⟩)
  dsimp only [Pt.U, Pt.locs, Pt.cells, Pt.slots] at X2 l2 y2 z2 st2 hQ2
  subst l2 y2 z2
  obtain ⟨rfl, N2q, e2⟩ := hQ2
  have N2 := Fr.app N0 N2q
  obtain ⟨cq3, kq3, q3a, q3b, q3c⟩ := isOf hZ e2 E_a4
  obtain ⟨_, _, ⟨T3, L3, k3, n3⟩, -, X3, ⟨Lc3, hQ3, l3, y3, z3⟩, st3⟩ := X2.virtualBack hx (y := (⟨"com/example/hubclear/hubclear/Rational", "equals", "(Ljava/lang/Object;)Z"⟩ : MethodName)) (z := (⟨"com/example/hubclear/hubclear/Rational", "equals", "(Ljava/lang/Object;)Z"⟩ : MethodName)) hown (mvT hZ (own_w41 hw)) (mvT hZ (own_w42 hw)) (notFace_of_selects (args := #[]) (mvT hZ (own_w44 hw))) (mvT hZ (own_w44 hw)) (mvT hZ (own_w43 hw)) (by decide) (backOf (W := 0) (rm7_22 l Z a0 hw [] a4 h0 n0 Z0 E_a4 F_a4_bigNumerator F_a4_numerator F_a4_denominator) hZ (own_w45 hw) (own_w10 hw) (by decide) (by decide)) q3a q3c (g := (mkF m 21 #[.val (.ref a1), .val (.int p2), .val (.int p3), .val (.ref a4)] [(.ref a4), (.ref a4)])) rfl (by rw [hml]; rfl) (Steps.refl _) (argsL := [(.ref a4)]) (rest := []) (lenOf pd__Ljava_lang_Object__Z rfl) rfl (by show 2 * 0 + _ ≤ _; exact Nat.le_of_eq rfl) (hb hby d13_21) (fun _ _ => ⟨rfl, e2, (by decide : 0 + 0 ≤ _), (by decide : 0 + 0 ≤ _)⟩)
  dsimp only [Pt.U, Pt.locs, Pt.cells, Pt.slots] at X3 l3 y3 z3 st3 hQ3
  subst l3 y3 z3
  obtain ⟨rfl, N3q, e3⟩ := hQ3
  have N3 := Fr.app N2 N3q
  obtain ⟨fs, hr, hrun, hended, hW, hsame⟩ := X3.leave (v := some (.int (1 : Int32))) (fun h => by rw [Bd.returns] at h; cases h)
  refine ⟨_, _, pre0 _ ?_, hrun, hended, _, _, rfl, ?_, ⟨_, rfl⟩, hW, hsame.mono (by decide) (by decide)⟩
  · show Steps p.tables e below (s₁.setTop (mkF m 0 #[.val (.ref a1), .val (.int p2), .val (.int p3), .unset] [])) _
    refine XS.iloadN X0.here hx rfl (hb hby d13_0) rfl ?_
    show Steps p.tables e below (s₁.setTop (mkF m 1 #[.val (.ref a1), .val (.int p2), .val (.int p3), .unset] [(.int p3)])) _
    refine XS.iloadN X0.here hx rfl (hb hby d13_1) rfl ?_
    show Steps p.tables e below (s₁.setTop (mkF m 2 #[.val (.ref a1), .val (.int p2), .val (.int p3), .unset] [(.int p2), (.int p3)])) _
    refine XS.icmpYes X0.here hx rfl (pc0 := 2) (pc' := 11) rfl (hb hby d13_2) rfl (feq hc0).2 (by decide) (by decide) ?_
    show Steps p.tables e below (s₁.setTop (mkF m 11 #[.val (.ref a1), .val (.int p2), .val (.int p3), .unset] [])) _
    refine st1 _ ?_
    show Steps p.tables e below (T1.setTop (mkF m 14 #[.val (.ref a1), .val (.int p2), .val (.int p3), .unset] [(.ref a4)])) _
    refine XS.astoreN X1.here hx rfl (hb hby d13_14) rfl rfl (l' := #[.val (.ref a1), .val (.int p2), .val (.int p3), .val (.ref a4)]) rfl ?_
    show Steps p.tables e below (T1.setTop (mkF m 15 #[.val (.ref a1), .val (.int p2), .val (.int p3), .val (.ref a4)] [])) _
    refine XS.aloadN X1.here hx rfl (hb hby d13_15) rfl rfl ?_
    show Steps p.tables e below (T1.setTop (mkF m 16 #[.val (.ref a1), .val (.int p2), .val (.int p3), .val (.ref a4)] [(.ref a4)])) _
    refine XS.aloadN X1.here hx rfl (hb hby d13_16) rfl rfl ?_
    show Steps p.tables e below (T1.setTop (mkF m 17 #[.val (.ref a1), .val (.int p2), .val (.int p3), .val (.ref a4)] [(.ref a1), (.ref a4)])) _
    refine XS.iloadN X1.here hx rfl (hb hby d13_17) rfl ?_
    show Steps p.tables e below (T1.setTop (mkF m 18 #[.val (.ref a1), .val (.int p2), .val (.int p3), .val (.ref a4)] [(.int p3), (.ref a1), (.ref a4)])) _
    refine st2.trans ?_
    show Steps p.tables e below (T2.setTop (mkF m 21 #[.val (.ref a1), .val (.int p2), .val (.int p3), .val (.ref a4)] [(.ref a4), (.ref a4)])) _
    refine st3.trans ?_
    show Steps p.tables e below (T3.setTop (mkF m 24 #[.val (.ref a1), .val (.int p2), .val (.int p3), .val (.ref a4)] [(.int (1 : Int32))])) _
    exact retN X3 hx (t := .boolean) Bd.returns (by simp) (hb hby d13_24) hr
  · show Q13_26 Z a1 p2 p3 a4 a5 kc6 h0 n0 _ T3.heap _
    rw [e3]
    exact ⟨rfl, N3, rfl⟩
theorem ef0 (m : MethodId) (i0 : Int32) (i1 : Int32) (i2 : Int32) : entryFrame m #[(.int i0), (.int i1), (.int i2)] maxLocals = mkF m 0 #[.val (.int i0), .val (.int i1), .val (.int i2), .unset, .unset] [] := by first | (simp [entryFrame, mkF, argsToLocals, Value.category, maxLocals]; done) | rfl
set_option maxRecDepth 65536 in
set_option maxHeartbeats 400000000 in
theorem rm0 (l : Launch) (Z : State) (a0 : Array Value) (hw : ∀ d ∈ tables_1, d.before a0 Z = true) (ws : List Jvm.Cond) (i0 : Int32) (i1 : Int32) (i2 : Int32) (o_ONE : Addr) (o_ZERO : Addr) (h0 : Heap) (n0 : Nat) (Z0 : n0 ≤ h0.size) (S_o_ONE : Sta Z h0 "com/example/hubclear/hubclear/Rational" "ONE" "Lcom/example/hubclear/hubclear/Rational;" (.ref o_ONE)) (E_o_ONE : Exa Z h0 o_ONE "com/example/hubclear/hubclear/Rational") (S_o_ZERO : Sta Z h0 "com/example/hubclear/hubclear/Rational" "ZERO" "Lcom/example/hubclear/hubclear/Rational;" (.ref o_ZERO)) (E_o_ZERO : Exa Z h0 o_ZERO "com/example/hubclear/hubclear/Rational") (F_o_ONE_bigNumerator : Fld Z h0 o_ONE "com/example/hubclear/hubclear/Rational" "bigNumerator" "Ljava/math/BigInteger;" .null) (F_o_ONE_numerator : Fld Z h0 o_ONE "com/example/hubclear/hubclear/Rational" "numerator" "J" (.long (1 : Int64))) (F_o_ONE_denominator : Fld Z h0 o_ONE "com/example/hubclear/hubclear/Rational" "denominator" "J" (.long (1 : Int64))) (F_o_ZERO_bigNumerator : Fld Z h0 o_ZERO "com/example/hubclear/hubclear/Rational" "bigNumerator" "Ljava/math/BigInteger;" .null) (F_o_ZERO_numerator : Fld Z h0 o_ZERO "com/example/hubclear/hubclear/Rational" "numerator" "J" (.long (0 : Int64))) (F_o_ZERO_denominator : Fld Z h0 o_ZERO "com/example/hubclear/hubclear/Rational" "denominator" "J" (.long (1 : Int64))) :
    MetFree l x (head1 (Jvm.Cond.code x code maxLocals ret :: ws) room_1) (fun a U => a = #[(.int i0), (.int i1), (.int i2)] ∧ Z.Warmed39 U.vm ∧ U.heap = h0) (fun _ _ _ _ _ => True) (fun _ U o U' => ∃ v L, o = .returned v ∧ (v = some (.int (1 : Int32)) ∧ Fr n0 L) ∧ FrameEnd U o U' L room_1.cells room_1.slots) := by
  refine MetFree.of_bodySF (plainFor_of_name pn_com_example_hubclear_hubclear_clearing_SparseVectorUnitPinLaw) hisR ?_
  intro p e s m args below meth c s₁ Bd hml0 hP hK
  obtain ⟨rfl, hZ, hh⟩ := hP
  have hx := Bd.exec
  have hby := Bd.bytes
  have hml : c.maxLocals = 5 := hml0
  have hown : s.vm.findClass "com/example/hubclear/hubclear/clearing/SparseVectorUnitPinLaw" = some m.cls := findClass_of_methodNamed Bd.named
  have hnm := (name_of_methodNamed Bd.named Bd.method).1
  have X0 : Stand p l e room_1 s m #[(.int i0), (.int i1), (.int i2)] below meth c s₁ [] 0 0 := Stand.of_body Bd
  have e0 : s₁.heap = h0 := by rw [← hh, Bd.state]; rfl
  have N0 := Fr.nil n0
  have pre0 : ∀ t, Steps p.tables e below (s₁.setTop (mkF m 0 #[.val (.int i0), .val (.int i1), .val (.int i2), .unset, .unset] [])) t → Steps p.tables e below (s₁.setTop (entryFrame m #[(.int i0), (.int i1), (.int i2)] maxLocals)) t := fun t k => castTop (ef0 m i0 i1 i2) k
  obtain ⟨_, _, ⟨T1, L1, k1, n1⟩, -, X1, ⟨Lc1, hQ1, l1, y1, z1⟩, st1⟩ := Jvm.LawKit.callS X0 hx (y := (⟨"com/example/hubclear/hubclear/clearing/SparseVector", "unit", "(I)Lcom/example/hubclear/hubclear/clearing/SparseVector;"⟩ : MethodName)) hown (mvT hZ (own_w0 hw)) (mvT hZ (own_w1 hw)) (mvT hZ (own_w2 hw)) (mvT hZ (own_w3 hw)) (by decide) (backOf (W := 0) (rm1_2 l Z a0 hw [] i0 o_ONE h0 n0 Z0 S_o_ONE E_o_ONE) hZ (own_w3 hw) (own_w2 hw) (by decide) (by decide)) (g := (mkF m 1 #[.val (.int i0), .val (.int i1), .val (.int i2), .unset, .unset] [(.int i0)])) rfl (by rw [hml]; rfl) (argsL := [(.int i0)]) (rest := []) (lenOf pd__I_Lcom_example_hubclear_hubclear_clearing_SparseVector_ rfl) rfl (by show 2 * 0 + _ ≤ _; exact Nat.le_of_eq rfl) (hb hby at_1) (fun _ _ => ⟨rfl, e0, (by decide : 0 + 3 ≤ _), (by decide : 0 + 5 ≤ _)⟩)
  dsimp only [Pt.U, Pt.locs, Pt.cells, Pt.slots] at X1 l1 y1 z1 st1 hQ1
  subst l1 y1 z1
  obtain ⟨kk1_0, kk1_1, b1_0, b1_1, b1_2, rfl, N1q, K1, sq1_0, sq1_1, sq1_2, nq1_0, nq1_1, nq1_2, f1_0, f1_1, f1_2, f1_3, f1_4, f1_5, f1_6⟩ := hQ1
  have N1 := Fr.app N0 N1q
  have sz_b1_0 : h0.size ≤ b1_0 := sq1_0
  have sz0_b1_0 : h0.size ≤ b1_0 := sz_b1_0
  have g_b1_0 : n0 ≤ b1_0 := Nat.le_trans Z0 sz0_b1_0
  have sz_b1_1 : h0.size ≤ b1_1 := sq1_1
  have sz0_b1_1 : h0.size ≤ b1_1 := sz_b1_1
  have g_b1_1 : n0 ≤ b1_1 := Nat.le_trans Z0 sz0_b1_1
  have sz_b1_2 : h0.size ≤ b1_2 := sq1_2
  have sz0_b1_2 : h0.size ≤ b1_2 := sz_b1_2
  have g_b1_2 : n0 ≤ b1_2 := Nat.le_trans Z0 sz0_b1_2
  have KC2 : Keep h0 T1.heap [] := (Keep.refl h0 []).trans K1 all0
  obtain ⟨cq3, kq3, q3a, q3b, q3c⟩ := isOf hZ rfl f1_0
  obtain ⟨_, _, ⟨T3, L3, k3, n3⟩, -, X3, ⟨Lc3, hQ3, l3, y3, z3⟩, st3⟩ := X1.virtualBack hx (y := (⟨"com/example/hubclear/hubclear/clearing/SparseVector", "size", "()I"⟩ : MethodName)) (z := (⟨"com/example/hubclear/hubclear/clearing/SparseVector", "size", "()I"⟩ : MethodName)) hown (mvT hZ (own_w25 hw)) (mvT hZ (own_w26 hw)) (notFace_of_selects (args := #[]) (mvT hZ (own_w28 hw))) (mvT hZ (own_w28 hw)) (mvT hZ (own_w27 hw)) (by decide) (backOf (W := 0) (rm4_3 l Z a0 hw [] b1_0 T1.heap n0 (Nat.le_trans Z0 KC2.1) f1_3) hZ (own_w29 hw) (own_w2 hw) (by decide) (by decide)) q3a q3c (g := (mkF m 6 #[.val (.int i0), .val (.int i1), .val (.int i2), .val (.ref b1_0), .unset] [(.ref b1_0)])) rfl (by rw [hml]; rfl) (Steps.refl _) (argsL := []) (rest := []) (lenOf pd___I rfl) rfl (by show 2 * 0 + _ ≤ _; exact Nat.le_of_eq rfl) (hb hby at_6) (fun _ _ => ⟨rfl, rfl, (by decide : 3 + 0 ≤ _), (by decide : 5 + 0 ≤ _)⟩)
  dsimp only [Pt.U, Pt.locs, Pt.cells, Pt.slots] at X3 l3 y3 z3 st3 hQ3
  subst l3 y3 z3
  obtain ⟨rfl, N3q, e3⟩ := hQ3
  have N3 := Fr.app N1 N3q
  obtain ⟨cq4, kq4, q4a, q4b, q4c⟩ := isOf hZ e3 f1_0
  obtain ⟨_, _, ⟨T4, L4, k4, n4⟩, -, X4, ⟨Lc4, hQ4, l4, y4, z4⟩, st4⟩ := X3.virtualBack hx (y := (⟨"com/example/hubclear/hubclear/clearing/SparseVector", "index", "(I)I"⟩ : MethodName)) (z := (⟨"com/example/hubclear/hubclear/clearing/SparseVector", "index", "(I)I"⟩ : MethodName)) hown (mvT hZ (own_w30 hw)) (mvT hZ (own_w31 hw)) (notFace_of_selects (args := #[]) (mvT hZ (own_w33 hw))) (mvT hZ (own_w33 hw)) (mvT hZ (own_w32 hw)) (by decide) (backOf (W := 0) (rm5_4 l Z a0 hw [] b1_0 b1_1 kk1_0 i0 T1.heap n0 (Nat.le_trans Z0 KC2.1) f1_1 f1_4) hZ (own_w34 hw) (own_w2 hw) (by decide) (by decide)) q4a q4c (g := (mkF m 17 #[.val (.int i0), .val (.int i1), .val (.int i2), .val (.ref b1_0), .unset] [(.int (0 : Int32)), (.ref b1_0)])) rfl (by rw [hml]; rfl) (Steps.refl _) (argsL := [(.int (0 : Int32))]) (rest := []) (lenOf pd__I_I rfl) rfl (by show 2 * 0 + _ ≤ _; exact Nat.le_of_eq rfl) (hb hby at_17) (fun _ _ => ⟨rfl, e3, (by decide : 3 + 0 ≤ _), (by decide : 5 + 0 ≤ _)⟩)
  dsimp only [Pt.U, Pt.locs, Pt.cells, Pt.slots] at X4 l4 y4 z4 st4 hQ4
  subst l4 y4 z4
  obtain ⟨rfl, N4q, e4⟩ := hQ4
  have N4 := Fr.app N3 N4q
  have c5 := own_sta_keep S_o_ONE K1 own_ns0
  obtain ⟨T6, X6, e6, st6⟩ := getS2 X4 hx hZ hown (host := "") (Or.inl (own_w35 hw)) Via.refl e4 c5 (g := (mkF m 26 #[.val (.int i0), .val (.int i1), .val (.int i2), .val (.ref b1_0), .unset] [])) rfl (hb hby at_26)
  obtain ⟨cq7, kq7, q7a, q7b, q7c⟩ := isOf hZ e6 f1_0
  obtain ⟨_, _, ⟨T7, L7, k7, n7⟩, -, X7, ⟨Lc7, hQ7, l7, y7, z7⟩, st7⟩ := X6.virtualBack hx (y := (⟨"com/example/hubclear/hubclear/clearing/SparseVector", "value", "(I)Lcom/example/hubclear/hubclear/Rational;"⟩ : MethodName)) (z := (⟨"com/example/hubclear/hubclear/clearing/SparseVector", "value", "(I)Lcom/example/hubclear/hubclear/Rational;"⟩ : MethodName)) hown (mvT hZ (own_w36 hw)) (mvT hZ (own_w37 hw)) (notFace_of_selects (args := #[]) (mvT hZ (own_w39 hw))) (mvT hZ (own_w39 hw)) (mvT hZ (own_w38 hw)) (by decide) (backOf (W := 1) (rm6_5 l Z a0 hw [] b1_0 b1_2 kk1_1 o_ONE T1.heap n0 (Nat.le_trans Z0 KC2.1) f1_2 f1_5) hZ (own_w40 hw) (own_w2 hw) (by decide) (by decide)) q7a q7c (g := (mkF m 31 #[.val (.int i0), .val (.int i1), .val (.int i2), .val (.ref b1_0), .unset] [(.int (0 : Int32)), (.ref b1_0), (.ref o_ONE)])) rfl (by rw [hml]; rfl) (Steps.refl _) (argsL := [(.int (0 : Int32))]) (rest := [(.ref o_ONE)]) (lenOf pd__I_Lcom_example_hubclear_hubclear_Rational_ rfl) rfl (by show 2 * 0 + _ ≤ _; exact Nat.le_of_eq rfl) (hb hby at_31) (fun _ _ => ⟨rfl, e6, (by decide : 3 + 0 ≤ _), (by decide : 5 + 0 ≤ _)⟩)
  dsimp only [Pt.U, Pt.locs, Pt.cells, Pt.slots] at X7 l7 y7 z7 st7 hQ7
  subst l7 y7 z7
  obtain ⟨rfl, N7q, e7⟩ := hQ7
  have N7 := Fr.app N4 N7q
  have c8 := E_o_ONE.keep K1
  have c9 := F_o_ONE_bigNumerator.keep K1 nin0
  have c10 := F_o_ONE_numerator.keep K1 nin0
  have c11 := F_o_ONE_denominator.keep K1 nin0
  obtain ⟨cq12, kq12, q12a, q12b, q12c⟩ := isOf hZ e7 c8
  obtain ⟨_, _, ⟨T12, L12, k12, n12⟩, -, X12, ⟨Lc12, hQ12, l12, y12, z12⟩, st12⟩ := X7.virtualBack hx (y := (⟨"com/example/hubclear/hubclear/Rational", "equals", "(Ljava/lang/Object;)Z"⟩ : MethodName)) (z := (⟨"com/example/hubclear/hubclear/Rational", "equals", "(Ljava/lang/Object;)Z"⟩ : MethodName)) hown (mvT hZ (own_w41 hw)) (mvT hZ (own_w42 hw)) (notFace_of_selects (args := #[]) (mvT hZ (own_w44 hw))) (mvT hZ (own_w44 hw)) (mvT hZ (own_w43 hw)) (by decide) (backOf (W := 0) (rm7_7 l Z a0 hw [] o_ONE T1.heap n0 (Nat.le_trans Z0 KC2.1) c8 c9 c10 c11) hZ (own_w45 hw) (own_w10 hw) (by decide) (by decide)) q12a q12c (g := (mkF m 34 #[.val (.int i0), .val (.int i1), .val (.int i2), .val (.ref b1_0), .unset] [(.ref o_ONE), (.ref o_ONE)])) rfl (by rw [hml]; rfl) (Steps.refl _) (argsL := [(.ref o_ONE)]) (rest := []) (lenOf pd__Ljava_lang_Object__Z rfl) rfl (by show 2 * 0 + _ ≤ _; exact Nat.le_of_eq rfl) (hb hby at_34) (fun _ _ => ⟨rfl, e7, (by decide : 3 + 0 ≤ _), (by decide : 5 + 0 ≤ _)⟩)
  dsimp only [Pt.U, Pt.locs, Pt.cells, Pt.slots] at X12 l12 y12 z12 st12 hQ12
  subst l12 y12 z12
  obtain ⟨rfl, N12q, e12⟩ := hQ12
  have N12 := Fr.app N7 N12q
  obtain ⟨T13, X13, e13, st13⟩ := getS2 X12 hx hZ hown (host := "") (Or.inl (own_w35 hw)) Via.refl e12 c5 (g := (mkF m 42 #[.val (.int i0), .val (.int i1), .val (.int i2), .val (.ref b1_0), .unset] [])) rfl (hb hby at_42)
  obtain ⟨cq14, kq14, q14a, q14b, q14c⟩ := isOf hZ e13 f1_0
  obtain ⟨_, _, ⟨T14, L14, k14, n14⟩, -, X14, ⟨Lc14, hQ14, l14, y14, z14⟩, st14⟩ := X13.virtualBack hx (y := (⟨"com/example/hubclear/hubclear/clearing/SparseVector", "get", "(I)Lcom/example/hubclear/hubclear/Rational;"⟩ : MethodName)) (z := (⟨"com/example/hubclear/hubclear/clearing/SparseVector", "get", "(I)Lcom/example/hubclear/hubclear/Rational;"⟩ : MethodName)) hown (mvT hZ (own_w57 hw)) (mvT hZ (own_w58 hw)) (notFace_of_selects (args := #[]) (mvT hZ (own_w60 hw))) (mvT hZ (own_w60 hw)) (mvT hZ (own_w59 hw)) (by decide) (backOf (W := 1) (rm9_11 l Z a0 hw [] b1_0 i0 b1_1 kk1_0 b1_2 kk1_1 o_ONE T1.heap n0 (Nat.le_trans Z0 KC2.1) f1_1 f1_3 f1_4 f1_2 f1_5) hZ (own_w61 hw) (own_w2 hw) (by decide) (by decide)) q14a q14c (g := (mkF m 47 #[.val (.int i0), .val (.int i1), .val (.int i2), .val (.ref b1_0), .unset] [(.int i0), (.ref b1_0), (.ref o_ONE)])) rfl (by rw [hml]; rfl) (Steps.refl _) (argsL := [(.int i0)]) (rest := [(.ref o_ONE)]) (lenOf pd__I_Lcom_example_hubclear_hubclear_Rational_ rfl) rfl (by show 2 * 0 + _ ≤ _; exact Nat.le_of_eq rfl) (hb hby at_47) (fun _ _ => ⟨rfl, e13, (by decide : 3 + 0 ≤ _), (by decide : 5 + 0 ≤ _)⟩)
  dsimp only [Pt.U, Pt.locs, Pt.cells, Pt.slots] at X14 l14 y14 z14 st14 hQ14
  subst l14 y14 z14
  obtain ⟨rfl, N14q, e14⟩ := hQ14
  have N14 := Fr.app N12 N14q
  obtain ⟨cq15, kq15, q15a, q15b, q15c⟩ := isOf hZ e14 c8
  obtain ⟨_, _, ⟨T15, L15, k15, n15⟩, -, X15, ⟨Lc15, hQ15, l15, y15, z15⟩, st15⟩ := X14.virtualBack hx (y := (⟨"com/example/hubclear/hubclear/Rational", "equals", "(Ljava/lang/Object;)Z"⟩ : MethodName)) (z := (⟨"com/example/hubclear/hubclear/Rational", "equals", "(Ljava/lang/Object;)Z"⟩ : MethodName)) hown (mvT hZ (own_w41 hw)) (mvT hZ (own_w42 hw)) (notFace_of_selects (args := #[]) (mvT hZ (own_w44 hw))) (mvT hZ (own_w44 hw)) (mvT hZ (own_w43 hw)) (by decide) (backOf (W := 0) (rm7_7 l Z a0 hw [] o_ONE T1.heap n0 (Nat.le_trans Z0 KC2.1) c8 c9 c10 c11) hZ (own_w45 hw) (own_w10 hw) (by decide) (by decide)) q15a q15c (g := (mkF m 50 #[.val (.int i0), .val (.int i1), .val (.int i2), .val (.ref b1_0), .unset] [(.ref o_ONE), (.ref o_ONE)])) rfl (by rw [hml]; rfl) (Steps.refl _) (argsL := [(.ref o_ONE)]) (rest := []) (lenOf pd__Ljava_lang_Object__Z rfl) rfl (by show 2 * 0 + _ ≤ _; exact Nat.le_of_eq rfl) (hb hby at_50) (fun _ _ => ⟨rfl, e14, (by decide : 3 + 0 ≤ _), (by decide : 5 + 0 ≤ _)⟩)
  dsimp only [Pt.U, Pt.locs, Pt.cells, Pt.slots] at X15 l15 y15 z15 st15 hQ15
  subst l15 y15 z15
  obtain ⟨rfl, N15q, e15⟩ := hQ15
  have N15 := Fr.app N14 N15q
  have pre1 : ∀ t, Steps p.tables e below (T15.setTop (mkF m 61 #[.val (.int i0), .val (.int i1), .val (.int i2), .val (.ref b1_0), .unset] [(.int i1), (.int i0), (.ref b1_0)])) t → Steps p.tables e below (s₁.setTop (entryFrame m #[(.int i0), (.int i1), (.int i2)] maxLocals)) t := fun t kk => pre0 t (by
    show Steps p.tables e below (s₁.setTop (mkF m 0 #[.val (.int i0), .val (.int i1), .val (.int i2), .unset, .unset] [])) _
    refine XS.iloadN X0.here hx rfl (hb hby at_0) rfl ?_
    show Steps p.tables e below (s₁.setTop (mkF m 1 #[.val (.int i0), .val (.int i1), .val (.int i2), .unset, .unset] [(.int i0)])) _
    refine st1 _ ?_
    show Steps p.tables e below (T1.setTop (mkF m 4 #[.val (.int i0), .val (.int i1), .val (.int i2), .unset, .unset] [(.ref b1_0)])) _
    refine XS.astoreN X1.here hx rfl (hb hby at_4) rfl rfl (l' := #[.val (.int i0), .val (.int i1), .val (.int i2), .val (.ref b1_0), .unset]) rfl ?_
    show Steps p.tables e below (T1.setTop (mkF m 5 #[.val (.int i0), .val (.int i1), .val (.int i2), .val (.ref b1_0), .unset] [])) _
    refine XS.aloadN X1.here hx rfl (hb hby at_5) rfl rfl ?_
    show Steps p.tables e below (T1.setTop (mkF m 6 #[.val (.int i0), .val (.int i1), .val (.int i2), .val (.ref b1_0), .unset] [(.ref b1_0)])) _
    refine st3.trans ?_
    show Steps p.tables e below (T3.setTop (mkF m 9 #[.val (.int i0), .val (.int i1), .val (.int i2), .val (.ref b1_0), .unset] [(.int (1 : Int32))])) _
    refine XS.iconst X3.here hx rfl (hb hby at_9) ?_
    show Steps p.tables e below (T3.setTop (mkF m 10 #[.val (.int i0), .val (.int i1), .val (.int i2), .val (.ref b1_0), .unset] [(.int (1 : Int32)), (.int (1 : Int32))])) _
    refine XS.icmpYes X3.here hx rfl (pc0 := 10) (pc' := 15) rfl (hb hby at_10) rfl (teq (by decide : (1 : Int32) = (1 : Int32))).1 (by decide) (by decide) ?_
    show Steps p.tables e below (T3.setTop (mkF m 15 #[.val (.int i0), .val (.int i1), .val (.int i2), .val (.ref b1_0), .unset] [])) _
    refine XS.aloadN X3.here hx rfl (hb hby at_15) rfl rfl ?_
    show Steps p.tables e below (T3.setTop (mkF m 16 #[.val (.int i0), .val (.int i1), .val (.int i2), .val (.ref b1_0), .unset] [(.ref b1_0)])) _
    refine XS.iconst X3.here hx rfl (hb hby at_16) ?_
    show Steps p.tables e below (T3.setTop (mkF m 17 #[.val (.int i0), .val (.int i1), .val (.int i2), .val (.ref b1_0), .unset] [(.int (0 : Int32)), (.ref b1_0)])) _
    refine st4.trans ?_
    show Steps p.tables e below (T4.setTop (mkF m 20 #[.val (.int i0), .val (.int i1), .val (.int i2), .val (.ref b1_0), .unset] [(.int i0)])) _
    refine XS.iloadN X4.here hx rfl (hb hby at_20) rfl ?_
    show Steps p.tables e below (T4.setTop (mkF m 21 #[.val (.int i0), .val (.int i1), .val (.int i2), .val (.ref b1_0), .unset] [(.int i0), (.int i0)])) _
    refine XS.icmpYes X4.here hx rfl (pc0 := 21) (pc' := 26) rfl (hb hby at_21) rfl (teq (rfl : i0 = i0)).1 (by decide) (by decide) ?_
    show Steps p.tables e below (T4.setTop (mkF m 26 #[.val (.int i0), .val (.int i1), .val (.int i2), .val (.ref b1_0), .unset] [])) _
    refine st6 _ ?_
    show Steps p.tables e below (T6.setTop (mkF m 29 #[.val (.int i0), .val (.int i1), .val (.int i2), .val (.ref b1_0), .unset] [(.ref o_ONE)])) _
    refine XS.aloadN X6.here hx rfl (hb hby at_29) rfl rfl ?_
    show Steps p.tables e below (T6.setTop (mkF m 30 #[.val (.int i0), .val (.int i1), .val (.int i2), .val (.ref b1_0), .unset] [(.ref b1_0), (.ref o_ONE)])) _
    refine XS.iconst X6.here hx rfl (hb hby at_30) ?_
    show Steps p.tables e below (T6.setTop (mkF m 31 #[.val (.int i0), .val (.int i1), .val (.int i2), .val (.ref b1_0), .unset] [(.int (0 : Int32)), (.ref b1_0), (.ref o_ONE)])) _
    refine st7.trans ?_
    show Steps p.tables e below (T7.setTop (mkF m 34 #[.val (.int i0), .val (.int i1), .val (.int i2), .val (.ref b1_0), .unset] [(.ref o_ONE), (.ref o_ONE)])) _
    refine st12.trans ?_
    show Steps p.tables e below (T12.setTop (mkF m 37 #[.val (.int i0), .val (.int i1), .val (.int i2), .val (.ref b1_0), .unset] [(.int (1 : Int32))])) _
    refine XS.ifYes X12.here hx rfl (pc0 := 37) (pc' := 42) rfl (hb hby at_37) rfl ((if0 _ _).trans (feq (by decide : ¬ ((1 : Int32) = (0 : Int32)))).2) (by decide) (by decide) ?_
    show Steps p.tables e below (T12.setTop (mkF m 42 #[.val (.int i0), .val (.int i1), .val (.int i2), .val (.ref b1_0), .unset] [])) _
    refine st13 _ ?_
    show Steps p.tables e below (T13.setTop (mkF m 45 #[.val (.int i0), .val (.int i1), .val (.int i2), .val (.ref b1_0), .unset] [(.ref o_ONE)])) _
    refine XS.aloadN X13.here hx rfl (hb hby at_45) rfl rfl ?_
    show Steps p.tables e below (T13.setTop (mkF m 46 #[.val (.int i0), .val (.int i1), .val (.int i2), .val (.ref b1_0), .unset] [(.ref b1_0), (.ref o_ONE)])) _
    refine XS.iloadN X13.here hx rfl (hb hby at_46) rfl ?_
    show Steps p.tables e below (T13.setTop (mkF m 47 #[.val (.int i0), .val (.int i1), .val (.int i2), .val (.ref b1_0), .unset] [(.int i0), (.ref b1_0), (.ref o_ONE)])) _
    refine st14.trans ?_
    show Steps p.tables e below (T14.setTop (mkF m 50 #[.val (.int i0), .val (.int i1), .val (.int i2), .val (.ref b1_0), .unset] [(.ref o_ONE), (.ref o_ONE)])) _
    refine st15.trans ?_
    show Steps p.tables e below (T15.setTop (mkF m 53 #[.val (.int i0), .val (.int i1), .val (.int i2), .val (.ref b1_0), .unset] [(.int (1 : Int32))])) _
    refine XS.ifYes X15.here hx rfl (pc0 := 53) (pc' := 58) rfl (hb hby at_53) rfl ((if0 _ _).trans (feq (by decide : ¬ ((1 : Int32) = (0 : Int32)))).2) (by decide) (by decide) ?_
    show Steps p.tables e below (T15.setTop (mkF m 58 #[.val (.int i0), .val (.int i1), .val (.int i2), .val (.ref b1_0), .unset] [])) _
    refine XS.aloadN X15.here hx rfl (hb hby at_58) rfl rfl ?_
    show Steps p.tables e below (T15.setTop (mkF m 59 #[.val (.int i0), .val (.int i1), .val (.int i2), .val (.ref b1_0), .unset] [(.ref b1_0)])) _
    refine XS.iloadN X15.here hx rfl (hb hby at_59) rfl ?_
    show Steps p.tables e below (T15.setTop (mkF m 60 #[.val (.int i0), .val (.int i1), .val (.int i2), .val (.ref b1_0), .unset] [(.int i0), (.ref b1_0)])) _
    refine XS.iloadN X15.here hx rfl (hb hby at_60) rfl ?_
    show Steps p.tables e below (T15.setTop (mkF m 61 #[.val (.int i0), .val (.int i1), .val (.int i2), .val (.ref b1_0), .unset] [(.int i1), (.int i0), (.ref b1_0)])) _
    exact kk)
  by_cases hs0 : i1 = i0
  · obtain ⟨_, _, ⟨T16, L16, k16, n16⟩, -, X16, ⟨Lc16, hQ16, l16, y16, z16⟩, st16⟩ := Jvm.LawKit.callS X15 hx (y := (⟨"com/example/hubclear/hubclear/clearing/SparseVectorUnitPinLaw", "holdsAt", "(Lcom/example/hubclear/hubclear/clearing/SparseVector;II)Z"⟩ : MethodName)) hown (mvT hZ (own_w72 hw)) (mvT hZ (own_w73 hw)) (mvT hZ (own_w74 hw)) (mvT hZ (own_w75 hw)) (by decide) (backOf (W := 0) (rm13_24 l Z a0 hw [] b1_0 i0 i1 o_ONE b1_1 kk1_0 b1_2 kk1_1 T1.heap n0 (Nat.le_trans Z0 KC2.1) hs0 c5 f1_0 f1_1 f1_3 f1_4 (own_eq_nlt (Eq.symm hs0)) (own_eq_nlt hs0) f1_2 f1_5 c8 c9 c10 c11) hZ (own_w75 hw) (own_w74 hw) (by decide) (by decide)) (g := (mkF m 61 #[.val (.int i0), .val (.int i1), .val (.int i2), .val (.ref b1_0), .unset] [(.int i1), (.int i0), (.ref b1_0)])) rfl (by rw [hml]; rfl) (argsL := [(.ref b1_0), (.int i0), (.int i1)]) (rest := []) (lenOf pd__Lcom_example_hubclear_hubclear_clearing_SparseVector_II_Z rfl) rfl (by show 2 * 0 + _ ≤ _; exact Nat.le_of_eq rfl) (hb hby at_61) (fun _ _ => ⟨rfl, e15, (by decide : 3 + 0 ≤ _), (by decide : 5 + 0 ≤ _)⟩)
    dsimp only [Pt.U, Pt.locs, Pt.cells, Pt.slots] at X16 l16 y16 z16 st16 hQ16
    subst l16 y16 z16
    obtain ⟨rfl, N16q, e16⟩ := hQ16
    have N16 := Fr.app N15 N16q
    have pre2 : ∀ t, Steps p.tables e below (T16.setTop (mkF m 80 #[.val (.int i0), .val (.int i1), .val (.int i2), .val (.ref b1_0), .val (.int (i0 + (i2 % (3 : Int32))))] [(.int (i0 + (i2 % (3 : Int32)))), (.int i0), (.ref b1_0)])) t → Steps p.tables e below (s₁.setTop (entryFrame m #[(.int i0), (.int i1), (.int i2)] maxLocals)) t := fun t kk => pre1 t (by
      show Steps p.tables e below (T15.setTop (mkF m 61 #[.val (.int i0), .val (.int i1), .val (.int i2), .val (.ref b1_0), .unset] [(.int i1), (.int i0), (.ref b1_0)])) _
      refine st16 _ ?_
      show Steps p.tables e below (T16.setTop (mkF m 64 #[.val (.int i0), .val (.int i1), .val (.int i2), .val (.ref b1_0), .unset] [(.int (1 : Int32))])) _
      refine XS.ifYes X16.here hx rfl (pc0 := 64) (pc' := 69) rfl (hb hby at_64) rfl ((if0 _ _).trans (feq (by decide : ¬ ((1 : Int32) = (0 : Int32)))).2) (by decide) (by decide) ?_
      show Steps p.tables e below (T16.setTop (mkF m 69 #[.val (.int i0), .val (.int i1), .val (.int i2), .val (.ref b1_0), .unset] [])) _
      refine XS.iloadN X16.here hx rfl (hb hby at_69) rfl ?_
      show Steps p.tables e below (T16.setTop (mkF m 70 #[.val (.int i0), .val (.int i1), .val (.int i2), .val (.ref b1_0), .unset] [(.int i0)])) _
      refine XS.iloadN X16.here hx rfl (hb hby at_70) rfl ?_
      show Steps p.tables e below (T16.setTop (mkF m 71 #[.val (.int i0), .val (.int i1), .val (.int i2), .val (.ref b1_0), .unset] [(.int i2), (.int i0)])) _
      refine XS.iconst X16.here hx rfl (hb hby at_71) ?_
      show Steps p.tables e below (T16.setTop (mkF m 72 #[.val (.int i0), .val (.int i1), .val (.int i2), .val (.ref b1_0), .unset] [(.int (3 : Int32)), (.int i2), (.int i0)])) _
      refine iremM X16 hx rfl (hb hby at_72) rfl (by decide) ?_
      show Steps p.tables e below (T16.setTop (mkF m 73 #[.val (.int i0), .val (.int i1), .val (.int i2), .val (.ref b1_0), .unset] [(.int (i2 % (3 : Int32))), (.int i0)])) _
      refine XS.iadd X16.here hx rfl (hb hby at_73) rfl ?_
      show Steps p.tables e below (T16.setTop (mkF m 74 #[.val (.int i0), .val (.int i1), .val (.int i2), .val (.ref b1_0), .unset] [(.int (i0 + (i2 % (3 : Int32))))])) _
      refine XS.istore X16.here hx rfl (hb hby at_74) rfl (l' := #[.val (.int i0), .val (.int i1), .val (.int i2), .val (.ref b1_0), .val (.int (i0 + (i2 % (3 : Int32))))]) rfl ?_
      show Steps p.tables e below (T16.setTop (mkF m 76 #[.val (.int i0), .val (.int i1), .val (.int i2), .val (.ref b1_0), .val (.int (i0 + (i2 % (3 : Int32))))] [])) _
      refine XS.aloadN X16.here hx rfl (hb hby at_76) rfl rfl ?_
      show Steps p.tables e below (T16.setTop (mkF m 77 #[.val (.int i0), .val (.int i1), .val (.int i2), .val (.ref b1_0), .val (.int (i0 + (i2 % (3 : Int32))))] [(.ref b1_0)])) _
      refine XS.iloadN X16.here hx rfl (hb hby at_77) rfl ?_
      show Steps p.tables e below (T16.setTop (mkF m 78 #[.val (.int i0), .val (.int i1), .val (.int i2), .val (.ref b1_0), .val (.int (i0 + (i2 % (3 : Int32))))] [(.int i0), (.ref b1_0)])) _
      refine XS.iload X16.here hx rfl (hb hby at_78) rfl ?_
      show Steps p.tables e below (T16.setTop (mkF m 80 #[.val (.int i0), .val (.int i1), .val (.int i2), .val (.ref b1_0), .val (.int (i0 + (i2 % (3 : Int32))))] [(.int (i0 + (i2 % (3 : Int32)))), (.int i0), (.ref b1_0)])) _
      exact kk)
    by_cases hs1 : (i0 + (i2 % (3 : Int32))) = i0
    · obtain ⟨_, _, ⟨T17, L17, k17, n17⟩, -, X17, ⟨Lc17, hQ17, l17, y17, z17⟩, st17⟩ := Jvm.LawKit.callS X16 hx (y := (⟨"com/example/hubclear/hubclear/clearing/SparseVectorUnitPinLaw", "holdsAt", "(Lcom/example/hubclear/hubclear/clearing/SparseVector;II)Z"⟩ : MethodName)) hown (mvT hZ (own_w72 hw)) (mvT hZ (own_w73 hw)) (mvT hZ (own_w74 hw)) (mvT hZ (own_w75 hw)) (by decide) (backOf (W := 0) (rm13_24 l Z a0 hw [] b1_0 i0 (i0 + (i2 % (3 : Int32))) o_ONE b1_1 kk1_0 b1_2 kk1_1 T1.heap n0 (Nat.le_trans Z0 KC2.1) hs1 c5 f1_0 f1_1 f1_3 f1_4 (own_eq_nlt (Eq.symm hs1)) (own_eq_nlt hs1) f1_2 f1_5 c8 c9 c10 c11) hZ (own_w75 hw) (own_w74 hw) (by decide) (by decide)) (g := (mkF m 80 #[.val (.int i0), .val (.int i1), .val (.int i2), .val (.ref b1_0), .val (.int (i0 + (i2 % (3 : Int32))))] [(.int (i0 + (i2 % (3 : Int32)))), (.int i0), (.ref b1_0)])) rfl (by rw [hml]; rfl) (argsL := [(.ref b1_0), (.int i0), (.int (i0 + (i2 % (3 : Int32))))]) (rest := []) (lenOf pd__Lcom_example_hubclear_hubclear_clearing_SparseVector_II_Z rfl) rfl (by show 2 * 0 + _ ≤ _; exact Nat.le_of_eq rfl) (hb hby at_80) (fun _ _ => ⟨rfl, e16, (by decide : 3 + 0 ≤ _), (by decide : 5 + 0 ≤ _)⟩)
      dsimp only [Pt.U, Pt.locs, Pt.cells, Pt.slots] at X17 l17 y17 z17 st17 hQ17
      subst l17 y17 z17
      obtain ⟨rfl, N17q, e17⟩ := hQ17
      have N17 := Fr.app N16 N17q
      obtain ⟨fs, hr, hrun, hended, hW, hsame⟩ := X17.leave (v := some (.int (1 : Int32))) (fun h => by rw [Bd.returns] at h; cases h)
      refine ⟨_, _, pre2 _ ?_, hrun, hended, _, _, rfl, ⟨rfl, N17⟩, ⟨_, rfl⟩, hW, hsame.mono (by decide) (by decide)⟩
      show Steps p.tables e below (T16.setTop (mkF m 80 #[.val (.int i0), .val (.int i1), .val (.int i2), .val (.ref b1_0), .val (.int (i0 + (i2 % (3 : Int32))))] [(.int (i0 + (i2 % (3 : Int32)))), (.int i0), (.ref b1_0)])) _
      refine st17 _ ?_
      show Steps p.tables e below (T17.setTop (mkF m 83 #[.val (.int i0), .val (.int i1), .val (.int i2), .val (.ref b1_0), .val (.int (i0 + (i2 % (3 : Int32))))] [(.int (1 : Int32))])) _
      exact retN X17 hx (t := .boolean) Bd.returns (by simp) (hb hby at_83) hr
    · have c17 := own_sta_keep S_o_ZERO K1 own_ns0
      by_cases hs2 : i0 < (i0 + (i2 % (3 : Int32)))
      · have c18 := E_o_ZERO.keep K1
        have c19 := F_o_ZERO_bigNumerator.keep K1 nin0
        have c20 := F_o_ZERO_numerator.keep K1 nin0
        have c21 := F_o_ZERO_denominator.keep K1 nin0
        obtain ⟨_, _, ⟨T22, L22, k22, n22⟩, -, X22, ⟨Lc22, hQ22, l22, y22, z22⟩, st22⟩ := Jvm.LawKit.callS X16 hx (y := (⟨"com/example/hubclear/hubclear/clearing/SparseVectorUnitPinLaw", "holdsAt", "(Lcom/example/hubclear/hubclear/clearing/SparseVector;II)Z"⟩ : MethodName)) hown (mvT hZ (own_w72 hw)) (mvT hZ (own_w73 hw)) (mvT hZ (own_w74 hw)) (mvT hZ (own_w75 hw)) (by decide) (backOf (W := 0) (rm13_25 l Z a0 hw [] b1_0 i0 (i0 + (i2 % (3 : Int32))) o_ZERO b1_1 kk1_0 T1.heap n0 (Nat.le_trans Z0 KC2.1) hs1 c17 f1_0 f1_1 f1_3 f1_4 hs2 c18 c19 c20 c21) hZ (own_w75 hw) (own_w74 hw) (by decide) (by decide)) (g := (mkF m 80 #[.val (.int i0), .val (.int i1), .val (.int i2), .val (.ref b1_0), .val (.int (i0 + (i2 % (3 : Int32))))] [(.int (i0 + (i2 % (3 : Int32)))), (.int i0), (.ref b1_0)])) rfl (by rw [hml]; rfl) (argsL := [(.ref b1_0), (.int i0), (.int (i0 + (i2 % (3 : Int32))))]) (rest := []) (lenOf pd__Lcom_example_hubclear_hubclear_clearing_SparseVector_II_Z rfl) rfl (by show 2 * 0 + _ ≤ _; exact Nat.le_of_eq rfl) (hb hby at_80) (fun _ _ => ⟨rfl, e16, (by decide : 3 + 0 ≤ _), (by decide : 5 + 0 ≤ _)⟩)
        dsimp only [Pt.U, Pt.locs, Pt.cells, Pt.slots] at X22 l22 y22 z22 st22 hQ22
        subst l22 y22 z22
        obtain ⟨rfl, N22q, e22⟩ := hQ22
        have N22 := Fr.app N16 N22q
        obtain ⟨fs, hr, hrun, hended, hW, hsame⟩ := X22.leave (v := some (.int (1 : Int32))) (fun h => by rw [Bd.returns] at h; cases h)
        refine ⟨_, _, pre2 _ ?_, hrun, hended, _, _, rfl, ⟨rfl, N22⟩, ⟨_, rfl⟩, hW, hsame.mono (by decide) (by decide)⟩
        show Steps p.tables e below (T16.setTop (mkF m 80 #[.val (.int i0), .val (.int i1), .val (.int i2), .val (.ref b1_0), .val (.int (i0 + (i2 % (3 : Int32))))] [(.int (i0 + (i2 % (3 : Int32)))), (.int i0), (.ref b1_0)])) _
        refine st22 _ ?_
        show Steps p.tables e below (T22.setTop (mkF m 83 #[.val (.int i0), .val (.int i1), .val (.int i2), .val (.ref b1_0), .val (.int (i0 + (i2 % (3 : Int32))))] [(.int (1 : Int32))])) _
        exact retN X22 hx (t := .boolean) Bd.returns (by simp) (hb hby at_83) hr
      · have c18 := E_o_ZERO.keep K1
        have c19 := F_o_ZERO_bigNumerator.keep K1 nin0
        have c20 := F_o_ZERO_numerator.keep K1 nin0
        have c21 := F_o_ZERO_denominator.keep K1 nin0
        obtain ⟨_, _, ⟨T22, L22, k22, n22⟩, -, X22, ⟨Lc22, hQ22, l22, y22, z22⟩, st22⟩ := Jvm.LawKit.callS X16 hx (y := (⟨"com/example/hubclear/hubclear/clearing/SparseVectorUnitPinLaw", "holdsAt", "(Lcom/example/hubclear/hubclear/clearing/SparseVector;II)Z"⟩ : MethodName)) hown (mvT hZ (own_w72 hw)) (mvT hZ (own_w73 hw)) (mvT hZ (own_w74 hw)) (mvT hZ (own_w75 hw)) (by decide) (backOf (W := 0) (rm13_26 l Z a0 hw [] b1_0 i0 (i0 + (i2 % (3 : Int32))) o_ZERO b1_1 kk1_0 T1.heap n0 (Nat.le_trans Z0 KC2.1) hs1 c17 f1_0 f1_1 f1_3 f1_4 hs2 (own_tri2 hs1 hs2) c18 c19 c20 c21) hZ (own_w75 hw) (own_w74 hw) (by decide) (by decide)) (g := (mkF m 80 #[.val (.int i0), .val (.int i1), .val (.int i2), .val (.ref b1_0), .val (.int (i0 + (i2 % (3 : Int32))))] [(.int (i0 + (i2 % (3 : Int32)))), (.int i0), (.ref b1_0)])) rfl (by rw [hml]; rfl) (argsL := [(.ref b1_0), (.int i0), (.int (i0 + (i2 % (3 : Int32))))]) (rest := []) (lenOf pd__Lcom_example_hubclear_hubclear_clearing_SparseVector_II_Z rfl) rfl (by show 2 * 0 + _ ≤ _; exact Nat.le_of_eq rfl) (hb hby at_80) (fun _ _ => ⟨rfl, e16, (by decide : 3 + 0 ≤ _), (by decide : 5 + 0 ≤ _)⟩)
        dsimp only [Pt.U, Pt.locs, Pt.cells, Pt.slots] at X22 l22 y22 z22 st22 hQ22
        subst l22 y22 z22
        obtain ⟨rfl, N22q, e22⟩ := hQ22
        have N22 := Fr.app N16 N22q
        obtain ⟨fs, hr, hrun, hended, hW, hsame⟩ := X22.leave (v := some (.int (1 : Int32))) (fun h => by rw [Bd.returns] at h; cases h)
        refine ⟨_, _, pre2 _ ?_, hrun, hended, _, _, rfl, ⟨rfl, N22⟩, ⟨_, rfl⟩, hW, hsame.mono (by decide) (by decide)⟩
        show Steps p.tables e below (T16.setTop (mkF m 80 #[.val (.int i0), .val (.int i1), .val (.int i2), .val (.ref b1_0), .val (.int (i0 + (i2 % (3 : Int32))))] [(.int (i0 + (i2 % (3 : Int32)))), (.int i0), (.ref b1_0)])) _
        refine st22 _ ?_
        show Steps p.tables e below (T22.setTop (mkF m 83 #[.val (.int i0), .val (.int i1), .val (.int i2), .val (.ref b1_0), .val (.int (i0 + (i2 % (3 : Int32))))] [(.int (1 : Int32))])) _
        exact retN X22 hx (t := .boolean) Bd.returns (by simp) (hb hby at_83) hr
  · have c16 := own_sta_keep S_o_ZERO K1 own_ns0
    by_cases hs1 : i0 < i1
    · have c17 := E_o_ZERO.keep K1
      have c18 := F_o_ZERO_bigNumerator.keep K1 nin0
      have c19 := F_o_ZERO_numerator.keep K1 nin0
      have c20 := F_o_ZERO_denominator.keep K1 nin0
      obtain ⟨_, _, ⟨T21, L21, k21, n21⟩, -, X21, ⟨Lc21, hQ21, l21, y21, z21⟩, st21⟩ := Jvm.LawKit.callS X15 hx (y := (⟨"com/example/hubclear/hubclear/clearing/SparseVectorUnitPinLaw", "holdsAt", "(Lcom/example/hubclear/hubclear/clearing/SparseVector;II)Z"⟩ : MethodName)) hown (mvT hZ (own_w72 hw)) (mvT hZ (own_w73 hw)) (mvT hZ (own_w74 hw)) (mvT hZ (own_w75 hw)) (by decide) (backOf (W := 0) (rm13_25 l Z a0 hw [] b1_0 i0 i1 o_ZERO b1_1 kk1_0 T1.heap n0 (Nat.le_trans Z0 KC2.1) hs0 c16 f1_0 f1_1 f1_3 f1_4 hs1 c17 c18 c19 c20) hZ (own_w75 hw) (own_w74 hw) (by decide) (by decide)) (g := (mkF m 61 #[.val (.int i0), .val (.int i1), .val (.int i2), .val (.ref b1_0), .unset] [(.int i1), (.int i0), (.ref b1_0)])) rfl (by rw [hml]; rfl) (argsL := [(.ref b1_0), (.int i0), (.int i1)]) (rest := []) (lenOf pd__Lcom_example_hubclear_hubclear_clearing_SparseVector_II_Z rfl) rfl (by show 2 * 0 + _ ≤ _; exact Nat.le_of_eq rfl) (hb hby at_61) (fun _ _ => ⟨rfl, e15, (by decide : 3 + 0 ≤ _), (by decide : 5 + 0 ≤ _)⟩)
      dsimp only [Pt.U, Pt.locs, Pt.cells, Pt.slots] at X21 l21 y21 z21 st21 hQ21
      subst l21 y21 z21
      obtain ⟨rfl, N21q, e21⟩ := hQ21
      have N21 := Fr.app N15 N21q
      have pre3 : ∀ t, Steps p.tables e below (T21.setTop (mkF m 80 #[.val (.int i0), .val (.int i1), .val (.int i2), .val (.ref b1_0), .val (.int (i0 + (i2 % (3 : Int32))))] [(.int (i0 + (i2 % (3 : Int32)))), (.int i0), (.ref b1_0)])) t → Steps p.tables e below (s₁.setTop (entryFrame m #[(.int i0), (.int i1), (.int i2)] maxLocals)) t := fun t kk => pre1 t (by
        show Steps p.tables e below (T15.setTop (mkF m 61 #[.val (.int i0), .val (.int i1), .val (.int i2), .val (.ref b1_0), .unset] [(.int i1), (.int i0), (.ref b1_0)])) _
        refine st21 _ ?_
        show Steps p.tables e below (T21.setTop (mkF m 64 #[.val (.int i0), .val (.int i1), .val (.int i2), .val (.ref b1_0), .unset] [(.int (1 : Int32))])) _
        refine XS.ifYes X21.here hx rfl (pc0 := 64) (pc' := 69) rfl (hb hby at_64) rfl ((if0 _ _).trans (feq (by decide : ¬ ((1 : Int32) = (0 : Int32)))).2) (by decide) (by decide) ?_
        show Steps p.tables e below (T21.setTop (mkF m 69 #[.val (.int i0), .val (.int i1), .val (.int i2), .val (.ref b1_0), .unset] [])) _
        refine XS.iloadN X21.here hx rfl (hb hby at_69) rfl ?_
        show Steps p.tables e below (T21.setTop (mkF m 70 #[.val (.int i0), .val (.int i1), .val (.int i2), .val (.ref b1_0), .unset] [(.int i0)])) _
        refine XS.iloadN X21.here hx rfl (hb hby at_70) rfl ?_
        show Steps p.tables e below (T21.setTop (mkF m 71 #[.val (.int i0), .val (.int i1), .val (.int i2), .val (.ref b1_0), .unset] [(.int i2), (.int i0)])) _
        refine XS.iconst X21.here hx rfl (hb hby at_71) ?_
        show Steps p.tables e below (T21.setTop (mkF m 72 #[.val (.int i0), .val (.int i1), .val (.int i2), .val (.ref b1_0), .unset] [(.int (3 : Int32)), (.int i2), (.int i0)])) _
        refine iremM X21 hx rfl (hb hby at_72) rfl (by decide) ?_
        show Steps p.tables e below (T21.setTop (mkF m 73 #[.val (.int i0), .val (.int i1), .val (.int i2), .val (.ref b1_0), .unset] [(.int (i2 % (3 : Int32))), (.int i0)])) _
        refine XS.iadd X21.here hx rfl (hb hby at_73) rfl ?_
        show Steps p.tables e below (T21.setTop (mkF m 74 #[.val (.int i0), .val (.int i1), .val (.int i2), .val (.ref b1_0), .unset] [(.int (i0 + (i2 % (3 : Int32))))])) _
        refine XS.istore X21.here hx rfl (hb hby at_74) rfl (l' := #[.val (.int i0), .val (.int i1), .val (.int i2), .val (.ref b1_0), .val (.int (i0 + (i2 % (3 : Int32))))]) rfl ?_
        show Steps p.tables e below (T21.setTop (mkF m 76 #[.val (.int i0), .val (.int i1), .val (.int i2), .val (.ref b1_0), .val (.int (i0 + (i2 % (3 : Int32))))] [])) _
        refine XS.aloadN X21.here hx rfl (hb hby at_76) rfl rfl ?_
        show Steps p.tables e below (T21.setTop (mkF m 77 #[.val (.int i0), .val (.int i1), .val (.int i2), .val (.ref b1_0), .val (.int (i0 + (i2 % (3 : Int32))))] [(.ref b1_0)])) _
        refine XS.iloadN X21.here hx rfl (hb hby at_77) rfl ?_
        show Steps p.tables e below (T21.setTop (mkF m 78 #[.val (.int i0), .val (.int i1), .val (.int i2), .val (.ref b1_0), .val (.int (i0 + (i2 % (3 : Int32))))] [(.int i0), (.ref b1_0)])) _
        refine XS.iload X21.here hx rfl (hb hby at_78) rfl ?_
        show Steps p.tables e below (T21.setTop (mkF m 80 #[.val (.int i0), .val (.int i1), .val (.int i2), .val (.ref b1_0), .val (.int (i0 + (i2 % (3 : Int32))))] [(.int (i0 + (i2 % (3 : Int32)))), (.int i0), (.ref b1_0)])) _
        exact kk)
      by_cases hs2 : (i0 + (i2 % (3 : Int32))) = i0
      · obtain ⟨_, _, ⟨T22, L22, k22, n22⟩, -, X22, ⟨Lc22, hQ22, l22, y22, z22⟩, st22⟩ := Jvm.LawKit.callS X21 hx (y := (⟨"com/example/hubclear/hubclear/clearing/SparseVectorUnitPinLaw", "holdsAt", "(Lcom/example/hubclear/hubclear/clearing/SparseVector;II)Z"⟩ : MethodName)) hown (mvT hZ (own_w72 hw)) (mvT hZ (own_w73 hw)) (mvT hZ (own_w74 hw)) (mvT hZ (own_w75 hw)) (by decide) (backOf (W := 0) (rm13_24 l Z a0 hw [] b1_0 i0 (i0 + (i2 % (3 : Int32))) o_ONE b1_1 kk1_0 b1_2 kk1_1 T1.heap n0 (Nat.le_trans Z0 KC2.1) hs2 c5 f1_0 f1_1 f1_3 f1_4 (own_eq_nlt (Eq.symm hs2)) (own_eq_nlt hs2) f1_2 f1_5 c8 c9 c10 c11) hZ (own_w75 hw) (own_w74 hw) (by decide) (by decide)) (g := (mkF m 80 #[.val (.int i0), .val (.int i1), .val (.int i2), .val (.ref b1_0), .val (.int (i0 + (i2 % (3 : Int32))))] [(.int (i0 + (i2 % (3 : Int32)))), (.int i0), (.ref b1_0)])) rfl (by rw [hml]; rfl) (argsL := [(.ref b1_0), (.int i0), (.int (i0 + (i2 % (3 : Int32))))]) (rest := []) (lenOf pd__Lcom_example_hubclear_hubclear_clearing_SparseVector_II_Z rfl) rfl (by show 2 * 0 + _ ≤ _; exact Nat.le_of_eq rfl) (hb hby at_80) (fun _ _ => ⟨rfl, e21, (by decide : 3 + 0 ≤ _), (by decide : 5 + 0 ≤ _)⟩)
        dsimp only [Pt.U, Pt.locs, Pt.cells, Pt.slots] at X22 l22 y22 z22 st22 hQ22
        subst l22 y22 z22
        obtain ⟨rfl, N22q, e22⟩ := hQ22
        have N22 := Fr.app N21 N22q
        obtain ⟨fs, hr, hrun, hended, hW, hsame⟩ := X22.leave (v := some (.int (1 : Int32))) (fun h => by rw [Bd.returns] at h; cases h)
        refine ⟨_, _, pre3 _ ?_, hrun, hended, _, _, rfl, ⟨rfl, N22⟩, ⟨_, rfl⟩, hW, hsame.mono (by decide) (by decide)⟩
        show Steps p.tables e below (T21.setTop (mkF m 80 #[.val (.int i0), .val (.int i1), .val (.int i2), .val (.ref b1_0), .val (.int (i0 + (i2 % (3 : Int32))))] [(.int (i0 + (i2 % (3 : Int32)))), (.int i0), (.ref b1_0)])) _
        refine st22 _ ?_
        show Steps p.tables e below (T22.setTop (mkF m 83 #[.val (.int i0), .val (.int i1), .val (.int i2), .val (.ref b1_0), .val (.int (i0 + (i2 % (3 : Int32))))] [(.int (1 : Int32))])) _
        exact retN X22 hx (t := .boolean) Bd.returns (by simp) (hb hby at_83) hr
      · by_cases hs3 : i0 < (i0 + (i2 % (3 : Int32)))
        · obtain ⟨_, _, ⟨T22, L22, k22, n22⟩, -, X22, ⟨Lc22, hQ22, l22, y22, z22⟩, st22⟩ := Jvm.LawKit.callS X21 hx (y := (⟨"com/example/hubclear/hubclear/clearing/SparseVectorUnitPinLaw", "holdsAt", "(Lcom/example/hubclear/hubclear/clearing/SparseVector;II)Z"⟩ : MethodName)) hown (mvT hZ (own_w72 hw)) (mvT hZ (own_w73 hw)) (mvT hZ (own_w74 hw)) (mvT hZ (own_w75 hw)) (by decide) (backOf (W := 0) (rm13_25 l Z a0 hw [] b1_0 i0 (i0 + (i2 % (3 : Int32))) o_ZERO b1_1 kk1_0 T1.heap n0 (Nat.le_trans Z0 KC2.1) hs2 c16 f1_0 f1_1 f1_3 f1_4 hs3 c17 c18 c19 c20) hZ (own_w75 hw) (own_w74 hw) (by decide) (by decide)) (g := (mkF m 80 #[.val (.int i0), .val (.int i1), .val (.int i2), .val (.ref b1_0), .val (.int (i0 + (i2 % (3 : Int32))))] [(.int (i0 + (i2 % (3 : Int32)))), (.int i0), (.ref b1_0)])) rfl (by rw [hml]; rfl) (argsL := [(.ref b1_0), (.int i0), (.int (i0 + (i2 % (3 : Int32))))]) (rest := []) (lenOf pd__Lcom_example_hubclear_hubclear_clearing_SparseVector_II_Z rfl) rfl (by show 2 * 0 + _ ≤ _; exact Nat.le_of_eq rfl) (hb hby at_80) (fun _ _ => ⟨rfl, e21, (by decide : 3 + 0 ≤ _), (by decide : 5 + 0 ≤ _)⟩)
          dsimp only [Pt.U, Pt.locs, Pt.cells, Pt.slots] at X22 l22 y22 z22 st22 hQ22
          subst l22 y22 z22
          obtain ⟨rfl, N22q, e22⟩ := hQ22
          have N22 := Fr.app N21 N22q
          obtain ⟨fs, hr, hrun, hended, hW, hsame⟩ := X22.leave (v := some (.int (1 : Int32))) (fun h => by rw [Bd.returns] at h; cases h)
          refine ⟨_, _, pre3 _ ?_, hrun, hended, _, _, rfl, ⟨rfl, N22⟩, ⟨_, rfl⟩, hW, hsame.mono (by decide) (by decide)⟩
          show Steps p.tables e below (T21.setTop (mkF m 80 #[.val (.int i0), .val (.int i1), .val (.int i2), .val (.ref b1_0), .val (.int (i0 + (i2 % (3 : Int32))))] [(.int (i0 + (i2 % (3 : Int32)))), (.int i0), (.ref b1_0)])) _
          refine st22 _ ?_
          show Steps p.tables e below (T22.setTop (mkF m 83 #[.val (.int i0), .val (.int i1), .val (.int i2), .val (.ref b1_0), .val (.int (i0 + (i2 % (3 : Int32))))] [(.int (1 : Int32))])) _
          exact retN X22 hx (t := .boolean) Bd.returns (by simp) (hb hby at_83) hr
        · obtain ⟨_, _, ⟨T22, L22, k22, n22⟩, -, X22, ⟨Lc22, hQ22, l22, y22, z22⟩, st22⟩ := Jvm.LawKit.callS X21 hx (y := (⟨"com/example/hubclear/hubclear/clearing/SparseVectorUnitPinLaw", "holdsAt", "(Lcom/example/hubclear/hubclear/clearing/SparseVector;II)Z"⟩ : MethodName)) hown (mvT hZ (own_w72 hw)) (mvT hZ (own_w73 hw)) (mvT hZ (own_w74 hw)) (mvT hZ (own_w75 hw)) (by decide) (backOf (W := 0) (rm13_26 l Z a0 hw [] b1_0 i0 (i0 + (i2 % (3 : Int32))) o_ZERO b1_1 kk1_0 T1.heap n0 (Nat.le_trans Z0 KC2.1) hs2 c16 f1_0 f1_1 f1_3 f1_4 hs3 (own_tri2 hs2 hs3) c17 c18 c19 c20) hZ (own_w75 hw) (own_w74 hw) (by decide) (by decide)) (g := (mkF m 80 #[.val (.int i0), .val (.int i1), .val (.int i2), .val (.ref b1_0), .val (.int (i0 + (i2 % (3 : Int32))))] [(.int (i0 + (i2 % (3 : Int32)))), (.int i0), (.ref b1_0)])) rfl (by rw [hml]; rfl) (argsL := [(.ref b1_0), (.int i0), (.int (i0 + (i2 % (3 : Int32))))]) (rest := []) (lenOf pd__Lcom_example_hubclear_hubclear_clearing_SparseVector_II_Z rfl) rfl (by show 2 * 0 + _ ≤ _; exact Nat.le_of_eq rfl) (hb hby at_80) (fun _ _ => ⟨rfl, e21, (by decide : 3 + 0 ≤ _), (by decide : 5 + 0 ≤ _)⟩)
          dsimp only [Pt.U, Pt.locs, Pt.cells, Pt.slots] at X22 l22 y22 z22 st22 hQ22
          subst l22 y22 z22
          obtain ⟨rfl, N22q, e22⟩ := hQ22
          have N22 := Fr.app N21 N22q
          obtain ⟨fs, hr, hrun, hended, hW, hsame⟩ := X22.leave (v := some (.int (1 : Int32))) (fun h => by rw [Bd.returns] at h; cases h)
          refine ⟨_, _, pre3 _ ?_, hrun, hended, _, _, rfl, ⟨rfl, N22⟩, ⟨_, rfl⟩, hW, hsame.mono (by decide) (by decide)⟩
          show Steps p.tables e below (T21.setTop (mkF m 80 #[.val (.int i0), .val (.int i1), .val (.int i2), .val (.ref b1_0), .val (.int (i0 + (i2 % (3 : Int32))))] [(.int (i0 + (i2 % (3 : Int32)))), (.int i0), (.ref b1_0)])) _
          refine st22 _ ?_
          show Steps p.tables e below (T22.setTop (mkF m 83 #[.val (.int i0), .val (.int i1), .val (.int i2), .val (.ref b1_0), .val (.int (i0 + (i2 % (3 : Int32))))] [(.int (1 : Int32))])) _
          exact retN X22 hx (t := .boolean) Bd.returns (by simp) (hb hby at_83) hr
    · have c17 := E_o_ZERO.keep K1
      have c18 := F_o_ZERO_bigNumerator.keep K1 nin0
      have c19 := F_o_ZERO_numerator.keep K1 nin0
      have c20 := F_o_ZERO_denominator.keep K1 nin0
      obtain ⟨_, _, ⟨T21, L21, k21, n21⟩, -, X21, ⟨Lc21, hQ21, l21, y21, z21⟩, st21⟩ := Jvm.LawKit.callS X15 hx (y := (⟨"com/example/hubclear/hubclear/clearing/SparseVectorUnitPinLaw", "holdsAt", "(Lcom/example/hubclear/hubclear/clearing/SparseVector;II)Z"⟩ : MethodName)) hown (mvT hZ (own_w72 hw)) (mvT hZ (own_w73 hw)) (mvT hZ (own_w74 hw)) (mvT hZ (own_w75 hw)) (by decide) (backOf (W := 0) (rm13_26 l Z a0 hw [] b1_0 i0 i1 o_ZERO b1_1 kk1_0 T1.heap n0 (Nat.le_trans Z0 KC2.1) hs0 c16 f1_0 f1_1 f1_3 f1_4 hs1 (own_tri2 hs0 hs1) c17 c18 c19 c20) hZ (own_w75 hw) (own_w74 hw) (by decide) (by decide)) (g := (mkF m 61 #[.val (.int i0), .val (.int i1), .val (.int i2), .val (.ref b1_0), .unset] [(.int i1), (.int i0), (.ref b1_0)])) rfl (by rw [hml]; rfl) (argsL := [(.ref b1_0), (.int i0), (.int i1)]) (rest := []) (lenOf pd__Lcom_example_hubclear_hubclear_clearing_SparseVector_II_Z rfl) rfl (by show 2 * 0 + _ ≤ _; exact Nat.le_of_eq rfl) (hb hby at_61) (fun _ _ => ⟨rfl, e15, (by decide : 3 + 0 ≤ _), (by decide : 5 + 0 ≤ _)⟩)
      dsimp only [Pt.U, Pt.locs, Pt.cells, Pt.slots] at X21 l21 y21 z21 st21 hQ21
      subst l21 y21 z21
      obtain ⟨rfl, N21q, e21⟩ := hQ21
      have N21 := Fr.app N15 N21q
      have pre4 : ∀ t, Steps p.tables e below (T21.setTop (mkF m 80 #[.val (.int i0), .val (.int i1), .val (.int i2), .val (.ref b1_0), .val (.int (i0 + (i2 % (3 : Int32))))] [(.int (i0 + (i2 % (3 : Int32)))), (.int i0), (.ref b1_0)])) t → Steps p.tables e below (s₁.setTop (entryFrame m #[(.int i0), (.int i1), (.int i2)] maxLocals)) t := fun t kk => pre1 t (by
        show Steps p.tables e below (T15.setTop (mkF m 61 #[.val (.int i0), .val (.int i1), .val (.int i2), .val (.ref b1_0), .unset] [(.int i1), (.int i0), (.ref b1_0)])) _
        refine st21 _ ?_
        show Steps p.tables e below (T21.setTop (mkF m 64 #[.val (.int i0), .val (.int i1), .val (.int i2), .val (.ref b1_0), .unset] [(.int (1 : Int32))])) _
        refine XS.ifYes X21.here hx rfl (pc0 := 64) (pc' := 69) rfl (hb hby at_64) rfl ((if0 _ _).trans (feq (by decide : ¬ ((1 : Int32) = (0 : Int32)))).2) (by decide) (by decide) ?_
        show Steps p.tables e below (T21.setTop (mkF m 69 #[.val (.int i0), .val (.int i1), .val (.int i2), .val (.ref b1_0), .unset] [])) _
        refine XS.iloadN X21.here hx rfl (hb hby at_69) rfl ?_
        show Steps p.tables e below (T21.setTop (mkF m 70 #[.val (.int i0), .val (.int i1), .val (.int i2), .val (.ref b1_0), .unset] [(.int i0)])) _
        refine XS.iloadN X21.here hx rfl (hb hby at_70) rfl ?_
        show Steps p.tables e below (T21.setTop (mkF m 71 #[.val (.int i0), .val (.int i1), .val (.int i2), .val (.ref b1_0), .unset] [(.int i2), (.int i0)])) _
        refine XS.iconst X21.here hx rfl (hb hby at_71) ?_
        show Steps p.tables e below (T21.setTop (mkF m 72 #[.val (.int i0), .val (.int i1), .val (.int i2), .val (.ref b1_0), .unset] [(.int (3 : Int32)), (.int i2), (.int i0)])) _
        refine iremM X21 hx rfl (hb hby at_72) rfl (by decide) ?_
        show Steps p.tables e below (T21.setTop (mkF m 73 #[.val (.int i0), .val (.int i1), .val (.int i2), .val (.ref b1_0), .unset] [(.int (i2 % (3 : Int32))), (.int i0)])) _
        refine XS.iadd X21.here hx rfl (hb hby at_73) rfl ?_
        show Steps p.tables e below (T21.setTop (mkF m 74 #[.val (.int i0), .val (.int i1), .val (.int i2), .val (.ref b1_0), .unset] [(.int (i0 + (i2 % (3 : Int32))))])) _
        refine XS.istore X21.here hx rfl (hb hby at_74) rfl (l' := #[.val (.int i0), .val (.int i1), .val (.int i2), .val (.ref b1_0), .val (.int (i0 + (i2 % (3 : Int32))))]) rfl ?_
        show Steps p.tables e below (T21.setTop (mkF m 76 #[.val (.int i0), .val (.int i1), .val (.int i2), .val (.ref b1_0), .val (.int (i0 + (i2 % (3 : Int32))))] [])) _
        refine XS.aloadN X21.here hx rfl (hb hby at_76) rfl rfl ?_
        show Steps p.tables e below (T21.setTop (mkF m 77 #[.val (.int i0), .val (.int i1), .val (.int i2), .val (.ref b1_0), .val (.int (i0 + (i2 % (3 : Int32))))] [(.ref b1_0)])) _
        refine XS.iloadN X21.here hx rfl (hb hby at_77) rfl ?_
        show Steps p.tables e below (T21.setTop (mkF m 78 #[.val (.int i0), .val (.int i1), .val (.int i2), .val (.ref b1_0), .val (.int (i0 + (i2 % (3 : Int32))))] [(.int i0), (.ref b1_0)])) _
        refine XS.iload X21.here hx rfl (hb hby at_78) rfl ?_
        show Steps p.tables e below (T21.setTop (mkF m 80 #[.val (.int i0), .val (.int i1), .val (.int i2), .val (.ref b1_0), .val (.int (i0 + (i2 % (3 : Int32))))] [(.int (i0 + (i2 % (3 : Int32)))), (.int i0), (.ref b1_0)])) _
        exact kk)
      by_cases hs2 : (i0 + (i2 % (3 : Int32))) = i0
      · obtain ⟨_, _, ⟨T22, L22, k22, n22⟩, -, X22, ⟨Lc22, hQ22, l22, y22, z22⟩, st22⟩ := Jvm.LawKit.callS X21 hx (y := (⟨"com/example/hubclear/hubclear/clearing/SparseVectorUnitPinLaw", "holdsAt", "(Lcom/example/hubclear/hubclear/clearing/SparseVector;II)Z"⟩ : MethodName)) hown (mvT hZ (own_w72 hw)) (mvT hZ (own_w73 hw)) (mvT hZ (own_w74 hw)) (mvT hZ (own_w75 hw)) (by decide) (backOf (W := 0) (rm13_24 l Z a0 hw [] b1_0 i0 (i0 + (i2 % (3 : Int32))) o_ONE b1_1 kk1_0 b1_2 kk1_1 T1.heap n0 (Nat.le_trans Z0 KC2.1) hs2 c5 f1_0 f1_1 f1_3 f1_4 (own_eq_nlt (Eq.symm hs2)) (own_eq_nlt hs2) f1_2 f1_5 c8 c9 c10 c11) hZ (own_w75 hw) (own_w74 hw) (by decide) (by decide)) (g := (mkF m 80 #[.val (.int i0), .val (.int i1), .val (.int i2), .val (.ref b1_0), .val (.int (i0 + (i2 % (3 : Int32))))] [(.int (i0 + (i2 % (3 : Int32)))), (.int i0), (.ref b1_0)])) rfl (by rw [hml]; rfl) (argsL := [(.ref b1_0), (.int i0), (.int (i0 + (i2 % (3 : Int32))))]) (rest := []) (lenOf pd__Lcom_example_hubclear_hubclear_clearing_SparseVector_II_Z rfl) rfl (by show 2 * 0 + _ ≤ _; exact Nat.le_of_eq rfl) (hb hby at_80) (fun _ _ => ⟨rfl, e21, (by decide : 3 + 0 ≤ _), (by decide : 5 + 0 ≤ _)⟩)
        dsimp only [Pt.U, Pt.locs, Pt.cells, Pt.slots] at X22 l22 y22 z22 st22 hQ22
        subst l22 y22 z22
        obtain ⟨rfl, N22q, e22⟩ := hQ22
        have N22 := Fr.app N21 N22q
        obtain ⟨fs, hr, hrun, hended, hW, hsame⟩ := X22.leave (v := some (.int (1 : Int32))) (fun h => by rw [Bd.returns] at h; cases h)
        refine ⟨_, _, pre4 _ ?_, hrun, hended, _, _, rfl, ⟨rfl, N22⟩, ⟨_, rfl⟩, hW, hsame.mono (by decide) (by decide)⟩
        show Steps p.tables e below (T21.setTop (mkF m 80 #[.val (.int i0), .val (.int i1), .val (.int i2), .val (.ref b1_0), .val (.int (i0 + (i2 % (3 : Int32))))] [(.int (i0 + (i2 % (3 : Int32)))), (.int i0), (.ref b1_0)])) _
        refine st22 _ ?_
        show Steps p.tables e below (T22.setTop (mkF m 83 #[.val (.int i0), .val (.int i1), .val (.int i2), .val (.ref b1_0), .val (.int (i0 + (i2 % (3 : Int32))))] [(.int (1 : Int32))])) _
        exact retN X22 hx (t := .boolean) Bd.returns (by simp) (hb hby at_83) hr
      · by_cases hs3 : i0 < (i0 + (i2 % (3 : Int32)))
        · obtain ⟨_, _, ⟨T22, L22, k22, n22⟩, -, X22, ⟨Lc22, hQ22, l22, y22, z22⟩, st22⟩ := Jvm.LawKit.callS X21 hx (y := (⟨"com/example/hubclear/hubclear/clearing/SparseVectorUnitPinLaw", "holdsAt", "(Lcom/example/hubclear/hubclear/clearing/SparseVector;II)Z"⟩ : MethodName)) hown (mvT hZ (own_w72 hw)) (mvT hZ (own_w73 hw)) (mvT hZ (own_w74 hw)) (mvT hZ (own_w75 hw)) (by decide) (backOf (W := 0) (rm13_25 l Z a0 hw [] b1_0 i0 (i0 + (i2 % (3 : Int32))) o_ZERO b1_1 kk1_0 T1.heap n0 (Nat.le_trans Z0 KC2.1) hs2 c16 f1_0 f1_1 f1_3 f1_4 hs3 c17 c18 c19 c20) hZ (own_w75 hw) (own_w74 hw) (by decide) (by decide)) (g := (mkF m 80 #[.val (.int i0), .val (.int i1), .val (.int i2), .val (.ref b1_0), .val (.int (i0 + (i2 % (3 : Int32))))] [(.int (i0 + (i2 % (3 : Int32)))), (.int i0), (.ref b1_0)])) rfl (by rw [hml]; rfl) (argsL := [(.ref b1_0), (.int i0), (.int (i0 + (i2 % (3 : Int32))))]) (rest := []) (lenOf pd__Lcom_example_hubclear_hubclear_clearing_SparseVector_II_Z rfl) rfl (by show 2 * 0 + _ ≤ _; exact Nat.le_of_eq rfl) (hb hby at_80) (fun _ _ => ⟨rfl, e21, (by decide : 3 + 0 ≤ _), (by decide : 5 + 0 ≤ _)⟩)
          dsimp only [Pt.U, Pt.locs, Pt.cells, Pt.slots] at X22 l22 y22 z22 st22 hQ22
          subst l22 y22 z22
          obtain ⟨rfl, N22q, e22⟩ := hQ22
          have N22 := Fr.app N21 N22q
          obtain ⟨fs, hr, hrun, hended, hW, hsame⟩ := X22.leave (v := some (.int (1 : Int32))) (fun h => by rw [Bd.returns] at h; cases h)
          refine ⟨_, _, pre4 _ ?_, hrun, hended, _, _, rfl, ⟨rfl, N22⟩, ⟨_, rfl⟩, hW, hsame.mono (by decide) (by decide)⟩
          show Steps p.tables e below (T21.setTop (mkF m 80 #[.val (.int i0), .val (.int i1), .val (.int i2), .val (.ref b1_0), .val (.int (i0 + (i2 % (3 : Int32))))] [(.int (i0 + (i2 % (3 : Int32)))), (.int i0), (.ref b1_0)])) _
          refine st22 _ ?_
          show Steps p.tables e below (T22.setTop (mkF m 83 #[.val (.int i0), .val (.int i1), .val (.int i2), .val (.ref b1_0), .val (.int (i0 + (i2 % (3 : Int32))))] [(.int (1 : Int32))])) _
          exact retN X22 hx (t := .boolean) Bd.returns (by simp) (hb hby at_83) hr
        · obtain ⟨_, _, ⟨T22, L22, k22, n22⟩, -, X22, ⟨Lc22, hQ22, l22, y22, z22⟩, st22⟩ := Jvm.LawKit.callS X21 hx (y := (⟨"com/example/hubclear/hubclear/clearing/SparseVectorUnitPinLaw", "holdsAt", "(Lcom/example/hubclear/hubclear/clearing/SparseVector;II)Z"⟩ : MethodName)) hown (mvT hZ (own_w72 hw)) (mvT hZ (own_w73 hw)) (mvT hZ (own_w74 hw)) (mvT hZ (own_w75 hw)) (by decide) (backOf (W := 0) (rm13_26 l Z a0 hw [] b1_0 i0 (i0 + (i2 % (3 : Int32))) o_ZERO b1_1 kk1_0 T1.heap n0 (Nat.le_trans Z0 KC2.1) hs2 c16 f1_0 f1_1 f1_3 f1_4 hs3 (own_tri2 hs2 hs3) c17 c18 c19 c20) hZ (own_w75 hw) (own_w74 hw) (by decide) (by decide)) (g := (mkF m 80 #[.val (.int i0), .val (.int i1), .val (.int i2), .val (.ref b1_0), .val (.int (i0 + (i2 % (3 : Int32))))] [(.int (i0 + (i2 % (3 : Int32)))), (.int i0), (.ref b1_0)])) rfl (by rw [hml]; rfl) (argsL := [(.ref b1_0), (.int i0), (.int (i0 + (i2 % (3 : Int32))))]) (rest := []) (lenOf pd__Lcom_example_hubclear_hubclear_clearing_SparseVector_II_Z rfl) rfl (by show 2 * 0 + _ ≤ _; exact Nat.le_of_eq rfl) (hb hby at_80) (fun _ _ => ⟨rfl, e21, (by decide : 3 + 0 ≤ _), (by decide : 5 + 0 ≤ _)⟩)
          dsimp only [Pt.U, Pt.locs, Pt.cells, Pt.slots] at X22 l22 y22 z22 st22 hQ22
          subst l22 y22 z22
          obtain ⟨rfl, N22q, e22⟩ := hQ22
          have N22 := Fr.app N21 N22q
          obtain ⟨fs, hr, hrun, hended, hW, hsame⟩ := X22.leave (v := some (.int (1 : Int32))) (fun h => by rw [Bd.returns] at h; cases h)
          refine ⟨_, _, pre4 _ ?_, hrun, hended, _, _, rfl, ⟨rfl, N22⟩, ⟨_, rfl⟩, hW, hsame.mono (by decide) (by decide)⟩
          show Steps p.tables e below (T21.setTop (mkF m 80 #[.val (.int i0), .val (.int i1), .val (.int i2), .val (.ref b1_0), .val (.int (i0 + (i2 % (3 : Int32))))] [(.int (i0 + (i2 % (3 : Int32)))), (.int i0), (.ref b1_0)])) _
          refine st22 _ ?_
          show Steps p.tables e below (T22.setTop (mkF m 83 #[.val (.int i0), .val (.int i1), .val (.int i2), .val (.ref b1_0), .val (.int (i0 + (i2 % (3 : Int32))))] [(.int (1 : Int32))])) _
          exact retN X22 hx (t := .boolean) Bd.returns (by simp) (hb hby at_83) hr
set_option maxRecDepth 65536 in
set_option maxHeartbeats 40000000 in
theorem comes_1 {Post : Tables → Env → Array Value → State → Outcome → State → Prop} (hpost : ∀ tb e args s v u, (limb_1_1.after args s (.returned v) u = true ∧ limb_1_2.after args s (.returned v) u = true ∧ True) → FrameEnd s (.returned v) u (Jvm.fieldLocs frame_1_writes args s ++ Jvm.arrayLocs frame_1_arrays args s ++ Jvm.staticLocs frame_1_statics s) 16 128 → Post tb e args s (.returned v) u) :
    ArmFor flags0 classFile x code maxLocals ret World_1 tables_1 room_1 Calls_1 rest_1 Pre_1 Post := by
  intro l hfl _ _ p e ha hc hk s m args below hf hA hF happ hP
  obtain ⟨hcalls, hrest, hpre⟩ := hP
  obtain ⟨-, -, -, hnamed, -, -, -, hat⟩ := (Spec.applies_iff hf).mp happ
  obtain ⟨hg, hn⟩ := and_e (Cond.before_iff.mp (show (Jvm.Cond.and given_1 narrow_1).before args s = true from hpre))
  obtain ⟨hg_1a, hg_1b⟩ := and_e hg
  obtain ⟨hg_2a, hg_2b⟩ := and_e hg_1b
  obtain ⟨hg_3a, hg_3b⟩ := and_e hg_2b
  obtain ⟨w0, w1, w2, rfl⟩ : ∃ w0 w1 w2 : Value, args = #[w0, w1, w2] := by
    have hs : args.size = 3 := by simpa [Cond.value, given_1] using hg_1a
    obtain ⟨L⟩ := args
    match L, hs with
    | [w0, w1, w2], _ => exact ⟨w0, w1, w2, rfl⟩
  have hw := fun d (hd : d ∈ tables_1) => atoms_spec (ws := Jvm.Cond.code x code maxLocals ret :: tables_1) hat d (List.mem_cons_of_mem _ hd)
  have hfit : Fit s := fun {y c} hc i hi => by
    obtain ⟨ha, rfl⟩ := Array.getElem?_eq_some_iff.mp hc
    have q := List.all_eq_true.mp ((Array.all_eq_true_iff_forall_mem.mp hF) _ (Array.getElem_mem ha)) i (List.mem_range.mpr hi)
    simpa [Array.getElem?_eq_getElem hi] using q
  obtain ⟨i0, ei0⟩ := is_v hg_2a
  obtain rfl : w0 = (.int i0) := Option.some.inj ei0
  obtain ⟨i1, ei1⟩ := is_v hg_3a
  obtain rfl : w1 = (.int i1) := Option.some.inj ei1
  obtain ⟨i2, ei2⟩ := is_v hg_3b
  obtain rfl : w2 = (.int i2) := Option.some.inj ei2
  obtain ⟨hn_1a, hn_1b⟩ := and_e hn
  obtain ⟨hn_2a, hn_2b⟩ := and_e hn_1b
  obtain ⟨hn_3a, hn_3b⟩ := and_e hn_2b
  obtain ⟨hn_4a, hn_4b⟩ := and_e hn_3b
  obtain ⟨hn_5a, hn_5b⟩ := and_e hn_4b
  obtain ⟨hn_6a, hn_6b⟩ := and_e hn_5b
  obtain ⟨hn_7a, hn_7b⟩ := and_e hn_6b
  obtain ⟨o_ONE, ev_o_ONE⟩ := exa_v hn_1a
  have S_o_ONE := Sta.start ev_o_ONE (Or.inr ⟨(own_w10 hw), (own_w11 hw)⟩)
  have E_o_ONE := Exa.start ev_o_ONE hn_1a
  obtain ⟨o_ZERO, ev_o_ZERO⟩ := exa_v hn_5a
  have S_o_ZERO := Sta.start ev_o_ZERO (Or.inr ⟨(own_w10 hw), (own_w77 hw)⟩)
  have E_o_ZERO := Exa.start ev_o_ZERO hn_5a
  have F_o_ONE_bigNumerator := own_fldN ev_o_ONE hn_2a
  have F_o_ONE_numerator := own_fldJ ev_o_ONE hn_3a
  have F_o_ONE_denominator := own_fldJ ev_o_ONE hn_4a
  have F_o_ZERO_bigNumerator := own_fldN ev_o_ZERO hn_6a
  have F_o_ZERO_numerator := own_fldJ ev_o_ZERO hn_7a
  have F_o_ZERO_denominator := own_fldJ ev_o_ZERO hn_7b
  obtain ⟨n, o, h1, h2, h3, _, L, rfl, ⟨rfl, N⟩, hq⟩ := rm0 l s _ hw tables_1 i0 i1 i2 o_ONE o_ZERO s.heap s.heap.size (Nat.le_refl _) S_o_ONE E_o_ONE S_o_ZERO E_o_ZERO F_o_ONE_bigNumerator F_o_ONE_numerator F_o_ONE_denominator F_o_ZERO_bigNumerator F_o_ZERO_numerator F_o_ZERO_denominator p e ha hc hk s m _ below hf ((Spec.applies_iff_loose hf).mp happ).1 ⟨rfl, State.Warmed39.refl s, rfl⟩ trivial
  refine ⟨n, _, h1, h2, h3, hpost _ _ _ _ _ _ ⟨Cond.after_iff.mpr rfl, Cond.after_iff.mpr (eq_i res_at (Term.int_eval (1)) rfl), trivial⟩ ⟨hq.1, hq.2.1, (hq.2.2.sift fun y hy => Or.inr (N y hy)).mono (by decide) (by decide)⟩⟩
theorem main_1_1 : Claimed_1_1 := comes_1 fun _ _ _ _ _ _ h hF => ⟨h.1, hF⟩
theorem main_1_2 : Claimed_1_2 := comes_1 fun _ _ _ _ _ _ h hF => ⟨h.2.1, hF⟩
end Jvm.Pilot.@@N@@
namespace Jvm.Pilot.@@N@@
open Jvm Jvm.ClassFile Sem Op Lib Jvm.Free Jvm.Stand Jvm.Pilot.@@N@@.Jvm.D
/-! MADE BY PROGRAM (witnessworld.py) out of the Statement's table words and the real class files: 13 classes; the members and pool entries that the words name. The judged class is class 1, her method 2. -/
namespace start1
open Jvm.ClassFile
def u (s : String) : CpInfo := .utf8 (stringToUtf16 s)
/-- a pool by its gaps: so many unusable entries, then the entry; so many at the end -/
def gap : Nat → List CpInfo → List CpInfo
  | 0, r => r
  | n + 1, r => .unusable :: gap n r
def poolList (es : List (Nat × CpInfo)) (last : Nat) : List CpInfo := es.foldr (fun e r => gap e.1 (e.2 :: r)) (gap last [])
def pool (es : List (Nat × CpInfo)) (last : Nat) : Array CpInfo := ⟨poolList es last⟩
def fileOf (pool : Array CpInfo) (this : Nat) (attrs : Array Attribute := #[]) (ms : Array MethodInfo := #[]) (fl : Nat := 33) (sup : Nat := 0) (ifs : Array Nat := #[]) (fds : Array FieldInfo := #[]) : ClassFile where
  minorVersion := 0
  majorVersion := 65
  constantPool := pool
  accessFlags := fl
  thisClass := this
  superClass := sup
  interfaces := ifs
  fields := fds
  methods := ms
  attributes := attrs
def plain (name : String) (sup : Option ClassId) : Class where
  name := name
  kind := .ordinary
  loader := none
  accessFlags := 33
  super := sup
  interfaces := #[]
  cf := none
  fields := #[]
  methods := #[]
  instanceTypes := #[]
  staticTypes := #[]
  resolved := #[]
  callSites := []
  init := .initialized
  statics := none
  mirror := none

def pool0 : Array CpInfo := pool [(5, u "<init>"), (0, u "()V"), (1, .class_ 10), (1, u "java/lang/Object")] 113

def k0c0 : Code := { maxStack := 0, maxLocals := 1, code := object_method_1_code, exceptionTable := #[], attributes := #[] }
def k0m0 : Method := { name := "<init>", desc := "()V", sig := { parameters := [], returnType := none }, accessFlags := 1, code := some k0c0 }
/-- java/lang/Object -/
def k0 : Class := { plain "java/lang/Object" none with
  accessFlags := 33
  interfaces := #[]
  cf := some (fileOf pool0 8 #[] #[{ accessFlags := 1, nameIndex := 5, descriptorIndex := 6, attributes := #[] }] 33 0 #[] #[])
  fields := #[]
  methods := #[k0m0]
  instanceTypes := #[]
  staticTypes := #[]
  resolved := Array.replicate 124 none
  statics := none }

def pool1 : Array CpInfo := pool [(2, .class_ 4), (1, u "java/lang/Object"), (0, u "<init>"), (0, u "()V"), (0, .fieldref 8 9), (0, .class_ 10), (0, .nameAndType 11 12), (0, u "com/example/hubclear/hubclear/Rational"), (0, u "ONE"), (0, u "Lcom/example/hubclear/hubclear/Rational;"), (0, .fieldref 8 14), (0, .nameAndType 15 12), (0, u "ZERO"), (0, .methodref 17 18), (0, .class_ 19), (0, .nameAndType 20 21), (0, u "com/example/hubclear/hubclear/clearing/SparseVector"), (0, u "get"), (0, u "(I)Lcom/example/hubclear/hubclear/Rational;"), (0, .methodref 8 23), (0, .nameAndType 24 25), (0, u "equals"), (0, u "(Ljava/lang/Object;)Z"), (0, .methodref 17 27), (0, .nameAndType 28 29), (0, u "unit"), (0, u "(I)Lcom/example/hubclear/hubclear/clearing/SparseVector;"), (0, .methodref 17 31), (0, .nameAndType 32 33), (0, u "size"), (0, u "()I"), (0, .methodref 17 35), (0, .nameAndType 36 37), (0, u "index"), (0, u "(I)I"), (0, .methodref 17 39), (0, .nameAndType 40 21), (0, u "value"), (0, .methodref 42 43), (0, .class_ 44), (0, .nameAndType 45 46), (0, u "com/example/hubclear/hubclear/clearing/SparseVectorUnitPinLaw"), (0, u "holdsAt"), (0, u "(Lcom/example/hubclear/hubclear/clearing/SparseVector;II)Z"), (3, u "law"), (0, u "(III)Z")] 2

def k1m0 : Method := { name := "<init>", desc := "()V", sig := { parameters := [], returnType := none }, accessFlags := 1, code := none }
def k1c1 : Code := { maxStack := 3, maxLocals := 4, code := method_2_code, exceptionTable := #[], attributes := #[] }
def k1m1 : Method := { name := "holdsAt", desc := "(Lcom/example/hubclear/hubclear/clearing/SparseVector;II)Z", sig := { parameters := [(.object "com/example/hubclear/hubclear/clearing/SparseVector"), .int, .int], returnType := some .boolean }, accessFlags := 10, code := some k1c1 }
def k1c2 : Code := { maxStack := 3, maxLocals := 5, code := code, exceptionTable := #[], attributes := #[] }
def k1m2 : Method := { name := "law", desc := "(III)Z", sig := { parameters := [.int, .int, .int], returnType := some .boolean }, accessFlags := 9, code := some k1c2 }
/-- com/example/hubclear/hubclear/clearing/SparseVectorUnitPinLaw -/
def k1 : Class := { plain "com/example/hubclear/hubclear/clearing/SparseVectorUnitPinLaw" (some 0) with
  accessFlags := 49
  interfaces := #[]
  cf := some (fileOf pool1 42 #[] #[{ accessFlags := 1, nameIndex := 5, descriptorIndex := 6, attributes := #[] }, { accessFlags := 10, nameIndex := 45, descriptorIndex := 46, attributes := #[] }, { accessFlags := 9, nameIndex := 50, descriptorIndex := 51, attributes := #[] }] 49 2 #[] #[])
  fields := #[]
  methods := #[k1m0, k1m1, k1m2]
  instanceTypes := #[]
  staticTypes := #[]
  resolved := Array.replicate 54 none
  statics := none }

def pool2 : Array CpInfo := pool [(1, .methodref 2 3), (0, .class_ 4), (0, .nameAndType 5 6), (0, u "java/lang/Object"), (0, u "<init>"), (0, u "()V"), (0, .fieldref 8 9), (0, .class_ 10), (0, .nameAndType 11 12), (0, u "com/example/hubclear/hubclear/clearing/SparseVector"), (0, u "indices"), (0, u "[I"), (0, .fieldref 8 14), (0, .nameAndType 15 16), (0, u "values"), (0, u "[Lcom/example/hubclear/hubclear/Rational;"), (0, .fieldref 8 18), (0, .nameAndType 19 20), (0, u "size"), (0, u "I"), (0, .class_ 22), (0, u "com/example/hubclear/hubclear/Rational"), (0, .fieldref 21 24), (0, .nameAndType 25 26), (0, u "ONE"), (0, u "Lcom/example/hubclear/hubclear/Rational;"), (0, .methodref 8 28), (0, .nameAndType 5 29), (0, u "([I[Lcom/example/hubclear/hubclear/Rational;I)V"), (0, .methodref 31 32), (0, .class_ 33), (0, .nameAndType 34 35), (0, u "java/util/Arrays"), (0, u "binarySearch"), (0, u "([IIII)I"), (0, .fieldref 21 37), (0, .nameAndType 38 26), (0, u "ZERO"), (17, u "()I"), (2, u "EMPTY"), (0, u "Lcom/example/hubclear/hubclear/clearing/SparseVector;"), (2, u "unit"), (0, u "(I)Lcom/example/hubclear/hubclear/clearing/SparseVector;"), (0, u "index"), (0, u "(I)I"), (0, u "value"), (0, u "(I)Lcom/example/hubclear/hubclear/Rational;"), (0, u "get")] 10

def k2c0 : Code := { maxStack := 2, maxLocals := 4, code := prog_51_method_1_code, exceptionTable := #[], attributes := #[] }
def k2m0 : Method := { name := "<init>", desc := "([I[Lcom/example/hubclear/hubclear/Rational;I)V", sig := { parameters := [(.array .int), (.array (.object "com/example/hubclear/hubclear/Rational")), .int], returnType := none }, accessFlags := 0, code := some k2c0 }
def k2c1 : Code := { maxStack := 7, maxLocals := 1, code := prog_51_method_2_code, exceptionTable := #[], attributes := #[] }
def k2m1 : Method := { name := "unit", desc := "(I)Lcom/example/hubclear/hubclear/clearing/SparseVector;", sig := { parameters := [.int], returnType := some (.object "com/example/hubclear/hubclear/clearing/SparseVector") }, accessFlags := 8, code := some k2c1 }
def k2c2 : Code := { maxStack := 1, maxLocals := 1, code := prog_51_method_3_code, exceptionTable := #[], attributes := #[] }
def k2m2 : Method := { name := "size", desc := "()I", sig := { parameters := [], returnType := some .int }, accessFlags := 0, code := some k2c2 }
def k2c3 : Code := { maxStack := 2, maxLocals := 2, code := prog_51_method_4_code, exceptionTable := #[], attributes := #[] }
def k2m3 : Method := { name := "index", desc := "(I)I", sig := { parameters := [.int], returnType := some .int }, accessFlags := 0, code := some k2c3 }
def k2c4 : Code := { maxStack := 2, maxLocals := 2, code := prog_51_method_5_code, exceptionTable := #[], attributes := #[] }
def k2m4 : Method := { name := "value", desc := "(I)Lcom/example/hubclear/hubclear/Rational;", sig := { parameters := [.int], returnType := some (.object "com/example/hubclear/hubclear/Rational") }, accessFlags := 0, code := some k2c4 }
def k2c5 : Code := { maxStack := 4, maxLocals := 3, code := prog_51_method_6_code, exceptionTable := #[], attributes := #[] }
def k2m5 : Method := { name := "get", desc := "(I)Lcom/example/hubclear/hubclear/Rational;", sig := { parameters := [.int], returnType := some (.object "com/example/hubclear/hubclear/Rational") }, accessFlags := 0, code := some k2c5 }
/-- com/example/hubclear/hubclear/clearing/SparseVector -/
def k2 : Class := { plain "com/example/hubclear/hubclear/clearing/SparseVector" (some 0) with
  accessFlags := 48
  interfaces := #[]
  cf := some (fileOf pool2 8 #[] #[{ accessFlags := 0, nameIndex := 5, descriptorIndex := 29, attributes := #[] }, { accessFlags := 8, nameIndex := 63, descriptorIndex := 64, attributes := #[] }, { accessFlags := 0, nameIndex := 19, descriptorIndex := 56, attributes := #[] }, { accessFlags := 0, nameIndex := 65, descriptorIndex := 66, attributes := #[] }, { accessFlags := 0, nameIndex := 67, descriptorIndex := 68, attributes := #[] }, { accessFlags := 0, nameIndex := 69, descriptorIndex := 68, attributes := #[] }] 48 2 #[] #[{ accessFlags := 24, nameIndex := 59, descriptorIndex := 60, attributes := #[] }, { accessFlags := 18, nameIndex := 11, descriptorIndex := 12, attributes := #[] }, { accessFlags := 18, nameIndex := 15, descriptorIndex := 16, attributes := #[] }, { accessFlags := 18, nameIndex := 19, descriptorIndex := 20, attributes := #[] }])
  fields := #[{ name := "EMPTY", type := (.object "com/example/hubclear/hubclear/clearing/SparseVector"), accessFlags := 24, slot := 0, constantValue := 0 }, { name := "indices", type := (.array .int), accessFlags := 18, slot := 0, constantValue := 0 }, { name := "values", type := (.array (.object "com/example/hubclear/hubclear/Rational")), accessFlags := 18, slot := 1, constantValue := 0 }, { name := "size", type := .int, accessFlags := 18, slot := 2, constantValue := 0 }]
  methods := #[k2m0, k2m1, k2m2, k2m3, k2m4, k2m5]
  instanceTypes := #[(.array .int), (.array (.object "com/example/hubclear/hubclear/Rational")), .int]
  staticTypes := #[(.object "com/example/hubclear/hubclear/clearing/SparseVector")]
  resolved := Array.replicate 80 none
  statics := none }

def pool3 : Array CpInfo := pool [(1, .class_ 2), (0, u "java/lang/Comparable"), (0, .class_ 4), (0, u "java/lang/Object")] 7

/-- java/lang/Comparable -/
def k3 : Class := { plain "java/lang/Comparable" (some 0) with
  accessFlags := 1537
  interfaces := #[]
  cf := some (fileOf pool3 1 #[] #[] 1537 3 #[] #[])
  fields := #[]
  methods := #[]
  instanceTypes := #[]
  staticTypes := #[]
  resolved := Array.replicate 12 none
  statics := none }

def pool4 : Array CpInfo := pool [(4, .class_ 6), (1, u "java/lang/Object"), (2, .fieldref 10 11), (0, .class_ 12), (0, .nameAndType 13 14), (0, u "com/example/hubclear/hubclear/Rational"), (0, u "numerator"), (0, u "J"), (0, .fieldref 10 16), (0, .nameAndType 17 14), (0, u "denominator"), (0, .fieldref 10 19), (0, .nameAndType 20 21), (0, u "bigNumerator"), (0, u "Ljava/math/BigInteger;"), (2, u "bigDenominator"), (17, u "ONE"), (28, .methodref 10 72), (0, .nameAndType 73 74), (0, u "isSmall"), (0, u "()Z"), (14, u "equals"), (0, u "(Ljava/lang/Object;)Z"), (109, u "ZERO"), (0, u "Lcom/example/hubclear/hubclear/Rational;"), (2, .class_ 205), (0, u "java/lang/Comparable"), (0, u "TOO_LARGE")] 33

def k4c0 : Code := { maxStack := 1, maxLocals := 1, code := prog_18_method_6_code, exceptionTable := #[], attributes := #[] }
def k4m0 : Method := { name := "isSmall", desc := "()Z", sig := { parameters := [], returnType := some .boolean }, accessFlags := 2, code := some k4c0 }
def k4c1 : Code := { maxStack := 4, maxLocals := 3, code := prog_18_method_28_code, exceptionTable := #[], attributes := #[] }
def k4m1 : Method := { name := "equals", desc := "(Ljava/lang/Object;)Z", sig := { parameters := [(.object "java/lang/Object")], returnType := some .boolean }, accessFlags := 1, code := some k4c1 }
/-- com/example/hubclear/hubclear/Rational -/
def k4 : Class := { plain "com/example/hubclear/hubclear/Rational" (some 0) with
  accessFlags := 49
  interfaces := #[3]
  cf := some (fileOf pool4 10 #[] #[{ accessFlags := 2, nameIndex := 73, descriptorIndex := 74, attributes := #[] }, { accessFlags := 1, nameIndex := 89, descriptorIndex := 90, attributes := #[] }] 49 4 #[204] #[{ accessFlags := 26, nameIndex := 206, descriptorIndex := 14, attributes := #[] }, { accessFlags := 25, nameIndex := 200, descriptorIndex := 201, attributes := #[] }, { accessFlags := 25, nameIndex := 42, descriptorIndex := 201, attributes := #[] }, { accessFlags := 18, nameIndex := 13, descriptorIndex := 14, attributes := #[] }, { accessFlags := 18, nameIndex := 17, descriptorIndex := 14, attributes := #[] }, { accessFlags := 18, nameIndex := 20, descriptorIndex := 21, attributes := #[] }, { accessFlags := 18, nameIndex := 24, descriptorIndex := 21, attributes := #[] }])
  fields := #[{ name := "TOO_LARGE", type := .long, accessFlags := 26, slot := 0, constantValue := 0 }, { name := "ZERO", type := (.object "com/example/hubclear/hubclear/Rational"), accessFlags := 25, slot := 1, constantValue := 0 }, { name := "ONE", type := (.object "com/example/hubclear/hubclear/Rational"), accessFlags := 25, slot := 2, constantValue := 0 }, { name := "numerator", type := .long, accessFlags := 18, slot := 0, constantValue := 0 }, { name := "denominator", type := .long, accessFlags := 18, slot := 1, constantValue := 0 }, { name := "bigNumerator", type := (.object "java/math/BigInteger"), accessFlags := 18, slot := 2, constantValue := 0 }, { name := "bigDenominator", type := (.object "java/math/BigInteger"), accessFlags := 18, slot := 3, constantValue := 0 }]
  methods := #[k4m0, k4m1]
  instanceTypes := #[.long, .long, (.object "java/math/BigInteger"), (.object "java/math/BigInteger")]
  staticTypes := #[.long, (.object "com/example/hubclear/hubclear/Rational"), (.object "com/example/hubclear/hubclear/Rational")]
  resolved := Array.replicate 240 none
  statics := some 0 }

def pool5 : Array CpInfo := pool [(2, .class_ 4), (1, u "java/lang/Object"), (0, u "<init>"), (0, u "()V"), (6, .methodref 14 15), (0, .class_ 16), (0, .nameAndType 17 18), (0, u "java/util/Arrays"), (0, u "rangeCheck"), (0, u "(III)V"), (55, .class_ 76), (1, u "java/util/Arrays$NaturalOrder"), (36, .class_ 115), (1, u "java/util/Arrays$LegacyMergeSort"), (1, u "Z"), (89, u "binarySearch0"), (1, .methodref 14 210), (0, .nameAndType 207 211), (0, u "([IIII)I"), (163, .class_ 376), (0, u "java/util/Arrays$ArrayList"), (68, u "$assertionsDisabled"), (269, u "MIN_ARRAY_SORT_GRAN"), (0, u "I"), (2, u "INSERTIONSORT_THRESHOLD"), (74, u "binarySearch"), (180, .class_ 976), (0, u "java/util/Arrays$ArrayItr")] 52

def k5m0 : Method := { name := "<init>", desc := "()V", sig := { parameters := [], returnType := none }, accessFlags := 2, code := none }
def k5c1 : Code := { maxStack := 4, maxLocals := 3, code := jdk_65_method_30_code, exceptionTable := #[], attributes := #[] }
def k5m1 : Method := { name := "rangeCheck", desc := "(III)V", sig := { parameters := [.int, .int, .int], returnType := none }, accessFlags := 8, code := some k5c1 }
def k5c2 : Code := { maxStack := 4, maxLocals := 4, code := jdk_65_method_58_code, exceptionTable := #[], attributes := #[] }
def k5m2 : Method := { name := "binarySearch", desc := "([IIII)I", sig := { parameters := [(.array .int), .int, .int, .int], returnType := some .int }, accessFlags := 9, code := some k5c2 }
def k5c3 : Code := { maxStack := 2, maxLocals := 8, code := jdk_65_method_59_code, exceptionTable := #[], attributes := #[] }
def k5m3 : Method := { name := "binarySearch0", desc := "([IIII)I", sig := { parameters := [(.array .int), .int, .int, .int], returnType := some .int }, accessFlags := 10, code := some k5c3 }
/-- java/util/Arrays -/
def k5 : Class := { plain "java/util/Arrays" (some 0) with
  accessFlags := 49
  interfaces := #[]
  cf := some (fileOf pool5 14 #[.nestMembers #[975, 375, 113, 74]] #[{ accessFlags := 2, nameIndex := 5, descriptorIndex := 6, attributes := #[] }, { accessFlags := 8, nameIndex := 17, descriptorIndex := 18, attributes := #[] }, { accessFlags := 9, nameIndex := 794, descriptorIndex := 211, attributes := #[] }, { accessFlags := 10, nameIndex := 207, descriptorIndex := 211, attributes := #[] }] 49 2 #[] #[{ accessFlags := 26, nameIndex := 715, descriptorIndex := 716, attributes := #[] }, { accessFlags := 26, nameIndex := 719, descriptorIndex := 716, attributes := #[] }, { accessFlags := 4120, nameIndex := 445, descriptorIndex := 117, attributes := #[] }])
  fields := #[{ name := "MIN_ARRAY_SORT_GRAN", type := .int, accessFlags := 26, slot := 0, constantValue := 0 }, { name := "INSERTIONSORT_THRESHOLD", type := .int, accessFlags := 26, slot := 1, constantValue := 0 }, { name := "$assertionsDisabled", type := .boolean, accessFlags := 4120, slot := 2, constantValue := 0 }]
  methods := #[k5m0, k5m1, k5m2, k5m3]
  instanceTypes := #[]
  staticTypes := #[.int, .int, .boolean]
  resolved := Array.replicate 1029 none
  statics := none }

def pool6 : Array CpInfo := pool [(1, u "java/lang/Cloneable"), (0, .class_ 1), (0, u "java/lang/Object"), (0, .class_ 3)] 3

/-- java/lang/Cloneable -/
def k6 : Class := { plain "java/lang/Cloneable" (some 0) with
  accessFlags := 1537
  interfaces := #[]
  cf := some (fileOf pool6 2 #[] #[] 1537 4 #[] #[])
  fields := #[]
  methods := #[]
  instanceTypes := #[]
  staticTypes := #[]
  resolved := Array.replicate 8 none
  statics := none }

def pool7 : Array CpInfo := pool [(1, u "java/io/Serializable"), (0, .class_ 1), (0, u "java/lang/Object"), (0, .class_ 3)] 3

/-- java/io/Serializable -/
def k7 : Class := { plain "java/io/Serializable" (some 0) with
  accessFlags := 1537
  interfaces := #[]
  cf := some (fileOf pool7 2 #[] #[] 1537 4 #[] #[])
  fields := #[]
  methods := #[]
  instanceTypes := #[]
  staticTypes := #[]
  resolved := Array.replicate 8 none
  statics := none }

/-- the primitive byte -/
def k8 : Class := { plain "byte" none with kind := .primitive 'B', accessFlags := 0x411 }
/-- [B -/
def k9 : Class := { plain "[B" (some 0) with kind := .array 8 .byte, interfaces := #[6, 7], accessFlags := 1041 }

/-- the primitive int -/
def k10 : Class := { plain "int" none with kind := .primitive 'I', accessFlags := 0x411 }
/-- [I -/
def k11 : Class := { plain "[I" (some 0) with kind := .array 10 .int, interfaces := #[6, 7], accessFlags := 1041 }

/-- [Lcom/example/hubclear/hubclear/Rational; -/
def k12 : Class := { plain "[Lcom/example/hubclear/hubclear/Rational;" (some 0) with kind := .array 4 (.object "com/example/hubclear/hubclear/Rational"), interfaces := #[6, 7], accessFlags := 1041 }

def heap : Heap := #[{ cls := 4, slots := #[.long 0, .ref 2, .ref 1], vm := .statics 4 },
  { cls := 4, slots := #[.long 1, .long 1, .null, .null], vm := .none },
  { cls := 4, slots := #[.long 0, .long 1, .null, .null], vm := .none }]
def classes : Array Class := #[k0, k1, k2, k3, k4, k5, k6, k7, k8, k9, k10, k11, k12]
def interned : List (Array UInt16 × Addr) := []
def slotsUsed : Nat := 11
def theMethod : MethodId := ⟨1, 2⟩
def args0 : Array Value := #[.int 5, .int 1, .int 2]
def aboutOver (below : List Frame) : State where
  vm := { classes := classes, interned := interned.toArray }
  heap := heap
  slotsUsed := slotsUsed
  threads := #[{ frames := .invoking theMethod args0 :: below }]
def below0 : List Frame := [.native { method := ⟨0, 0⟩, args := #[] }]
def about1 : State := aboutOver below0
def p0 : Program := .bare "" "" ""
def e0 : Env := launch0.env 0 0 0
theorem w_frames : about1.frames = Frame.invoking theMethod args0 :: below0 := rfl
set_option maxRecDepth 65536 in
theorem w_args : argsFit about1.vm theMethod args0 = true := by decide +kernel
set_option maxRecDepth 65536 in
theorem w_heap : heapFits about1 = true := by decide +kernel
set_option maxRecDepth 65536 in
theorem w_runnable : about1.curStatus? = some .runnable := by decide +kernel
set_option maxRecDepth 65536 in
theorem w_alone : about1.alone = true := by decide +kernel
set_option maxRecDepth 65536 in
theorem w_named : about1.methodNamed? x = some theMethod := by decide +kernel
set_option maxRecDepth 65536 in
theorem w_hears : about1.hears theMethod below0 = true := by decide +kernel
set_option maxRecDepth 65536 in
theorem w_ripe : about1.ripe theMethod args0 below0 = true := by decide +kernel
theorem w_running : about1.status = .running := rfl
set_option maxRecDepth 65536 in
theorem w_room : about1.hasRoom e0.platform room_1 = true :=
  launch0.hasRoom_least _ room_1 (by decide +kernel) (by decide +kernel) (by decide +kernel) (by decide +kernel) (by decide +kernel) (by decide +kernel)
theorem allAtoms_all (ts : List Jvm.Cond) (a : Array Jvm.Value) (st : Jvm.State) : (allAtoms ts).before a st = ts.all (fun c => c.before a st) := by
  induction ts with
  | nil => rfl
  | cons c t ih =>
    show (Jvm.Cond.and c (allAtoms t)).before a st = _
    rw [Jvm.Cond.before_and, ih, List.all_cons]
def words1 : List Jvm.Cond := Jvm.Cond.code x code maxLocals ret :: tables_1
/-- a 'code' word, met by the world's own term for the bytes: nothing is compared byte by byte -/
theorem code_word {y : MethodName} {bytes : ByteArray} {mx : Nat} {rt : Option FieldType} {a : Array Value} {s : State} {m : MethodId} {meth : Method} {c : Code} (h1 : s.methodNamed? y = some m) (h2 : s.vm.method? m = some meth) (h3 : meth.code = some c) (h4 : c.code = bytes)
    (h5 : (c.maxLocals == mx && c.exceptionTable.isEmpty && decide (c.maxStack ≤ mostOperands) && decide (meth.sig.returnType = rt) && !meth.locks && decide (parseMethodDescriptor y.desc = some meth.sig)) = true) : (Jvm.Cond.code y bytes mx rt).before a s = true := by
  simp only [Bool.and_eq_true, beq_iff_eq, Bool.not_eq_true', decide_eq_true_eq] at h5
  obtain ⟨⟨⟨⟨⟨g1, g2⟩, g3⟩, g4⟩, g5⟩, g6⟩ := h5
  simp [Cond.before, Cond.holds, Cond.value, h1, h2, h3, h4, g1, g2, g3, g4, g5, g6]
def isCode : Jvm.Cond → Bool
  | .code _ _ _ _ => true
  | _ => false
theorem all_split {L : List Jvm.Cond} {P : Jvm.Cond → Bool} (h1 : L.all (fun c => isCode c || P c) = true) (h2 : ∀ c ∈ L.filter isCode, P c = true) : L.all P = true := by
  refine List.all_eq_true.mpr fun c hc => ?_
  have h := List.all_eq_true.mp h1 c hc
  rcases Bool.eq_false_or_eq_true (isCode c) with hi | hi
  · exact h2 c (List.mem_filter.mpr ⟨hc, hi⟩)
  · simpa [hi] using h
set_option maxRecDepth 65536 in
theorem w_c0 : (Jvm.Cond.code x code maxLocals ret).before args0 about1 = true := code_word (m := ⟨1, 2⟩) (meth := k1m2) (c := k1c2) (by decide +kernel) rfl rfl rfl (by decide +kernel)
set_option maxRecDepth 65536 in
theorem w_c1 : (Jvm.Cond.code ({ cls := "com/example/hubclear/hubclear/clearing/SparseVector", name := "unit", desc := "(I)Lcom/example/hubclear/hubclear/clearing/SparseVector;" } : Jvm.MethodName) prog_51_method_2_code (1 : Nat) (Option.some (Jvm.ClassFile.FieldType.object "com/example/hubclear/hubclear/clearing/SparseVector"))).before args0 about1 = true := code_word (m := ⟨2, 1⟩) (meth := k2m1) (c := k2c1) (by decide +kernel) rfl rfl rfl (by decide +kernel)
set_option maxRecDepth 65536 in
theorem w_c2 : (Jvm.Cond.code ({ cls := "com/example/hubclear/hubclear/clearing/SparseVector", name := "<init>", desc := "([I[Lcom/example/hubclear/hubclear/Rational;I)V" } : Jvm.MethodName) prog_51_method_1_code (4 : Nat) (Option.none : Option Jvm.ClassFile.FieldType)).before args0 about1 = true := code_word (m := ⟨2, 0⟩) (meth := k2m0) (c := k2c0) (by decide +kernel) rfl rfl rfl (by decide +kernel)
set_option maxRecDepth 65536 in
theorem w_c3 : (Jvm.Cond.code ({ cls := "java/lang/Object", name := "<init>", desc := "()V" } : Jvm.MethodName) object_method_1_code (1 : Nat) (Option.none : Option Jvm.ClassFile.FieldType)).before args0 about1 = true := code_word (m := ⟨0, 0⟩) (meth := k0m0) (c := k0c0) (by decide +kernel) rfl rfl rfl (by decide +kernel)
set_option maxRecDepth 65536 in
theorem w_c4 : (Jvm.Cond.code ({ cls := "com/example/hubclear/hubclear/clearing/SparseVector", name := "size", desc := "()I" } : Jvm.MethodName) prog_51_method_3_code (1 : Nat) (Option.some Jvm.ClassFile.FieldType.int)).before args0 about1 = true := code_word (m := ⟨2, 2⟩) (meth := k2m2) (c := k2c2) (by decide +kernel) rfl rfl rfl (by decide +kernel)
set_option maxRecDepth 65536 in
theorem w_c5 : (Jvm.Cond.code ({ cls := "com/example/hubclear/hubclear/clearing/SparseVector", name := "index", desc := "(I)I" } : Jvm.MethodName) prog_51_method_4_code (2 : Nat) (Option.some Jvm.ClassFile.FieldType.int)).before args0 about1 = true := code_word (m := ⟨2, 3⟩) (meth := k2m3) (c := k2c3) (by decide +kernel) rfl rfl rfl (by decide +kernel)
set_option maxRecDepth 65536 in
theorem w_c6 : (Jvm.Cond.code ({ cls := "com/example/hubclear/hubclear/clearing/SparseVector", name := "value", desc := "(I)Lcom/example/hubclear/hubclear/Rational;" } : Jvm.MethodName) prog_51_method_5_code (2 : Nat) (Option.some (Jvm.ClassFile.FieldType.object "com/example/hubclear/hubclear/Rational"))).before args0 about1 = true := code_word (m := ⟨2, 4⟩) (meth := k2m4) (c := k2c4) (by decide +kernel) rfl rfl rfl (by decide +kernel)
set_option maxRecDepth 65536 in
theorem w_c7 : (Jvm.Cond.code ({ cls := "com/example/hubclear/hubclear/Rational", name := "equals", desc := "(Ljava/lang/Object;)Z" } : Jvm.MethodName) prog_18_method_28_code (3 : Nat) (Option.some Jvm.ClassFile.FieldType.boolean)).before args0 about1 = true := code_word (m := ⟨4, 1⟩) (meth := k4m1) (c := k4c1) (by decide +kernel) rfl rfl rfl (by decide +kernel)
set_option maxRecDepth 65536 in
theorem w_c8 : (Jvm.Cond.code ({ cls := "com/example/hubclear/hubclear/Rational", name := "isSmall", desc := "()Z" } : Jvm.MethodName) prog_18_method_6_code (1 : Nat) (Option.some Jvm.ClassFile.FieldType.boolean)).before args0 about1 = true := code_word (m := ⟨4, 0⟩) (meth := k4m0) (c := k4c0) (by decide +kernel) rfl rfl rfl (by decide +kernel)
set_option maxRecDepth 65536 in
theorem w_c9 : (Jvm.Cond.code ({ cls := "com/example/hubclear/hubclear/clearing/SparseVector", name := "get", desc := "(I)Lcom/example/hubclear/hubclear/Rational;" } : Jvm.MethodName) prog_51_method_6_code (3 : Nat) (Option.some (Jvm.ClassFile.FieldType.object "com/example/hubclear/hubclear/Rational"))).before args0 about1 = true := code_word (m := ⟨2, 5⟩) (meth := k2m5) (c := k2c5) (by decide +kernel) rfl rfl rfl (by decide +kernel)
set_option maxRecDepth 65536 in
theorem w_c10 : (Jvm.Cond.code ({ cls := "java/util/Arrays", name := "binarySearch", desc := "([IIII)I" } : Jvm.MethodName) jdk_65_method_58_code (4 : Nat) (Option.some Jvm.ClassFile.FieldType.int)).before args0 about1 = true := code_word (m := ⟨5, 2⟩) (meth := k5m2) (c := k5c2) (by decide +kernel) rfl rfl rfl (by decide +kernel)
set_option maxRecDepth 65536 in
theorem w_c11 : (Jvm.Cond.code ({ cls := "java/util/Arrays", name := "rangeCheck", desc := "(III)V" } : Jvm.MethodName) jdk_65_method_30_code (3 : Nat) (Option.none : Option Jvm.ClassFile.FieldType)).before args0 about1 = true := code_word (m := ⟨5, 1⟩) (meth := k5m1) (c := k5c1) (by decide +kernel) rfl rfl rfl (by decide +kernel)
set_option maxRecDepth 65536 in
theorem w_c12 : (Jvm.Cond.code ({ cls := "java/util/Arrays", name := "binarySearch0", desc := "([IIII)I" } : Jvm.MethodName) jdk_65_method_59_code (8 : Nat) (Option.some Jvm.ClassFile.FieldType.int)).before args0 about1 = true := code_word (m := ⟨5, 3⟩) (meth := k5m3) (c := k5c3) (by decide +kernel) rfl rfl rfl (by decide +kernel)
set_option maxRecDepth 65536 in
theorem w_c13 : (Jvm.Cond.code ({ cls := "com/example/hubclear/hubclear/clearing/SparseVectorUnitPinLaw", name := "holdsAt", desc := "(Lcom/example/hubclear/hubclear/clearing/SparseVector;II)Z" } : Jvm.MethodName) method_2_code (4 : Nat) (Option.some Jvm.ClassFile.FieldType.boolean)).before args0 about1 = true := code_word (m := ⟨1, 1⟩) (meth := k1m1) (c := k1c1) (by decide +kernel) rfl rfl rfl (by decide +kernel)
def codes1 : List Jvm.Cond := [Jvm.Cond.code x code maxLocals ret, Jvm.Cond.code ({ cls := "com/example/hubclear/hubclear/clearing/SparseVector", name := "unit", desc := "(I)Lcom/example/hubclear/hubclear/clearing/SparseVector;" } : Jvm.MethodName) prog_51_method_2_code (1 : Nat) (Option.some (Jvm.ClassFile.FieldType.object "com/example/hubclear/hubclear/clearing/SparseVector")), Jvm.Cond.code ({ cls := "com/example/hubclear/hubclear/clearing/SparseVector", name := "<init>", desc := "([I[Lcom/example/hubclear/hubclear/Rational;I)V" } : Jvm.MethodName) prog_51_method_1_code (4 : Nat) (Option.none : Option Jvm.ClassFile.FieldType), Jvm.Cond.code ({ cls := "java/lang/Object", name := "<init>", desc := "()V" } : Jvm.MethodName) object_method_1_code (1 : Nat) (Option.none : Option Jvm.ClassFile.FieldType), Jvm.Cond.code ({ cls := "com/example/hubclear/hubclear/clearing/SparseVector", name := "size", desc := "()I" } : Jvm.MethodName) prog_51_method_3_code (1 : Nat) (Option.some Jvm.ClassFile.FieldType.int), Jvm.Cond.code ({ cls := "com/example/hubclear/hubclear/clearing/SparseVector", name := "index", desc := "(I)I" } : Jvm.MethodName) prog_51_method_4_code (2 : Nat) (Option.some Jvm.ClassFile.FieldType.int), Jvm.Cond.code ({ cls := "com/example/hubclear/hubclear/clearing/SparseVector", name := "value", desc := "(I)Lcom/example/hubclear/hubclear/Rational;" } : Jvm.MethodName) prog_51_method_5_code (2 : Nat) (Option.some (Jvm.ClassFile.FieldType.object "com/example/hubclear/hubclear/Rational")), Jvm.Cond.code ({ cls := "com/example/hubclear/hubclear/Rational", name := "equals", desc := "(Ljava/lang/Object;)Z" } : Jvm.MethodName) prog_18_method_28_code (3 : Nat) (Option.some Jvm.ClassFile.FieldType.boolean), Jvm.Cond.code ({ cls := "com/example/hubclear/hubclear/Rational", name := "isSmall", desc := "()Z" } : Jvm.MethodName) prog_18_method_6_code (1 : Nat) (Option.some Jvm.ClassFile.FieldType.boolean), Jvm.Cond.code ({ cls := "com/example/hubclear/hubclear/clearing/SparseVector", name := "get", desc := "(I)Lcom/example/hubclear/hubclear/Rational;" } : Jvm.MethodName) prog_51_method_6_code (3 : Nat) (Option.some (Jvm.ClassFile.FieldType.object "com/example/hubclear/hubclear/Rational")), Jvm.Cond.code ({ cls := "java/util/Arrays", name := "binarySearch", desc := "([IIII)I" } : Jvm.MethodName) jdk_65_method_58_code (4 : Nat) (Option.some Jvm.ClassFile.FieldType.int), Jvm.Cond.code ({ cls := "java/util/Arrays", name := "rangeCheck", desc := "(III)V" } : Jvm.MethodName) jdk_65_method_30_code (3 : Nat) (Option.none : Option Jvm.ClassFile.FieldType), Jvm.Cond.code ({ cls := "java/util/Arrays", name := "binarySearch0", desc := "([IIII)I" } : Jvm.MethodName) jdk_65_method_59_code (8 : Nat) (Option.some Jvm.ClassFile.FieldType.int), Jvm.Cond.code ({ cls := "com/example/hubclear/hubclear/clearing/SparseVectorUnitPinLaw", name := "holdsAt", desc := "(Lcom/example/hubclear/hubclear/clearing/SparseVector;II)Z" } : Jvm.MethodName) method_2_code (4 : Nat) (Option.some Jvm.ClassFile.FieldType.boolean)]
set_option maxRecDepth 65536 in
theorem codes_eq : words1.filter isCode = codes1 := rfl
theorem w_codes : ∀ c ∈ words1.filter isCode, c.before args0 about1 = true := by
  rw [codes_eq]
  intro c hc
  simp only [codes1, List.mem_cons, List.not_mem_nil, or_false] at hc
  rcases hc with rfl | rfl | rfl | rfl | rfl | rfl | rfl | rfl | rfl | rfl | rfl | rfl | rfl | rfl
  · exact w_c0
  · exact w_c1
  · exact w_c2
  · exact w_c3
  · exact w_c4
  · exact w_c5
  · exact w_c6
  · exact w_c7
  · exact w_c8
  · exact w_c9
  · exact w_c10
  · exact w_c11
  · exact w_c12
  · exact w_c13
set_option maxRecDepth 65536 in
theorem w_t1 : (words1.take 24).all (fun c => isCode c || c.before args0 about1) = true := by decide +kernel
set_option maxRecDepth 65536 in
theorem w_t2 : ((words1.drop 24).take 24).all (fun c => isCode c || c.before args0 about1) = true := by decide +kernel
set_option maxRecDepth 65536 in
theorem w_t3 : (((words1.drop 24).drop 24).take 24).all (fun c => isCode c || c.before args0 about1) = true := by decide +kernel
set_option maxRecDepth 65536 in
theorem w_t4 : (((words1.drop 24).drop 24).drop 24).all (fun c => isCode c || c.before args0 about1) = true := by decide +kernel
theorem w_tables : (allAtoms (Jvm.Cond.code x code maxLocals ret :: tables_1)).before args0 about1 = true := by
  rw [allAtoms_all]
  show words1.all (fun c => c.before args0 about1) = true
  refine all_split ?_ w_codes
  rw [← List.take_append_drop 24 words1, List.all_append, w_t1, ← List.take_append_drop 24 (words1.drop 24), List.all_append, w_t2, ← List.take_append_drop 24 ((words1.drop 24).drop 24), List.all_append, w_t3, w_t4]
  rfl
set_option maxRecDepth 65536 in
theorem w_case : (Jvm.Cond.and given_1 narrow_1).before args0 about1 = true := by decide +kernel
theorem w_applies : (headSpec (Jvm.Cond.code x code maxLocals ret :: tables_1) room_1).applies x e0.platform about1 = true :=
  (Spec.applies_iff w_frames).mpr ⟨w_running, w_runnable, w_alone, w_named, w_hears, w_ripe, w_room, w_tables⟩
theorem atStart : AtStart classFile x code maxLocals ret World_1 tables_1 room_1 Calls_1 rest_1 Pre_1 launch0 p0 e0 about1 theMethod args0 below0 :=
  ⟨lists_1, trivial, launch0.admits_env _ _ _, launch0.least_env, fairChoices_fair.cas, fairChoices_fair.clock, w_frames, w_args, w_heap, w_applies, trivial, trivial, w_case⟩
end start1
theorem witness_1 : WitnessClaimed_1 := ⟨start1.p0, start1.e0, start1.about1, start1.theMethod, start1.args0, start1.below0, start1.atStart⟩
end Jvm.Pilot.@@N@@
